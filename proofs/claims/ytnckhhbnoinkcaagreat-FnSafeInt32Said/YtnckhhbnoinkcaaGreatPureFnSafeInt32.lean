/- FnSafeInt32, in plain Lean: with each of the eight types the two ranges agree (told by the kernel); at any other width only the call ahead is looked at. -/
import Derived.Test.YtnckhhbnoinkcaaGreatMFnSafeInt32x8
namespace Go.Proofs.YtnckhhbnoinkcaaGreat.Pure
open Go.RowKit Go.Proofs.YtnckhhbnoinkcaaGreat.MFnSafeInt32 Go.Proofs.YtnckhhbnoinkcaaGreatW.PrintWords Go.Proofs.YtnckhhbnoinkcaaGreatW.PrintLast
set_option maxRecDepth 100000
theorem ahead (a0 : Int) (a1 : Bool) : laws_FnSafeInt32.f 400 a0 a1 = laws_FnSafeInt32.j0 400 a0 a1 true true [2147483648] false [2147483647] := by kernel_rfl
theorem at8true : laws_FnSafeInt32.f 400 8 true = some true := by kernel_rfl
theorem at8false : laws_FnSafeInt32.f 400 8 false = some true := by kernel_rfl
theorem at16true : laws_FnSafeInt32.f 400 16 true = some true := by kernel_rfl
theorem at16false : laws_FnSafeInt32.f 400 16 false = some true := by kernel_rfl
theorem at32true : laws_FnSafeInt32.f 400 32 true = some true := by kernel_rfl
theorem at32false : laws_FnSafeInt32.f 400 32 false = some true := by kernel_rfl
theorem at64true : laws_FnSafeInt32.f 400 64 true = some true := by kernel_rfl
theorem at64false : laws_FnSafeInt32.f 400 64 false = some true := by kernel_rfl
theorem FnSafeInt32 : laws_FnSafeInt32.Pure := by
  intro a0 a1 _
  refine ⟨400, ?_⟩
  by_cases h8 : a0 = 8
  · rw [h8]
    cases a1
    · exact at8false
    · exact at8true
  by_cases h16 : a0 = 16
  · rw [h16]
    cases a1
    · exact at16false
    · exact at16true
  by_cases h32 : a0 = 32
  · rw [h32]
    cases a1
    · exact at32false
    · exact at32true
  by_cases h64 : a0 = 64
  · rw [h64]
    cases a1
    · exact at64false
    · exact at64true
  rw [ahead a0 a1]
  rw [show (400 : Nat) = 398 + 1 + 1 from rfl]
  have hb : (a0 != 64) = true := by simp [h64]
  rw [laws_FnSafeInt32.j0, if_neg h8, if_neg h16, if_neg h32, hb, laws_FnSafeInt32.j1, if_pos rfl]
end Go.Proofs.YtnckhhbnoinkcaaGreat.Pure
