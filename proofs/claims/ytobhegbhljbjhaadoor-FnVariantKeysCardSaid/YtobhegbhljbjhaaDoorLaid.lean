/- A start at which the two tables of package unicode/utf8 stand as their initialisers lay them. -/
import Derived.Test.YtobhegbhljbjhaaDoorRows
import Derived.Test.YtobhegbhljbjhaaDoorMVkSx1
import Derived.ProofKit
import Derived.LaidLaws
import Derived.Lib.LaidU8T
namespace Go.Proofs.YtobhegbhljbjhaaDoor
open Go.RowKit
set_option linter.unusedVariables false
def layInts (zs : List Int) : Obj → Obj
  | .cells _ t frozen => .cells (zs.map fun z => Value.int .u8 z).toArray t frozen
  | o => o
def ranges : List Int := (List.range 16).flatMap fun i => [(Lib.accLo i : Int), (Lib.accHi i : Int)]
noncomputable def laid_world (os : Os) : World :=
  let w0 := World.holding Tryd.prog os ⟨#[], #[], []⟩
  { w0 with heap := (w0.heap.modify 0 (layInts Lib.firstTab)).modify 1 (layInts ranges) }
theorem laid_met (os : Os) (args : Array Value) : laidMet Tryd.prog [("unicode/utf8.acceptRanges", Rows.laid_unicode_utf8_acceptRanges), ("unicode/utf8.first", Rows.laid_unicode_utf8_first)] ((laid_world os).forCall (fun _ _ => 0) ⟨#[], args, []⟩).memory :=
  laidMet_of_run' 8 (by kernel_rfl) (by kernel_rfl)
theorem extra : Go.Proofs.U8Extra Tryd.prog Tryd.lays196_ren := { n3 := by kernel_rfl, n4 := by kernel_rfl, y3 := by kernel_rfl, y4 := by kernel_rfl, c5 := by kernel_rfl, c119 := by kernel_rfl, c138 := by kernel_rfl }
theorem accept_is : Rows.laid_unicode_utf8_acceptRanges = Lib.acceptData := by
  unfold Rows.laid_unicode_utf8_acceptRanges Lib.acceptData
  rfl
theorem first_is : Rows.laid_unicode_utf8_first = Lib.firstData := by
  unfold Rows.laid_unicode_utf8_first
  kernel_rfl
theorem laid_tabs {W : World} (h : laidMetH Tryd.prog [("unicode/utf8.acceptRanges", Rows.laid_unicode_utf8_acceptRanges), ("unicode/utf8.first", Rows.laid_unicode_utf8_first)] W) : MVkS.Utf8T W := by
  have h1 : laidMet Tryd.prog [("unicode/utf8.acceptRanges", Rows.laid_unicode_utf8_acceptRanges), ("unicode/utf8.first", Rows.laid_unicode_utf8_first)] W := h
  have r4 := Lib.laidMet.reads h1 (n := "unicode/utf8.acceptRanges") (d := Rows.laid_unicode_utf8_acceptRanges) List.mem_cons_self
  have r3 := Lib.laidMet.reads h1 (n := "unicode/utf8.first") (d := Rows.laid_unicode_utf8_first) (List.mem_cons_of_mem _ List.mem_cons_self)
  rw [accept_is] at r4
  rw [first_is] at r3
  exact Go.Proofs.utf8Tabs_of_readsT (Go.Proofs.U8Types.of196 Tryd.lays196) extra r3 r4
end Go.Proofs.YtobhegbhljbjhaaDoor
