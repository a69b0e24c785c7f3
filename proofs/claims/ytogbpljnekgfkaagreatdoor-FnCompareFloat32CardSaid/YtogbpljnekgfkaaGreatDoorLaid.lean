/- A start at which the two tables of masks stand as their initialisers lay them. -/
import Derived.Test.YtogbpljnekgfkaaGreatDoorRows
import Derived.Test.YtogbpljnekgfkaaGreatDoorC0
import Derived.ProofKit
import Derived.LaidLaws
import Derived.Lib.LaidTab
namespace Go.Proofs.YtogbpljnekgfkaaGreatDoor
open Go.RowKit
def layTab (zs : List Int) : Obj → Obj
  | .cells _ t frozen => .cells (Cm.rowB zs) t frozen
  | o => o
noncomputable def laid_world (os : Os) : World :=
  let w0 := World.holding Tryz.prog os ⟨#[], #[], []⟩
  { w0 with heap := (w0.heap.modify 2 (layTab Cm.msk)).modify 3 (layTab Cm.fmsk) }
theorem laid_met (os : Os) (args : Array Value) : laidMet Tryz.prog [("given.example/pub-arrowroot/pub/arrow/arrow/bitutil.BitMask", Rows.laid_given_example_pub_arrowroot_pub_arrow_arrow_bitutil_BitMask), ("given.example/pub-arrowroot/pub/arrow/arrow/bitutil.FlippedBitMask", Rows.laid_given_example_pub_arrowroot_pub_arrow_arrow_bitutil_FlippedBitMask)] ((laid_world os).forCall (fun _ _ => 0) ⟨#[], args, []⟩).memory :=
  laidMet_of_run' 8 (by kernel_rfl) (by kernel_rfl)
theorem laid_tabs {W : World} (h : laidMetH Tryz.prog [("given.example/pub-arrowroot/pub/arrow/arrow/bitutil.BitMask", Rows.laid_given_example_pub_arrowroot_pub_arrow_arrow_bitutil_BitMask), ("given.example/pub-arrowroot/pub/arrow/arrow/bitutil.FlippedBitMask", Rows.laid_given_example_pub_arrowroot_pub_arrow_arrow_bitutil_FlippedBitMask)] W) : Cm.Tabs W := by
  have h1 : laidMet Tryz.prog (("given.example/pub-arrowroot/pub/arrow/arrow/bitutil.BitMask", Lib.tabData .u8 Cm.msk) :: [("given.example/pub-arrowroot/pub/arrow/arrow/bitutil.FlippedBitMask", Lib.tabData .u8 Cm.fmsk)]) W := h
  have T1 : Lib.TabIs Tryz.prog W "given.example/pub-arrowroot/pub/arrow/arrow/bitutil.BitMask" .u8 Cm.msk :=
    Lib.tabIs_of_head (g := 2) (t := 196) (e := 5) (n := 8) (by kernel_rfl) (by kernel_rfl) Tryz.underlying196 Tryz.underlying5 (by kernel_rfl) (by kernel_rfl) h1
  obtain ⟨ps, ⟨g', t', cs, fuel, p, q, r1, r2, r3, r4, r5, r6⟩, r7, r8⟩ := h1
  have h2 : laidMet Tryz.prog (("given.example/pub-arrowroot/pub/arrow/arrow/bitutil.FlippedBitMask", Lib.tabData .u8 Cm.fmsk) :: []) W := by
    subst r6
    exact ⟨q, r5, (List.nodup_append.1 r7).2.1, fun b off hb => r8 b off (List.mem_append_right _ hb)⟩
  have T2 : Lib.TabIs Tryz.prog W "given.example/pub-arrowroot/pub/arrow/arrow/bitutil.FlippedBitMask" .u8 Cm.fmsk :=
    Lib.tabIs_of_head (g := 3) (t := 196) (e := 5) (n := 8) (by kernel_rfl) (by kernel_rfl) Tryz.underlying196 Tryz.underlying5 (by kernel_rfl) (by kernel_rfl) h2
  exact ⟨fun j hj => T1.cell (g := 2) (by kernel_rfl) j hj, fun j hj => T2.cell (g := 3) (by kernel_rfl) j hj⟩
end Go.Proofs.YtogbpljnekgfkaaGreatDoor
