/- A start at which the three errors of package io stand as their initialisers lay them (one list for all rows of this seat). -/
import Derived.Test.YtcfkjhgchjgkeaaDoorRows
import Derived.ProofKit
import Derived.LaidLaws
import Derived.Lib.LaidTab
namespace Go.Proofs.YtcfkjhgchjgkeaaDoor
open Go.RowKit
abbrev txt1 : ByteArray := { data := #[115, 104, 111, 114, 116, 32, 98, 117, 102, 102, 101, 114] }
abbrev txt2 : ByteArray := { data := #[69, 79, 70] }
abbrev txt3 : ByteArray := { data := #[117, 110, 101, 120, 112, 101, 99, 116, 101, 100, 32, 69, 79, 70] }
noncomputable def low : Nat := (World.holding Tryd.prog default ⟨#[], #[], []⟩).heap.size
def layPtr (b : Nat) : Obj → Obj
  | .cells _ t frozen => .cells #[.iface 57 (.pointer (some ⟨b, 0, none⟩))] t frozen
  | o => o
noncomputable def laid_world (os : Os) : World :=
  let w0 := World.holding Tryd.prog os ⟨#[.cells #[.string txt1] 74, .cells #[.string txt2] 74, .cells #[.string txt3] 74], #[], []⟩
  { w0 with heap := ((w0.heap.modify 1 (layPtr low)).modify 2 (layPtr (low + 1))).modify 3 (layPtr (low + 2)) }
theorem laid_met (os : Os) (args : Array Value) : laidMet Tryd.prog [("io.ErrShortBuffer", Rows.laid_io_ErrShortBuffer), ("io.EOF", Rows.laid_io_EOF), ("io.ErrUnexpectedEOF", Rows.laid_io_ErrUnexpectedEOF)] ((laid_world os).forCall (fun _ _ => 0) ⟨#[], args, []⟩).memory :=
  laidMet_of_run' 8 (by kernel_rfl) (by kernel_rfl)
end Go.Proofs.YtcfkjhgchjgkeaaDoor
