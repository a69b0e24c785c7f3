/- The shelf's contract of binary.LittleEndian.Uint32 at this program (cut out of shelf.lean.txt). -/
import Derived.Ground.MnProg
import Derived.Shelf.Bin.LEUint32
import Derived.Test.YtobhegbhljbjhaaDoorProg
namespace Go.Proofs
open Go.Shelf
def Tryd.laysBin30_ren : Go.Shelf.Ren := ⟨fun | 30 => 56 | n => n, fun | 25 => 108 | 22 => 34 | 29 => 71 | 0 => 0 | 5 => 5 | 45 => 54 | n => n, fun | n => n⟩
theorem Tryd.laysBin30 : Go.Proofs.LaysBin.n30 Tryd.prog Tryd.laysBin30_ren := {
  mixed := by kernel_rfl
  f30 := Tryd.func56.trans (congrArg some (by kernel_rfl))
  t0 := Tryd.underlying0
  a0 := Tryd.isAgg0
  z0 := Tryd.sizeOf0
  v0 := Tryd.zeroValue0
  i0 := by kernel_rfl
  t5 := Tryd.underlying5
  a5 := Tryd.isAgg5
  z5 := Tryd.sizeOf5
  v5 := Tryd.zeroValue5
  i5 := by kernel_rfl
  t22 := Tryd.underlying34
  a22 := Tryd.isAgg34
  z22 := Tryd.sizeOf34
  v22 := Tryd.zeroValue34
  i22 := by kernel_rfl
  t25 := Tryd.underlying108
  a25 := Tryd.isAgg108
  z25 := Tryd.sizeOf108
  v25 := Tryd.zeroValue108
  i25 := by kernel_rfl
  t29 := Tryd.underlying71
  a29 := Tryd.isAgg71
  z29 := Tryd.sizeOf71
  v29 := Tryd.zeroValue71
  i29 := by kernel_rfl
  t45 := Tryd.underlying54
  a45 := Tryd.isAgg54
  z45 := Tryd.sizeOf54
  v45 := Tryd.zeroValue54
  i45 := by kernel_rfl }
open Go.RowKit in
/-- binary.LittleEndian.Uint32: "Uint32 returns the uint32 representation of b[0:4].": THE NUMBER THAT THE FIRST 4 BYTES SPELL, the least byte first ('Lib.leNat'). Of what was there nothing has turned (the receiver, an empty struct, is laid in a new block without cells; the statement's order is drawn). (LAID: no walk: one application.) -/
theorem Tryd.binary_LE_Uint32 (g o n c : Nat) (b0 b1 b2 b3 : UInt8) (w : World) (hn : 4 ≤ n) (c0 : w.cell? ⟨g, o, none⟩ = some (.int .u8 b0.toNat)) (c1 : w.cell? ⟨g, o + 1, none⟩ = some (.int .u8 b1.toNat)) (c2 : w.cell? ⟨g, o + 2, none⟩ = some (.int .u8 b2.toNat)) (c3 : w.cell? ⟨g, o + 3, none⟩ = some (.int .u8 b3.toNat)) :
    Calls Tryd.prog 56 #[.agg #[], .slice (some ⟨g, o, none⟩) n c] w fun e w' => e = .returned (.int .u32 (Lib.leNat [b0, b1, b2, b3])) ∧ Below w.heap.size w w' := Any.binary_LE_Uint32 Tryd.laysBin30 g o n c b0 b1 b2 b3 w hn c0 c1 c2 c3

end Go.Proofs
