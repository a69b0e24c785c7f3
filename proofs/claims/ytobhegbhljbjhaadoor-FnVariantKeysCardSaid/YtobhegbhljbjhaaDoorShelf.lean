/-
  DERIVED: THE SHELF's CONTRACTS AT THIS DUMP, IN PLAIN WORDS (tools/lay-plain.mjs out of 'TrydShelf.lean', which tools/lay-shelf.mjs wrote): THE SAME DECLARATIONS UNDER THE SAME NAMES: 'import', 'namespace', 'open', 'def', 'theorem' AND NOTHING ELSE: no command of the shelf's: FOR A HAND-IN. Each laying: the table of numbers ('.._ren') and one theorem, a field a fact of the dump's own or the kernel's comparison; each contract: ONE APPLICATION.
-/
import Derived.Ground.MnProg
import Derived.Test.YtobhegbhljbjhaaDoorShelfL
import Derived.Shelf.Sort.Plain
import Derived.Shelf.Slices.In.SortNone2
import Derived.Ground.NamesProg
import Derived.Shelf.Unicode.ValidAny
import Derived.Test.YtobhegbhljbjhaaDoorProg
namespace Go.Proofs
open Go.Shelf
def Tryd.lays196_ren : Go.Shelf.Ren := ⟨fun | 196 => 39 | 259 => 52 | n => n, fun | 9 => 9 | 4 => 4 | 3 => 3 | 5 => 5 | 12 => 12 | 119 => 95 | 0 => 0 | 46 => 54 | 139 => 98 | 138 => 97 | 53 => 22 | n => n, fun | 3 => 0 | 4 => 1 | n => n⟩
theorem Tryd.lays196 : Go.Proofs.Lays.n196 Tryd.prog Tryd.lays196_ren := {
  mixed := by kernel_rfl
  f196 := Tryd.func39.trans (congrArg some (by kernel_rfl))
  f259 := Tryd.func52.trans (congrArg some (by kernel_rfl))
  t0 := Tryd.underlying0
  a0 := Tryd.isAgg0
  z0 := Tryd.sizeOf0
  v0 := Tryd.zeroValue0
  t3 := Tryd.underlying3
  a3 := Tryd.isAgg3
  z3 := Tryd.sizeOf3
  v3 := Tryd.zeroValue3
  t4 := Tryd.underlying4
  a4 := Tryd.isAgg4
  z4 := Tryd.sizeOf4
  v4 := Tryd.zeroValue4
  t5 := Tryd.underlying5
  a5 := Tryd.isAgg5
  z5 := Tryd.sizeOf5
  v5 := Tryd.zeroValue5
  t9 := Tryd.underlying9
  a9 := Tryd.isAgg9
  z9 := Tryd.sizeOf9
  v9 := Tryd.zeroValue9
  t12 := Tryd.underlying12
  a12 := Tryd.isAgg12
  z12 := Tryd.sizeOf12
  v12 := Tryd.zeroValue12
  t46 := Tryd.underlying54
  a46 := Tryd.isAgg54
  z46 := Tryd.sizeOf54
  v46 := Tryd.zeroValue54
  t53 := Tryd.underlying22
  a53 := Tryd.isAgg22
  z53 := Tryd.sizeOf22
  v53 := Tryd.zeroValue22
  t119 := Tryd.underlying95
  a119 := Tryd.isAgg95
  z119 := Tryd.sizeOf95
  t138 := Tryd.underlying97
  a138 := Tryd.isAgg97
  z138 := Tryd.sizeOf97
  v138 := Tryd.zeroValue97
  t139 := Tryd.underlying98
  a139 := Tryd.isAgg98
  z139 := Tryd.sizeOf98
  v139 := Tryd.zeroValue98
  g3 := by kernel_rfl
  g4 := by kernel_rfl }
open Go.RowKit Go.Lib in
/-- utf8.ValidString. -/
theorem Tryd.utf8_ValidString (s : ByteArray) (w : World) (hs : s.size ≤ 9223372036854775807) (hT : Lib.Utf8Tabs (Tryd.lays196_ren.g 3) (Tryd.lays196_ren.g 4) w) :
    Calls Tryd.prog 39 #[.string s] w fun e w' => e = .returned (.bool (Lib.validD s.data.toList)) ∧ Below w.heap.size w w' := Any.utf8_ValidString Tryd.lays196 s w hs hT
def Tryd.lays192_ren : Go.Shelf.Ren := ⟨fun | 192 => 19 | 190 => 40 | 125 => 54 | 258 => 53 | 128 => 68 | 129 => 69 | 302 => 59 | 303 => 60 | 304 => 61 | 305 => 62 | 306 => 63 | 307 => 64 | 308 => 65 | 309 => 66 | 310 => 67 | 333 => 70 | 329 => 71 | 330 => 72 | 334 => 73 | 335 => 74 | 336 => 75 | 344 => 76 | n => n, fun | 31 => 23 | 0 => 0 | 9 => 9 | 3 => 3 | 46 => 54 | 51 => 71 | 53 => 22 | 4 => 4 | 183 => 112 | 182 => 111 | 131 => 88 | 5 => 5 | 218 => 120 | 222 => 47 | 228 => 125 | 229 => 126 | n => n, fun | n => n⟩
theorem Tryd.lays192 : Go.Proofs.Lays.n192 Tryd.prog Tryd.lays192_ren := {
  mixed := by kernel_rfl
  f125 := Tryd.func54.trans (congrArg some (by kernel_rfl))
  f128 := Tryd.func68.trans (congrArg some (by kernel_rfl))
  f129 := Tryd.func69.trans (congrArg some (by kernel_rfl))
  f190 := Tryd.func40.trans (congrArg some (by kernel_rfl))
  f192 := Tryd.func19.trans (congrArg some (by kernel_rfl))
  f258 := Tryd.func53.trans (congrArg some (by kernel_rfl))
  f302 := Tryd.func59.trans (congrArg some (by kernel_rfl))
  f303 := Tryd.func60.trans (congrArg some (by kernel_rfl))
  f304 := Tryd.func61.trans (congrArg some (by kernel_rfl))
  f305 := Tryd.func62.trans (congrArg some (by kernel_rfl))
  f306 := Tryd.func63.trans (congrArg some (by kernel_rfl))
  f307 := Tryd.func64.trans (congrArg some (by kernel_rfl))
  f308 := Tryd.func65.trans (congrArg some (by kernel_rfl))
  f309 := Tryd.func66.trans (congrArg some (by kernel_rfl))
  f310 := Tryd.func67.trans (congrArg some (by kernel_rfl))
  f329 := Tryd.func71.trans (congrArg some (by kernel_rfl))
  f330 := Tryd.func72.trans (congrArg some (by kernel_rfl))
  f333 := Tryd.func70.trans (congrArg some (by kernel_rfl))
  f334 := Tryd.func73.trans (congrArg some (by kernel_rfl))
  f335 := Tryd.func74.trans (congrArg some (by kernel_rfl))
  f336 := Tryd.func75.trans (congrArg some (by kernel_rfl))
  f344 := Tryd.func76.trans (congrArg some (by kernel_rfl))
  t0 := Tryd.underlying0
  a0 := Tryd.isAgg0
  z0 := Tryd.sizeOf0
  v0 := Tryd.zeroValue0
  t3 := Tryd.underlying3
  a3 := Tryd.isAgg3
  z3 := Tryd.sizeOf3
  v3 := Tryd.zeroValue3
  t4 := Tryd.underlying4
  a4 := Tryd.isAgg4
  z4 := Tryd.sizeOf4
  v4 := Tryd.zeroValue4
  t5 := Tryd.underlying5
  a5 := Tryd.isAgg5
  z5 := Tryd.sizeOf5
  v5 := Tryd.zeroValue5
  t9 := Tryd.underlying9
  a9 := Tryd.isAgg9
  z9 := Tryd.sizeOf9
  v9 := Tryd.zeroValue9
  t31 := Tryd.underlying23
  a31 := Tryd.isAgg23
  z31 := Tryd.sizeOf23
  v31 := Tryd.zeroValue23
  t46 := Tryd.underlying54
  a46 := Tryd.isAgg54
  z46 := Tryd.sizeOf54
  v46 := Tryd.zeroValue54
  t51 := Tryd.underlying71
  a51 := Tryd.isAgg71
  z51 := Tryd.sizeOf71
  v51 := Tryd.zeroValue71
  t53 := Tryd.underlying22
  a53 := Tryd.isAgg22
  z53 := Tryd.sizeOf22
  v53 := Tryd.zeroValue22
  t131 := Tryd.underlying88
  a131 := Tryd.isAgg88
  z131 := Tryd.sizeOf88
  v131 := Tryd.zeroValue88
  t182 := Tryd.underlying111
  a182 := Tryd.isAgg111
  z182 := Tryd.sizeOf111
  v182 := Tryd.zeroValue111
  t183 := Tryd.underlying112
  a183 := Tryd.isAgg112
  z183 := Tryd.sizeOf112
  v183 := Tryd.zeroValue112
  t218 := Tryd.underlying120
  a218 := Tryd.isAgg120
  z218 := Tryd.sizeOf120
  v218 := Tryd.zeroValue120
  t222 := Tryd.underlying47
  a222 := Tryd.isAgg47
  z222 := Tryd.sizeOf47
  v222 := Tryd.zeroValue47
  t228 := Tryd.underlying125
  a228 := Tryd.isAgg125
  z228 := Tryd.sizeOf125
  v228 := Tryd.zeroValue125
  t229 := Tryd.underlying126
  a229 := Tryd.isAgg126
  z229 := Tryd.sizeOf126
  v229 := Tryd.zeroValue126 }
open Go.Sort Go.RowKit in
theorem Tryd.sort_Strings (blk off cap : Nat) (ss : List (List UInt8)) (w : World) (hH : Holds encStr w blk off ss.toArray) (hblk : blk < w.heap.size) (hsz : ss.length < 4611686018427387904) :
    Calls Tryd.prog 19 #[.slice (some ⟨blk, off, none⟩) ss.length cap] w fun e w' =>
      e = .returned (.tuple #[]) ∧ ∃ n os, w' = grow (putRow encStr (Sort.ahead w n) blk off (ss.mergeSort fun x y => decide (x ≤ y)).toArray) os := Any.sort_Strings Tryd.lays192 blk off cap ss w hH hblk hsz
open Go.RowKit Go.Sort in
/-- .. and plain. (LAID: no walk: one application.) -/
theorem Tryd.sort_Strings_none (p : Option Addr) (cap : Nat) (w : World) :
    Calls Tryd.prog 19 #[.slice p 0 cap] w fun e w' => e = .returned (.tuple #[]) ∧ w' = w := Any.sort_Strings_none Tryd.lays192 p cap w
end Go.Proofs
