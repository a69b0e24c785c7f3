/-
  NARROWER THAN 'FOR EVERY INPUT', by the rows' own cells (each row's printed sentence says how): FnCompareFloat32: laid · FnCompareInt8: laid.
  DERIVED. THE GIVEN ROWS OF THIS SEAT. 2 by the template 'for every input the law returns true; each argument reads behind the call as it read before'; 0 by the template 'total and deterministic' (their statements: YtogbpljnekgfkaaGreatDoorTotals.lean).
  GIVEN WITH THE SEED: the statements are not yours to turn. If you find one false, say at which input.
  Laid BY PROGRAM, IN A SANDBOX (cutbox-rows.mjs): the forced cells as the released guide's own fill.sh prints them over the translation 46e53586a44179df… (all of the seat's roots in one cut). By AI agents, Wed Nov 11 2026. No macro, syntax, notation, axiom, sorry.
-/
import Derived.Test.YtogbpljnekgfkaaGreatDoorChecked
import GoSem.Claim
import GoSem.ClaimJoined
import GoSem.ClaimMapViews
import Derived.JoinedTies
import Derived.KernelRfl
namespace Go.Proofs.YtogbpljnekgfkaaGreatDoor
/- THE CELL 'sum', in the pinned program and in every row, IS THE sha256 OF THE DUMP (.gsa) THAT YtogbpljnekgfkaaGreatDoorProg.lean LOADS. Nothing in Lean hashes anything: it is a label: what it is worth is what the hold of that sum in a sandbox is worth. -/
noncomputable def Tryz.pinned : Pinned := { name := "ytogbpljnekgfkaagreatdoor", sum := "46e53586a44179df2090b6402a3dd628a59ea635299971a50adfe35dbf0638d4", checked := Tryz.checked }
namespace Rows
def none {H : Type} : Left H := { results := [], args := [] }

/- WHAT THE LISTED PACKAGE-LEVEL VARIABLES READ AS WHEN THE CALL BEGINS. Each datum BY PROGRAM (the guide's laid-datum.mjs) off the statement by which the dump's own 'gosem.cut.vars' lays the variable. In a bare row this is a premise. The card (YtogbpljnekgfkaaGreatDoorCards.lean) ties it to the program's text. -/
def laid_given_example_pub_arrowroot_pub_arrow_arrow_bitutil_BitMask {H : Type} : DataW H := .agg [.lit (.int .u8 1), .lit (.int .u8 2), .lit (.int .u8 4), .lit (.int .u8 8), .lit (.int .u8 16), .lit (.int .u8 32), .lit (.int .u8 64), .lit (.int .u8 128)]
def laid_given_example_pub_arrowroot_pub_arrow_arrow_bitutil_FlippedBitMask {H : Type} : DataW H := .agg [.lit (.int .u8 254), .lit (.int .u8 253), .lit (.int .u8 251), .lit (.int .u8 247), .lit (.int .u8 239), .lit (.int .u8 223), .lit (.int .u8 191), .lit (.int .u8 127)]

/-- 'laws.FnCompareFloat32': WHATEVER THE INPUT: true; the input reads as it did. -/
def fnCompareFloat32Spec : ChangeSpec := { name := "fnCompareFloat32", vars := ["given.example/pub-arrowroot/pub/arrow/arrow/bitutil.BitMask", "given.example/pub-arrowroot/pub/arrow/arrow/bitutil.FlippedBitMask"], fn := fun _ => fun
  | [d1, d2, d3, d4, d5, d6, g1, g2] => { results := [.lit (.bool true)], args := [d1, d2, d3, d4, d5, d6], vars := [g1, g2] }
  | _ => none }
def fnCompareFloat32Row : OpenClaim := { program := "ytogbpljnekgfkaagreatdoor", sum := "46e53586a44179df2090b6402a3dd628a59ea635299971a50adfe35dbf0638d4", func := "given.example/pub-arrowroot/laws.FnCompareFloat32", spec := "fnCompareFloat32", inPlace := ["math.Float32bits", "math.Float32frombits", "math.Float64bits", "math.Float64frombits"], unfollowed := true, recurses := true, named := ["encoding/binary.LittleEndian", "given.example/pub-arrowroot/pub/arrow/arrow/bitutil.BitMask", "given.example/pub-arrowroot/pub/arrow/arrow/bitutil.FlippedBitMask"], apart := false, laid := [("given.example/pub-arrowroot/pub/arrow/arrow/bitutil.BitMask", laid_given_example_pub_arrowroot_pub_arrow_arrow_bitutil_BitMask), ("given.example/pub-arrowroot/pub/arrow/arrow/bitutil.FlippedBitMask", laid_given_example_pub_arrowroot_pub_arrow_arrow_bitutil_FlippedBitMask)] }
def FnCompareFloat32Said : Prop := fnCompareFloat32Row.holds Tryz.pinned (OpenSpec.ofChange fnCompareFloat32Spec)

/-- ITS FALSE NEIGHBOUR: 'it returns false'. Refute it at one input. -/
def fnCompareFloat32Wrong : ChangeSpec := { name := "fnCompareFloat32", vars := ["given.example/pub-arrowroot/pub/arrow/arrow/bitutil.BitMask", "given.example/pub-arrowroot/pub/arrow/arrow/bitutil.FlippedBitMask"], fn := fun _ => fun
  | [d1, d2, d3, d4, d5, d6, g1, g2] => { results := [.lit (.bool false)], args := [d1, d2, d3, d4, d5, d6], vars := [g1, g2] }
  | _ => none }
def FnCompareFloat32WrongFalsely : Prop := fnCompareFloat32Row.holds Tryz.pinned (OpenSpec.ofChange fnCompareFloat32Wrong)

/-- 'laws.FnCompareInt8': WHATEVER THE INPUT: true; the input reads as it did. -/
def fnCompareInt8Spec : ChangeSpec := { name := "fnCompareInt8", vars := ["given.example/pub-arrowroot/pub/arrow/arrow/bitutil.BitMask", "given.example/pub-arrowroot/pub/arrow/arrow/bitutil.FlippedBitMask"], fn := fun _ => fun
  | [d1, d2, d3, d4, d5, d6, g1, g2] => { results := [.lit (.bool true)], args := [d1, d2, d3, d4, d5, d6], vars := [g1, g2] }
  | _ => none }
def fnCompareInt8Row : OpenClaim := { program := "ytogbpljnekgfkaagreatdoor", sum := "46e53586a44179df2090b6402a3dd628a59ea635299971a50adfe35dbf0638d4", func := "given.example/pub-arrowroot/laws.FnCompareInt8", spec := "fnCompareInt8", inPlace := ["math.Float32bits", "math.Float64bits", "math.Float32frombits", "math.Float64frombits"], unfollowed := true, recurses := true, named := ["encoding/binary.LittleEndian", "given.example/pub-arrowroot/pub/arrow/arrow/bitutil.BitMask", "given.example/pub-arrowroot/pub/arrow/arrow/bitutil.FlippedBitMask"], apart := false, laid := [("given.example/pub-arrowroot/pub/arrow/arrow/bitutil.BitMask", laid_given_example_pub_arrowroot_pub_arrow_arrow_bitutil_BitMask), ("given.example/pub-arrowroot/pub/arrow/arrow/bitutil.FlippedBitMask", laid_given_example_pub_arrowroot_pub_arrow_arrow_bitutil_FlippedBitMask)] }
def FnCompareInt8Said : Prop := fnCompareInt8Row.holds Tryz.pinned (OpenSpec.ofChange fnCompareInt8Spec)

/-- ITS FALSE NEIGHBOUR: 'it returns false'. Refute it at one input. -/
def fnCompareInt8Wrong : ChangeSpec := { name := "fnCompareInt8", vars := ["given.example/pub-arrowroot/pub/arrow/arrow/bitutil.BitMask", "given.example/pub-arrowroot/pub/arrow/arrow/bitutil.FlippedBitMask"], fn := fun _ => fun
  | [d1, d2, d3, d4, d5, d6, g1, g2] => { results := [.lit (.bool false)], args := [d1, d2, d3, d4, d5, d6], vars := [g1, g2] }
  | _ => none }
def FnCompareInt8WrongFalsely : Prop := fnCompareInt8Row.holds Tryz.pinned (OpenSpec.ofChange fnCompareInt8Wrong)

/- THE SECOND FORM. 'bulk': how many values and letters a reading holds, each counted each time it is reached (what is shared counts as often as it is met; a slice's spare places count too). A statement '..UptoSaid' is the law's where the arguments, and the package variables that the reading takes, are together of bulk at most 1048576: NARROWER than '..Said'. Prove '..Said' where nothing that the law and all that it calls make is longer than what came in: it says more and counts as full. Else prove '..UptoSaid'. A law counts once. -/
mutual
def uptoBulk {H : Type} : DataW H → Nat
  | .lit (.string bytes) => bytes.length + 1
  | .lit _ => 1
  | .nil => 1
  | .ptr d => uptoBulk d + 1
  | .slice elems spare => uptoBulkAll elems + uptoBulkAll spare + 1
  | .agg parts => uptoBulkAll parts + 1
  | .iface _ d => uptoBulk d + 1
  | .map entries => uptoBulkEntries entries + 1
  | .held _ => 1
def uptoBulkAll {H : Type} : List (DataW H) → Nat
  | [] => 0
  | d :: r => uptoBulk d + uptoBulkAll r
def uptoBulkEntries {H : Type} : List (Lit × DataW H) → Nat
  | [] => 0
  | x :: r => uptoBulkEntry x + uptoBulkEntries r
def uptoBulkEntry {H : Type} : Lit × DataW H → Nat
  | (.string bytes, d) => bytes.length + uptoBulk d + 1
  | (_, d) => uptoBulk d + 1
 end
def uptoSmall : (H : Type) → List (DataW H) → Bool := fun _ ds => decide (uptoBulkAll ds ≤ 1048576)
def OpenSpec.upto (s : _root_.Go.ChangeSpec) : _root_.Go.OpenSpec := { _root_.Go.OpenSpec.ofChange s with cond := some uptoSmall }

/-- 'laws.FnCompareFloat32', WHERE WHAT IT READS IS OF BULK AT MOST 1048576: true; the input reads as it did. -/
def fnCompareFloat32UptoRow : OpenClaim := { program := "ytogbpljnekgfkaagreatdoor", sum := "46e53586a44179df2090b6402a3dd628a59ea635299971a50adfe35dbf0638d4", func := "given.example/pub-arrowroot/laws.FnCompareFloat32", spec := "fnCompareFloat32", inPlace := ["math.Float32bits", "math.Float32frombits", "math.Float64bits", "math.Float64frombits"], unfollowed := true, recurses := true, named := ["encoding/binary.LittleEndian", "given.example/pub-arrowroot/pub/arrow/arrow/bitutil.BitMask", "given.example/pub-arrowroot/pub/arrow/arrow/bitutil.FlippedBitMask"], apart := false, laid := [("given.example/pub-arrowroot/pub/arrow/arrow/bitutil.BitMask", laid_given_example_pub_arrowroot_pub_arrow_arrow_bitutil_BitMask), ("given.example/pub-arrowroot/pub/arrow/arrow/bitutil.FlippedBitMask", laid_given_example_pub_arrowroot_pub_arrow_arrow_bitutil_FlippedBitMask)], narrowed := true }
def FnCompareFloat32UptoSaid : Prop := fnCompareFloat32UptoRow.holds Tryz.pinned (OpenSpec.upto fnCompareFloat32Spec)

/-- 'laws.FnCompareInt8', WHERE WHAT IT READS IS OF BULK AT MOST 1048576: true; the input reads as it did. -/
def fnCompareInt8UptoRow : OpenClaim := { program := "ytogbpljnekgfkaagreatdoor", sum := "46e53586a44179df2090b6402a3dd628a59ea635299971a50adfe35dbf0638d4", func := "given.example/pub-arrowroot/laws.FnCompareInt8", spec := "fnCompareInt8", inPlace := ["math.Float32bits", "math.Float64bits", "math.Float32frombits", "math.Float64frombits"], unfollowed := true, recurses := true, named := ["encoding/binary.LittleEndian", "given.example/pub-arrowroot/pub/arrow/arrow/bitutil.BitMask", "given.example/pub-arrowroot/pub/arrow/arrow/bitutil.FlippedBitMask"], apart := false, laid := [("given.example/pub-arrowroot/pub/arrow/arrow/bitutil.BitMask", laid_given_example_pub_arrowroot_pub_arrow_arrow_bitutil_BitMask), ("given.example/pub-arrowroot/pub/arrow/arrow/bitutil.FlippedBitMask", laid_given_example_pub_arrowroot_pub_arrow_arrow_bitutil_FlippedBitMask)], narrowed := true }
def FnCompareInt8UptoSaid : Prop := fnCompareInt8UptoRow.holds Tryz.pinned (OpenSpec.upto fnCompareInt8Spec)

end Rows
end Go.Proofs.YtogbpljnekgfkaaGreatDoor
