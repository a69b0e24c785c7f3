/-
  NARROWER THAN 'FOR EVERY INPUT', by the rows' own cells (each row's printed sentence says how): FnUnpack1: laid · FnUnpack5: laid · FnUnpack9: laid · FnUnpack13: laid · FnUnpack17: laid · FnUnpack21: laid · FnUnpack25: laid · FnUnpack29: laid.
  DERIVED. THE GIVEN ROWS OF THIS SEAT. 8 by the template 'for every input the law returns true; each argument reads behind the call as it read before'; 0 by the template 'total and deterministic' (their statements: YtcfkjhgchjgkeaaDoorTotals.lean).
  GIVEN WITH THE SEED: the statements are not yours to turn. If you find one false, say at which input.
  Laid BY PROGRAM, IN A SANDBOX (cutbox-rows.mjs): the forced cells as the released guide's own fill.sh prints them over the translation 5301d01b52417c8c… (all of the seat's roots in one cut). By AI agents, Wed Nov 11 2026. No macro, syntax, notation, axiom, sorry.
-/
import Derived.Test.YtcfkjhgchjgkeaaDoorChecked
import GoSem.Claim
import GoSem.ClaimJoined
import GoSem.ClaimMapViews
import Derived.JoinedTies
import Derived.KernelRfl
namespace Go.Proofs.YtcfkjhgchjgkeaaDoor
/- THE CELL 'sum', in the pinned program and in every row, IS THE sha256 OF THE DUMP (.gsa) THAT YtcfkjhgchjgkeaaDoorProg.lean LOADS. Nothing in Lean hashes anything: it is a label: what it is worth is what the hold of that sum in a sandbox is worth. -/
noncomputable def Tryd.pinned : Pinned := { name := "ytcfkjhgchjgkeaadoor", sum := "5301d01b52417c8c99e08f64d230146265c3de63fa95356bf6e90a2211ccdc01", checked := Tryd.checked }
namespace Rows
def none {H : Type} : Left H := { results := [], args := [] }

/- WHAT THE LISTED PACKAGE-LEVEL VARIABLES READ AS WHEN THE CALL BEGINS. Each datum BY PROGRAM (the guide's laid-datum.mjs) off the statement by which the dump's own 'gosem.cut.vars' lays the variable. In a bare row this is a premise. The card (YtcfkjhgchjgkeaaDoorCards.lean) ties it to the program's text. -/
def laid_io_ErrShortBuffer {H : Type} : DataW H := .iface "*errors.errorString" (.ptr (.agg [.lit (.string [115, 104, 111, 114, 116, 32, 98, 117, 102, 102, 101, 114])]))
def laid_io_EOF {H : Type} : DataW H := .iface "*errors.errorString" (.ptr (.agg [.lit (.string [69, 79, 70])]))
def laid_io_ErrUnexpectedEOF {H : Type} : DataW H := .iface "*errors.errorString" (.ptr (.agg [.lit (.string [117, 110, 101, 120, 112, 101, 99, 116, 101, 100, 32, 69, 79, 70])]))

/-- 'laws.FnUnpack1': WHATEVER THE INPUT: true; the input reads as it did. -/
def fnUnpack1Spec : ChangeSpec := { name := "fnUnpack1", fn := fun _ => fun
  | [d] => { results := [.lit (.bool true)], args := [d] }
  | _ => none }
def fnUnpack1Row : OpenClaim := { program := "ytcfkjhgchjgkeaadoor", sum := "5301d01b52417c8c99e08f64d230146265c3de63fa95356bf6e90a2211ccdc01", func := "given.example/pub-arrowroot/laws.FnUnpack1", spec := "fnUnpack1", unfollowed := true, recurses := true, named := ["encoding/binary.LittleEndian", "io.ErrShortBuffer", "io.EOF", "io.ErrUnexpectedEOF"], apart := false, laid := [("io.ErrShortBuffer", laid_io_ErrShortBuffer), ("io.EOF", laid_io_EOF), ("io.ErrUnexpectedEOF", laid_io_ErrUnexpectedEOF)] }
def FnUnpack1Said : Prop := fnUnpack1Row.holds Tryd.pinned (OpenSpec.ofChange fnUnpack1Spec)

/-- ITS FALSE NEIGHBOUR: 'it returns false'. Refute it at one input. -/
def fnUnpack1Wrong : ChangeSpec := { name := "fnUnpack1", fn := fun _ => fun
  | [d] => { results := [.lit (.bool false)], args := [d] }
  | _ => none }
def FnUnpack1WrongFalsely : Prop := fnUnpack1Row.holds Tryd.pinned (OpenSpec.ofChange fnUnpack1Wrong)

/-- 'laws.FnUnpack5': WHATEVER THE INPUT: true; the input reads as it did. -/
def fnUnpack5Spec : ChangeSpec := { name := "fnUnpack5", fn := fun _ => fun
  | [d] => { results := [.lit (.bool true)], args := [d] }
  | _ => none }
def fnUnpack5Row : OpenClaim := { program := "ytcfkjhgchjgkeaadoor", sum := "5301d01b52417c8c99e08f64d230146265c3de63fa95356bf6e90a2211ccdc01", func := "given.example/pub-arrowroot/laws.FnUnpack5", spec := "fnUnpack5", unfollowed := true, recurses := true, named := ["encoding/binary.LittleEndian", "io.ErrShortBuffer", "io.EOF", "io.ErrUnexpectedEOF"], apart := false, laid := [("io.ErrShortBuffer", laid_io_ErrShortBuffer), ("io.EOF", laid_io_EOF), ("io.ErrUnexpectedEOF", laid_io_ErrUnexpectedEOF)] }
def FnUnpack5Said : Prop := fnUnpack5Row.holds Tryd.pinned (OpenSpec.ofChange fnUnpack5Spec)

/-- ITS FALSE NEIGHBOUR: 'it returns false'. Refute it at one input. -/
def fnUnpack5Wrong : ChangeSpec := { name := "fnUnpack5", fn := fun _ => fun
  | [d] => { results := [.lit (.bool false)], args := [d] }
  | _ => none }
def FnUnpack5WrongFalsely : Prop := fnUnpack5Row.holds Tryd.pinned (OpenSpec.ofChange fnUnpack5Wrong)

/-- 'laws.FnUnpack9': WHATEVER THE INPUT: true; the input reads as it did. -/
def fnUnpack9Spec : ChangeSpec := { name := "fnUnpack9", fn := fun _ => fun
  | [d] => { results := [.lit (.bool true)], args := [d] }
  | _ => none }
def fnUnpack9Row : OpenClaim := { program := "ytcfkjhgchjgkeaadoor", sum := "5301d01b52417c8c99e08f64d230146265c3de63fa95356bf6e90a2211ccdc01", func := "given.example/pub-arrowroot/laws.FnUnpack9", spec := "fnUnpack9", unfollowed := true, recurses := true, named := ["encoding/binary.LittleEndian", "io.ErrShortBuffer", "io.EOF", "io.ErrUnexpectedEOF"], apart := false, laid := [("io.ErrShortBuffer", laid_io_ErrShortBuffer), ("io.EOF", laid_io_EOF), ("io.ErrUnexpectedEOF", laid_io_ErrUnexpectedEOF)] }
def FnUnpack9Said : Prop := fnUnpack9Row.holds Tryd.pinned (OpenSpec.ofChange fnUnpack9Spec)

/-- ITS FALSE NEIGHBOUR: 'it returns false'. Refute it at one input. -/
def fnUnpack9Wrong : ChangeSpec := { name := "fnUnpack9", fn := fun _ => fun
  | [d] => { results := [.lit (.bool false)], args := [d] }
  | _ => none }
def FnUnpack9WrongFalsely : Prop := fnUnpack9Row.holds Tryd.pinned (OpenSpec.ofChange fnUnpack9Wrong)

/-- 'laws.FnUnpack13': WHATEVER THE INPUT: true; the input reads as it did. -/
def fnUnpack13Spec : ChangeSpec := { name := "fnUnpack13", fn := fun _ => fun
  | [d] => { results := [.lit (.bool true)], args := [d] }
  | _ => none }
def fnUnpack13Row : OpenClaim := { program := "ytcfkjhgchjgkeaadoor", sum := "5301d01b52417c8c99e08f64d230146265c3de63fa95356bf6e90a2211ccdc01", func := "given.example/pub-arrowroot/laws.FnUnpack13", spec := "fnUnpack13", unfollowed := true, recurses := true, named := ["encoding/binary.LittleEndian", "io.ErrShortBuffer", "io.EOF", "io.ErrUnexpectedEOF"], apart := false, laid := [("io.ErrShortBuffer", laid_io_ErrShortBuffer), ("io.EOF", laid_io_EOF), ("io.ErrUnexpectedEOF", laid_io_ErrUnexpectedEOF)] }
def FnUnpack13Said : Prop := fnUnpack13Row.holds Tryd.pinned (OpenSpec.ofChange fnUnpack13Spec)

/-- ITS FALSE NEIGHBOUR: 'it returns false'. Refute it at one input. -/
def fnUnpack13Wrong : ChangeSpec := { name := "fnUnpack13", fn := fun _ => fun
  | [d] => { results := [.lit (.bool false)], args := [d] }
  | _ => none }
def FnUnpack13WrongFalsely : Prop := fnUnpack13Row.holds Tryd.pinned (OpenSpec.ofChange fnUnpack13Wrong)

/-- 'laws.FnUnpack17': WHATEVER THE INPUT: true; the input reads as it did. -/
def fnUnpack17Spec : ChangeSpec := { name := "fnUnpack17", fn := fun _ => fun
  | [d] => { results := [.lit (.bool true)], args := [d] }
  | _ => none }
def fnUnpack17Row : OpenClaim := { program := "ytcfkjhgchjgkeaadoor", sum := "5301d01b52417c8c99e08f64d230146265c3de63fa95356bf6e90a2211ccdc01", func := "given.example/pub-arrowroot/laws.FnUnpack17", spec := "fnUnpack17", unfollowed := true, recurses := true, named := ["encoding/binary.LittleEndian", "io.ErrShortBuffer", "io.EOF", "io.ErrUnexpectedEOF"], apart := false, laid := [("io.ErrShortBuffer", laid_io_ErrShortBuffer), ("io.EOF", laid_io_EOF), ("io.ErrUnexpectedEOF", laid_io_ErrUnexpectedEOF)] }
def FnUnpack17Said : Prop := fnUnpack17Row.holds Tryd.pinned (OpenSpec.ofChange fnUnpack17Spec)

/-- ITS FALSE NEIGHBOUR: 'it returns false'. Refute it at one input. -/
def fnUnpack17Wrong : ChangeSpec := { name := "fnUnpack17", fn := fun _ => fun
  | [d] => { results := [.lit (.bool false)], args := [d] }
  | _ => none }
def FnUnpack17WrongFalsely : Prop := fnUnpack17Row.holds Tryd.pinned (OpenSpec.ofChange fnUnpack17Wrong)

/-- 'laws.FnUnpack21': WHATEVER THE INPUT: true; the input reads as it did. -/
def fnUnpack21Spec : ChangeSpec := { name := "fnUnpack21", fn := fun _ => fun
  | [d] => { results := [.lit (.bool true)], args := [d] }
  | _ => none }
def fnUnpack21Row : OpenClaim := { program := "ytcfkjhgchjgkeaadoor", sum := "5301d01b52417c8c99e08f64d230146265c3de63fa95356bf6e90a2211ccdc01", func := "given.example/pub-arrowroot/laws.FnUnpack21", spec := "fnUnpack21", unfollowed := true, recurses := true, named := ["encoding/binary.LittleEndian", "io.ErrShortBuffer", "io.EOF", "io.ErrUnexpectedEOF"], apart := false, laid := [("io.ErrShortBuffer", laid_io_ErrShortBuffer), ("io.EOF", laid_io_EOF), ("io.ErrUnexpectedEOF", laid_io_ErrUnexpectedEOF)] }
def FnUnpack21Said : Prop := fnUnpack21Row.holds Tryd.pinned (OpenSpec.ofChange fnUnpack21Spec)

/-- ITS FALSE NEIGHBOUR: 'it returns false'. Refute it at one input. -/
def fnUnpack21Wrong : ChangeSpec := { name := "fnUnpack21", fn := fun _ => fun
  | [d] => { results := [.lit (.bool false)], args := [d] }
  | _ => none }
def FnUnpack21WrongFalsely : Prop := fnUnpack21Row.holds Tryd.pinned (OpenSpec.ofChange fnUnpack21Wrong)

/-- 'laws.FnUnpack25': WHATEVER THE INPUT: true; the input reads as it did. -/
def fnUnpack25Spec : ChangeSpec := { name := "fnUnpack25", fn := fun _ => fun
  | [d] => { results := [.lit (.bool true)], args := [d] }
  | _ => none }
def fnUnpack25Row : OpenClaim := { program := "ytcfkjhgchjgkeaadoor", sum := "5301d01b52417c8c99e08f64d230146265c3de63fa95356bf6e90a2211ccdc01", func := "given.example/pub-arrowroot/laws.FnUnpack25", spec := "fnUnpack25", unfollowed := true, recurses := true, named := ["encoding/binary.LittleEndian", "io.ErrShortBuffer", "io.EOF", "io.ErrUnexpectedEOF"], apart := false, laid := [("io.ErrShortBuffer", laid_io_ErrShortBuffer), ("io.EOF", laid_io_EOF), ("io.ErrUnexpectedEOF", laid_io_ErrUnexpectedEOF)] }
def FnUnpack25Said : Prop := fnUnpack25Row.holds Tryd.pinned (OpenSpec.ofChange fnUnpack25Spec)

/-- ITS FALSE NEIGHBOUR: 'it returns false'. Refute it at one input. -/
def fnUnpack25Wrong : ChangeSpec := { name := "fnUnpack25", fn := fun _ => fun
  | [d] => { results := [.lit (.bool false)], args := [d] }
  | _ => none }
def FnUnpack25WrongFalsely : Prop := fnUnpack25Row.holds Tryd.pinned (OpenSpec.ofChange fnUnpack25Wrong)

/-- 'laws.FnUnpack29': WHATEVER THE INPUT: true; the input reads as it did. -/
def fnUnpack29Spec : ChangeSpec := { name := "fnUnpack29", fn := fun _ => fun
  | [d] => { results := [.lit (.bool true)], args := [d] }
  | _ => none }
def fnUnpack29Row : OpenClaim := { program := "ytcfkjhgchjgkeaadoor", sum := "5301d01b52417c8c99e08f64d230146265c3de63fa95356bf6e90a2211ccdc01", func := "given.example/pub-arrowroot/laws.FnUnpack29", spec := "fnUnpack29", unfollowed := true, recurses := true, named := ["encoding/binary.LittleEndian", "io.ErrShortBuffer", "io.EOF", "io.ErrUnexpectedEOF"], apart := false, laid := [("io.ErrShortBuffer", laid_io_ErrShortBuffer), ("io.EOF", laid_io_EOF), ("io.ErrUnexpectedEOF", laid_io_ErrUnexpectedEOF)] }
def FnUnpack29Said : Prop := fnUnpack29Row.holds Tryd.pinned (OpenSpec.ofChange fnUnpack29Spec)

/-- ITS FALSE NEIGHBOUR: 'it returns false'. Refute it at one input. -/
def fnUnpack29Wrong : ChangeSpec := { name := "fnUnpack29", fn := fun _ => fun
  | [d] => { results := [.lit (.bool false)], args := [d] }
  | _ => none }
def FnUnpack29WrongFalsely : Prop := fnUnpack29Row.holds Tryd.pinned (OpenSpec.ofChange fnUnpack29Wrong)

/- THE SECOND FORM. 'bulk': how many values and letters a reading holds, each counted each time it is reached (what is shared counts as often as it is met; a slice's spare places count too). A statement '..UptoSaid' is the law's where the arguments, and the package variables that the reading takes, are together of bulk at most 1048576: NARROWER than '..Said'. Prove '..Said' where nothing that the law and all that it calls make is longer than what came in: it says more and counts as full. Else prove '..UptoSaid'. A law counts once. -/
mutual
def uptoBulk {H : Type} : DataW H → Nat
  | .lit (.string bytes) => bytes.length + 1
  | .lit _ => 1
  | .nil => 1
  | .ptr d => uptoBulk d + 1
  | .slice elems spare => uptoBulkAll elems + uptoBulkAll spare + 1
  | .agg parts => uptoBulkAll parts + 1
  | .iface _ d => uptoBulk d + 1
  | .map entries => uptoBulkEntries entries + 1
  | .held _ => 1
def uptoBulkAll {H : Type} : List (DataW H) → Nat
  | [] => 0
  | d :: r => uptoBulk d + uptoBulkAll r
def uptoBulkEntries {H : Type} : List (Lit × DataW H) → Nat
  | [] => 0
  | x :: r => uptoBulkEntry x + uptoBulkEntries r
def uptoBulkEntry {H : Type} : Lit × DataW H → Nat
  | (.string bytes, d) => bytes.length + uptoBulk d + 1
  | (_, d) => uptoBulk d + 1
 end
def uptoSmall : (H : Type) → List (DataW H) → Bool := fun _ ds => decide (uptoBulkAll ds ≤ 1048576)
def OpenSpec.upto (s : _root_.Go.ChangeSpec) : _root_.Go.OpenSpec := { _root_.Go.OpenSpec.ofChange s with cond := some uptoSmall }

/-- 'laws.FnUnpack1', WHERE WHAT IT READS IS OF BULK AT MOST 1048576: true; the input reads as it did. -/
def fnUnpack1UptoRow : OpenClaim := { program := "ytcfkjhgchjgkeaadoor", sum := "5301d01b52417c8c99e08f64d230146265c3de63fa95356bf6e90a2211ccdc01", func := "given.example/pub-arrowroot/laws.FnUnpack1", spec := "fnUnpack1", unfollowed := true, recurses := true, named := ["encoding/binary.LittleEndian", "io.ErrShortBuffer", "io.EOF", "io.ErrUnexpectedEOF"], apart := false, laid := [("io.ErrShortBuffer", laid_io_ErrShortBuffer), ("io.EOF", laid_io_EOF), ("io.ErrUnexpectedEOF", laid_io_ErrUnexpectedEOF)], narrowed := true }
def FnUnpack1UptoSaid : Prop := fnUnpack1UptoRow.holds Tryd.pinned (OpenSpec.upto fnUnpack1Spec)

/-- 'laws.FnUnpack5', WHERE WHAT IT READS IS OF BULK AT MOST 1048576: true; the input reads as it did. -/
def fnUnpack5UptoRow : OpenClaim := { program := "ytcfkjhgchjgkeaadoor", sum := "5301d01b52417c8c99e08f64d230146265c3de63fa95356bf6e90a2211ccdc01", func := "given.example/pub-arrowroot/laws.FnUnpack5", spec := "fnUnpack5", unfollowed := true, recurses := true, named := ["encoding/binary.LittleEndian", "io.ErrShortBuffer", "io.EOF", "io.ErrUnexpectedEOF"], apart := false, laid := [("io.ErrShortBuffer", laid_io_ErrShortBuffer), ("io.EOF", laid_io_EOF), ("io.ErrUnexpectedEOF", laid_io_ErrUnexpectedEOF)], narrowed := true }
def FnUnpack5UptoSaid : Prop := fnUnpack5UptoRow.holds Tryd.pinned (OpenSpec.upto fnUnpack5Spec)

/-- 'laws.FnUnpack9', WHERE WHAT IT READS IS OF BULK AT MOST 1048576: true; the input reads as it did. -/
def fnUnpack9UptoRow : OpenClaim := { program := "ytcfkjhgchjgkeaadoor", sum := "5301d01b52417c8c99e08f64d230146265c3de63fa95356bf6e90a2211ccdc01", func := "given.example/pub-arrowroot/laws.FnUnpack9", spec := "fnUnpack9", unfollowed := true, recurses := true, named := ["encoding/binary.LittleEndian", "io.ErrShortBuffer", "io.EOF", "io.ErrUnexpectedEOF"], apart := false, laid := [("io.ErrShortBuffer", laid_io_ErrShortBuffer), ("io.EOF", laid_io_EOF), ("io.ErrUnexpectedEOF", laid_io_ErrUnexpectedEOF)], narrowed := true }
def FnUnpack9UptoSaid : Prop := fnUnpack9UptoRow.holds Tryd.pinned (OpenSpec.upto fnUnpack9Spec)

/-- 'laws.FnUnpack13', WHERE WHAT IT READS IS OF BULK AT MOST 1048576: true; the input reads as it did. -/
def fnUnpack13UptoRow : OpenClaim := { program := "ytcfkjhgchjgkeaadoor", sum := "5301d01b52417c8c99e08f64d230146265c3de63fa95356bf6e90a2211ccdc01", func := "given.example/pub-arrowroot/laws.FnUnpack13", spec := "fnUnpack13", unfollowed := true, recurses := true, named := ["encoding/binary.LittleEndian", "io.ErrShortBuffer", "io.EOF", "io.ErrUnexpectedEOF"], apart := false, laid := [("io.ErrShortBuffer", laid_io_ErrShortBuffer), ("io.EOF", laid_io_EOF), ("io.ErrUnexpectedEOF", laid_io_ErrUnexpectedEOF)], narrowed := true }
def FnUnpack13UptoSaid : Prop := fnUnpack13UptoRow.holds Tryd.pinned (OpenSpec.upto fnUnpack13Spec)

/-- 'laws.FnUnpack17', WHERE WHAT IT READS IS OF BULK AT MOST 1048576: true; the input reads as it did. -/
def fnUnpack17UptoRow : OpenClaim := { program := "ytcfkjhgchjgkeaadoor", sum := "5301d01b52417c8c99e08f64d230146265c3de63fa95356bf6e90a2211ccdc01", func := "given.example/pub-arrowroot/laws.FnUnpack17", spec := "fnUnpack17", unfollowed := true, recurses := true, named := ["encoding/binary.LittleEndian", "io.ErrShortBuffer", "io.EOF", "io.ErrUnexpectedEOF"], apart := false, laid := [("io.ErrShortBuffer", laid_io_ErrShortBuffer), ("io.EOF", laid_io_EOF), ("io.ErrUnexpectedEOF", laid_io_ErrUnexpectedEOF)], narrowed := true }
def FnUnpack17UptoSaid : Prop := fnUnpack17UptoRow.holds Tryd.pinned (OpenSpec.upto fnUnpack17Spec)

/-- 'laws.FnUnpack21', WHERE WHAT IT READS IS OF BULK AT MOST 1048576: true; the input reads as it did. -/
def fnUnpack21UptoRow : OpenClaim := { program := "ytcfkjhgchjgkeaadoor", sum := "5301d01b52417c8c99e08f64d230146265c3de63fa95356bf6e90a2211ccdc01", func := "given.example/pub-arrowroot/laws.FnUnpack21", spec := "fnUnpack21", unfollowed := true, recurses := true, named := ["encoding/binary.LittleEndian", "io.ErrShortBuffer", "io.EOF", "io.ErrUnexpectedEOF"], apart := false, laid := [("io.ErrShortBuffer", laid_io_ErrShortBuffer), ("io.EOF", laid_io_EOF), ("io.ErrUnexpectedEOF", laid_io_ErrUnexpectedEOF)], narrowed := true }
def FnUnpack21UptoSaid : Prop := fnUnpack21UptoRow.holds Tryd.pinned (OpenSpec.upto fnUnpack21Spec)

/-- 'laws.FnUnpack25', WHERE WHAT IT READS IS OF BULK AT MOST 1048576: true; the input reads as it did. -/
def fnUnpack25UptoRow : OpenClaim := { program := "ytcfkjhgchjgkeaadoor", sum := "5301d01b52417c8c99e08f64d230146265c3de63fa95356bf6e90a2211ccdc01", func := "given.example/pub-arrowroot/laws.FnUnpack25", spec := "fnUnpack25", unfollowed := true, recurses := true, named := ["encoding/binary.LittleEndian", "io.ErrShortBuffer", "io.EOF", "io.ErrUnexpectedEOF"], apart := false, laid := [("io.ErrShortBuffer", laid_io_ErrShortBuffer), ("io.EOF", laid_io_EOF), ("io.ErrUnexpectedEOF", laid_io_ErrUnexpectedEOF)], narrowed := true }
def FnUnpack25UptoSaid : Prop := fnUnpack25UptoRow.holds Tryd.pinned (OpenSpec.upto fnUnpack25Spec)

/-- 'laws.FnUnpack29', WHERE WHAT IT READS IS OF BULK AT MOST 1048576: true; the input reads as it did. -/
def fnUnpack29UptoRow : OpenClaim := { program := "ytcfkjhgchjgkeaadoor", sum := "5301d01b52417c8c99e08f64d230146265c3de63fa95356bf6e90a2211ccdc01", func := "given.example/pub-arrowroot/laws.FnUnpack29", spec := "fnUnpack29", unfollowed := true, recurses := true, named := ["encoding/binary.LittleEndian", "io.ErrShortBuffer", "io.EOF", "io.ErrUnexpectedEOF"], apart := false, laid := [("io.ErrShortBuffer", laid_io_ErrShortBuffer), ("io.EOF", laid_io_EOF), ("io.ErrUnexpectedEOF", laid_io_ErrUnexpectedEOF)], narrowed := true }
def FnUnpack29UptoSaid : Prop := fnUnpack29UptoRow.holds Tryd.pinned (OpenSpec.upto fnUnpack29Spec)

end Rows
end Go.Proofs.YtcfkjhgchjgkeaaDoor
