/-
  No cell of these rows narrows 'for every input' (looked for: loops, veiled, ifaces, maps, wideKeys, modest, calm, conditions, laid).
  DERIVED. THE GIVEN ROWS OF THIS SEAT. 9 by the template 'for every input the law returns true; each argument reads behind the call as it read before'; 0 by the template 'total and deterministic' (their statements: YtdnnkkmdgnikeaaTotals.lean).
  GIVEN WITH THE SEED: the statements are not yours to turn. If you find one false, say at which input.
  Laid BY PROGRAM, IN A SANDBOX (cutbox-rows.mjs): the forced cells as the released guide's own fill.sh prints them over the translation 8de3c5ed3271e056… (all of the seat's roots in one cut). By AI agents, Wed Nov 11 2026. No macro, syntax, notation, axiom, sorry.
-/
import Derived.Test.YtdnnkkmdgnikeaaChecked
import GoSem.Claim
import GoSem.ClaimJoined
import GoSem.ClaimMapViews
import Derived.JoinedTies
import Derived.KernelRfl
namespace Go.Proofs.Ytdnnkkmdgnikeaa
/- THE CELL 'sum', in the pinned program and in every row, IS THE sha256 OF THE DUMP (.gsa) THAT YtdnnkkmdgnikeaaProg.lean LOADS. Nothing in Lean hashes anything: it is a label: what it is worth is what the hold of that sum in a sandbox is worth. -/
noncomputable def Try.pinned : Pinned := { name := "ytdnnkkmdgnikeaa", sum := "8de3c5ed3271e056823108f38f20006133876284923e75ed1e96da8f8ac850c0", checked := Try.checked }
namespace Rows
def none {H : Type} : Left H := { results := [], args := [] }

/-- 'laws.FnTransposeInt16Int64': WHATEVER THE INPUT: true; the input reads as it did. -/
def fnTransposeInt16Int64Spec : ChangeSpec := { name := "fnTransposeInt16Int64", fn := fun _ => fun
  | [d1, d2] => { results := [.lit (.bool true)], args := [d1, d2] }
  | _ => none }
def fnTransposeInt16Int64Row : OpenClaim := { program := "ytdnnkkmdgnikeaa", sum := "8de3c5ed3271e056823108f38f20006133876284923e75ed1e96da8f8ac850c0", func := "given.example/pub-arrowroot/laws.FnTransposeInt16Int64", spec := "fnTransposeInt16Int64", apart := false }
def FnTransposeInt16Int64Said : Prop := fnTransposeInt16Int64Row.holds Try.pinned (OpenSpec.ofChange fnTransposeInt16Int64Spec)

/-- ITS FALSE NEIGHBOUR: 'it returns false'. Refute it at one input. -/
def fnTransposeInt16Int64Wrong : ChangeSpec := { name := "fnTransposeInt16Int64", fn := fun _ => fun
  | [d1, d2] => { results := [.lit (.bool false)], args := [d1, d2] }
  | _ => none }
def FnTransposeInt16Int64WrongFalsely : Prop := fnTransposeInt16Int64Row.holds Try.pinned (OpenSpec.ofChange fnTransposeInt16Int64Wrong)

/-- 'laws.FnTransposeInt16Uint8': WHATEVER THE INPUT: true; the input reads as it did. -/
def fnTransposeInt16Uint8Spec : ChangeSpec := { name := "fnTransposeInt16Uint8", fn := fun _ => fun
  | [d1, d2] => { results := [.lit (.bool true)], args := [d1, d2] }
  | _ => none }
def fnTransposeInt16Uint8Row : OpenClaim := { program := "ytdnnkkmdgnikeaa", sum := "8de3c5ed3271e056823108f38f20006133876284923e75ed1e96da8f8ac850c0", func := "given.example/pub-arrowroot/laws.FnTransposeInt16Uint8", spec := "fnTransposeInt16Uint8", apart := false }
def FnTransposeInt16Uint8Said : Prop := fnTransposeInt16Uint8Row.holds Try.pinned (OpenSpec.ofChange fnTransposeInt16Uint8Spec)

/-- ITS FALSE NEIGHBOUR: 'it returns false'. Refute it at one input. -/
def fnTransposeInt16Uint8Wrong : ChangeSpec := { name := "fnTransposeInt16Uint8", fn := fun _ => fun
  | [d1, d2] => { results := [.lit (.bool false)], args := [d1, d2] }
  | _ => none }
def FnTransposeInt16Uint8WrongFalsely : Prop := fnTransposeInt16Uint8Row.holds Try.pinned (OpenSpec.ofChange fnTransposeInt16Uint8Wrong)

/-- 'laws.FnTransposeUint32Int64': WHATEVER THE INPUT: true; the input reads as it did. -/
def fnTransposeUint32Int64Spec : ChangeSpec := { name := "fnTransposeUint32Int64", fn := fun _ => fun
  | [d1, d2] => { results := [.lit (.bool true)], args := [d1, d2] }
  | _ => none }
def fnTransposeUint32Int64Row : OpenClaim := { program := "ytdnnkkmdgnikeaa", sum := "8de3c5ed3271e056823108f38f20006133876284923e75ed1e96da8f8ac850c0", func := "given.example/pub-arrowroot/laws.FnTransposeUint32Int64", spec := "fnTransposeUint32Int64", apart := false }
def FnTransposeUint32Int64Said : Prop := fnTransposeUint32Int64Row.holds Try.pinned (OpenSpec.ofChange fnTransposeUint32Int64Spec)

/-- ITS FALSE NEIGHBOUR: 'it returns false'. Refute it at one input. -/
def fnTransposeUint32Int64Wrong : ChangeSpec := { name := "fnTransposeUint32Int64", fn := fun _ => fun
  | [d1, d2] => { results := [.lit (.bool false)], args := [d1, d2] }
  | _ => none }
def FnTransposeUint32Int64WrongFalsely : Prop := fnTransposeUint32Int64Row.holds Try.pinned (OpenSpec.ofChange fnTransposeUint32Int64Wrong)

/-- 'laws.FnExtremesInt16': WHATEVER THE INPUT: true; the input reads as it did. -/
def fnExtremesInt16Spec : ChangeSpec := { name := "fnExtremesInt16", fn := fun _ => fun
  | [d] => { results := [.lit (.bool true)], args := [d] }
  | _ => none }
def fnExtremesInt16Row : OpenClaim := { program := "ytdnnkkmdgnikeaa", sum := "8de3c5ed3271e056823108f38f20006133876284923e75ed1e96da8f8ac850c0", func := "given.example/pub-arrowroot/laws.FnExtremesInt16", spec := "fnExtremesInt16", apart := false }
def FnExtremesInt16Said : Prop := fnExtremesInt16Row.holds Try.pinned (OpenSpec.ofChange fnExtremesInt16Spec)

/-- ITS FALSE NEIGHBOUR: 'it returns false'. Refute it at one input. -/
def fnExtremesInt16Wrong : ChangeSpec := { name := "fnExtremesInt16", fn := fun _ => fun
  | [d] => { results := [.lit (.bool false)], args := [d] }
  | _ => none }
def FnExtremesInt16WrongFalsely : Prop := fnExtremesInt16Row.holds Try.pinned (OpenSpec.ofChange fnExtremesInt16Wrong)

/-- 'laws.FnExtremesInt64': WHATEVER THE INPUT: true; the input reads as it did. -/
def fnExtremesInt64Spec : ChangeSpec := { name := "fnExtremesInt64", fn := fun _ => fun
  | [d] => { results := [.lit (.bool true)], args := [d] }
  | _ => none }
def fnExtremesInt64Row : OpenClaim := { program := "ytdnnkkmdgnikeaa", sum := "8de3c5ed3271e056823108f38f20006133876284923e75ed1e96da8f8ac850c0", func := "given.example/pub-arrowroot/laws.FnExtremesInt64", spec := "fnExtremesInt64", apart := false }
def FnExtremesInt64Said : Prop := fnExtremesInt64Row.holds Try.pinned (OpenSpec.ofChange fnExtremesInt64Spec)

/-- ITS FALSE NEIGHBOUR: 'it returns false'. Refute it at one input. -/
def fnExtremesInt64Wrong : ChangeSpec := { name := "fnExtremesInt64", fn := fun _ => fun
  | [d] => { results := [.lit (.bool false)], args := [d] }
  | _ => none }
def FnExtremesInt64WrongFalsely : Prop := fnExtremesInt64Row.holds Try.pinned (OpenSpec.ofChange fnExtremesInt64Wrong)

/-- 'laws.FnAddUint16': WHATEVER THE INPUT: true; the input reads as it did. -/
def fnAddUint16Spec : ChangeSpec := { name := "fnAddUint16", fn := fun _ => fun
  | [d1, d2] => { results := [.lit (.bool true)], args := [d1, d2] }
  | _ => none }
def fnAddUint16Row : OpenClaim := { program := "ytdnnkkmdgnikeaa", sum := "8de3c5ed3271e056823108f38f20006133876284923e75ed1e96da8f8ac850c0", func := "given.example/pub-arrowroot/laws.FnAddUint16", spec := "fnAddUint16", apart := false }
def FnAddUint16Said : Prop := fnAddUint16Row.holds Try.pinned (OpenSpec.ofChange fnAddUint16Spec)

/-- ITS FALSE NEIGHBOUR: 'it returns false'. Refute it at one input. -/
def fnAddUint16Wrong : ChangeSpec := { name := "fnAddUint16", fn := fun _ => fun
  | [d1, d2] => { results := [.lit (.bool false)], args := [d1, d2] }
  | _ => none }
def FnAddUint16WrongFalsely : Prop := fnAddUint16Row.holds Try.pinned (OpenSpec.ofChange fnAddUint16Wrong)

/-- 'laws.FnAddUint64': WHATEVER THE INPUT: true; the input reads as it did. -/
def fnAddUint64Spec : ChangeSpec := { name := "fnAddUint64", fn := fun _ => fun
  | [d1, d2] => { results := [.lit (.bool true)], args := [d1, d2] }
  | _ => none }
def fnAddUint64Row : OpenClaim := { program := "ytdnnkkmdgnikeaa", sum := "8de3c5ed3271e056823108f38f20006133876284923e75ed1e96da8f8ac850c0", func := "given.example/pub-arrowroot/laws.FnAddUint64", spec := "fnAddUint64", apart := false }
def FnAddUint64Said : Prop := fnAddUint64Row.holds Try.pinned (OpenSpec.ofChange fnAddUint64Spec)

/-- ITS FALSE NEIGHBOUR: 'it returns false'. Refute it at one input. -/
def fnAddUint64Wrong : ChangeSpec := { name := "fnAddUint64", fn := fun _ => fun
  | [d1, d2] => { results := [.lit (.bool false)], args := [d1, d2] }
  | _ => none }
def FnAddUint64WrongFalsely : Prop := fnAddUint64Row.holds Try.pinned (OpenSpec.ofChange fnAddUint64Wrong)

/-- 'laws.FnMulInt16': WHATEVER THE INPUT: true; the input reads as it did. -/
def fnMulInt16Spec : ChangeSpec := { name := "fnMulInt16", fn := fun _ => fun
  | [d1, d2] => { results := [.lit (.bool true)], args := [d1, d2] }
  | _ => none }
def fnMulInt16Row : OpenClaim := { program := "ytdnnkkmdgnikeaa", sum := "8de3c5ed3271e056823108f38f20006133876284923e75ed1e96da8f8ac850c0", func := "given.example/pub-arrowroot/laws.FnMulInt16", spec := "fnMulInt16", apart := false }
def FnMulInt16Said : Prop := fnMulInt16Row.holds Try.pinned (OpenSpec.ofChange fnMulInt16Spec)

/-- ITS FALSE NEIGHBOUR: 'it returns false'. Refute it at one input. -/
def fnMulInt16Wrong : ChangeSpec := { name := "fnMulInt16", fn := fun _ => fun
  | [d1, d2] => { results := [.lit (.bool false)], args := [d1, d2] }
  | _ => none }
def FnMulInt16WrongFalsely : Prop := fnMulInt16Row.holds Try.pinned (OpenSpec.ofChange fnMulInt16Wrong)

/-- 'laws.FnMulInt64': WHATEVER THE INPUT: true; the input reads as it did. -/
def fnMulInt64Spec : ChangeSpec := { name := "fnMulInt64", fn := fun _ => fun
  | [d1, d2] => { results := [.lit (.bool true)], args := [d1, d2] }
  | _ => none }
def fnMulInt64Row : OpenClaim := { program := "ytdnnkkmdgnikeaa", sum := "8de3c5ed3271e056823108f38f20006133876284923e75ed1e96da8f8ac850c0", func := "given.example/pub-arrowroot/laws.FnMulInt64", spec := "fnMulInt64", apart := false }
def FnMulInt64Said : Prop := fnMulInt64Row.holds Try.pinned (OpenSpec.ofChange fnMulInt64Spec)

/-- ITS FALSE NEIGHBOUR: 'it returns false'. Refute it at one input. -/
def fnMulInt64Wrong : ChangeSpec := { name := "fnMulInt64", fn := fun _ => fun
  | [d1, d2] => { results := [.lit (.bool false)], args := [d1, d2] }
  | _ => none }
def FnMulInt64WrongFalsely : Prop := fnMulInt64Row.holds Try.pinned (OpenSpec.ofChange fnMulInt64Wrong)

/- THE SECOND FORM. 'bulk': how many values and letters a reading holds, each counted each time it is reached (what is shared counts as often as it is met; a slice's spare places count too). A statement '..UptoSaid' is the law's where the arguments, and the package variables that the reading takes, are together of bulk at most 1048576: NARROWER than '..Said'. Prove '..Said' where nothing that the law and all that it calls make is longer than what came in: it says more and counts as full. Else prove '..UptoSaid'. A law counts once. -/
mutual
def uptoBulk {H : Type} : DataW H → Nat
  | .lit (.string bytes) => bytes.length + 1
  | .lit _ => 1
  | .nil => 1
  | .ptr d => uptoBulk d + 1
  | .slice elems spare => uptoBulkAll elems + uptoBulkAll spare + 1
  | .agg parts => uptoBulkAll parts + 1
  | .iface _ d => uptoBulk d + 1
  | .map entries => uptoBulkEntries entries + 1
  | .held _ => 1
def uptoBulkAll {H : Type} : List (DataW H) → Nat
  | [] => 0
  | d :: r => uptoBulk d + uptoBulkAll r
def uptoBulkEntries {H : Type} : List (Lit × DataW H) → Nat
  | [] => 0
  | x :: r => uptoBulkEntry x + uptoBulkEntries r
def uptoBulkEntry {H : Type} : Lit × DataW H → Nat
  | (.string bytes, d) => bytes.length + uptoBulk d + 1
  | (_, d) => uptoBulk d + 1
 end
def uptoSmall : (H : Type) → List (DataW H) → Bool := fun _ ds => decide (uptoBulkAll ds ≤ 1048576)
def OpenSpec.upto (s : _root_.Go.ChangeSpec) : _root_.Go.OpenSpec := { _root_.Go.OpenSpec.ofChange s with cond := some uptoSmall }

/-- 'laws.FnTransposeInt16Int64', WHERE WHAT IT READS IS OF BULK AT MOST 1048576: true; the input reads as it did. -/
def fnTransposeInt16Int64UptoRow : OpenClaim := { program := "ytdnnkkmdgnikeaa", sum := "8de3c5ed3271e056823108f38f20006133876284923e75ed1e96da8f8ac850c0", func := "given.example/pub-arrowroot/laws.FnTransposeInt16Int64", spec := "fnTransposeInt16Int64", apart := false, narrowed := true }
def FnTransposeInt16Int64UptoSaid : Prop := fnTransposeInt16Int64UptoRow.holds Try.pinned (OpenSpec.upto fnTransposeInt16Int64Spec)

/-- 'laws.FnTransposeInt16Uint8', WHERE WHAT IT READS IS OF BULK AT MOST 1048576: true; the input reads as it did. -/
def fnTransposeInt16Uint8UptoRow : OpenClaim := { program := "ytdnnkkmdgnikeaa", sum := "8de3c5ed3271e056823108f38f20006133876284923e75ed1e96da8f8ac850c0", func := "given.example/pub-arrowroot/laws.FnTransposeInt16Uint8", spec := "fnTransposeInt16Uint8", apart := false, narrowed := true }
def FnTransposeInt16Uint8UptoSaid : Prop := fnTransposeInt16Uint8UptoRow.holds Try.pinned (OpenSpec.upto fnTransposeInt16Uint8Spec)

/-- 'laws.FnTransposeUint32Int64', WHERE WHAT IT READS IS OF BULK AT MOST 1048576: true; the input reads as it did. -/
def fnTransposeUint32Int64UptoRow : OpenClaim := { program := "ytdnnkkmdgnikeaa", sum := "8de3c5ed3271e056823108f38f20006133876284923e75ed1e96da8f8ac850c0", func := "given.example/pub-arrowroot/laws.FnTransposeUint32Int64", spec := "fnTransposeUint32Int64", apart := false, narrowed := true }
def FnTransposeUint32Int64UptoSaid : Prop := fnTransposeUint32Int64UptoRow.holds Try.pinned (OpenSpec.upto fnTransposeUint32Int64Spec)

/-- 'laws.FnExtremesInt16', WHERE WHAT IT READS IS OF BULK AT MOST 1048576: true; the input reads as it did. -/
def fnExtremesInt16UptoRow : OpenClaim := { program := "ytdnnkkmdgnikeaa", sum := "8de3c5ed3271e056823108f38f20006133876284923e75ed1e96da8f8ac850c0", func := "given.example/pub-arrowroot/laws.FnExtremesInt16", spec := "fnExtremesInt16", apart := false, narrowed := true }
def FnExtremesInt16UptoSaid : Prop := fnExtremesInt16UptoRow.holds Try.pinned (OpenSpec.upto fnExtremesInt16Spec)

/-- 'laws.FnExtremesInt64', WHERE WHAT IT READS IS OF BULK AT MOST 1048576: true; the input reads as it did. -/
def fnExtremesInt64UptoRow : OpenClaim := { program := "ytdnnkkmdgnikeaa", sum := "8de3c5ed3271e056823108f38f20006133876284923e75ed1e96da8f8ac850c0", func := "given.example/pub-arrowroot/laws.FnExtremesInt64", spec := "fnExtremesInt64", apart := false, narrowed := true }
def FnExtremesInt64UptoSaid : Prop := fnExtremesInt64UptoRow.holds Try.pinned (OpenSpec.upto fnExtremesInt64Spec)

/-- 'laws.FnAddUint16', WHERE WHAT IT READS IS OF BULK AT MOST 1048576: true; the input reads as it did. -/
def fnAddUint16UptoRow : OpenClaim := { program := "ytdnnkkmdgnikeaa", sum := "8de3c5ed3271e056823108f38f20006133876284923e75ed1e96da8f8ac850c0", func := "given.example/pub-arrowroot/laws.FnAddUint16", spec := "fnAddUint16", apart := false, narrowed := true }
def FnAddUint16UptoSaid : Prop := fnAddUint16UptoRow.holds Try.pinned (OpenSpec.upto fnAddUint16Spec)

/-- 'laws.FnAddUint64', WHERE WHAT IT READS IS OF BULK AT MOST 1048576: true; the input reads as it did. -/
def fnAddUint64UptoRow : OpenClaim := { program := "ytdnnkkmdgnikeaa", sum := "8de3c5ed3271e056823108f38f20006133876284923e75ed1e96da8f8ac850c0", func := "given.example/pub-arrowroot/laws.FnAddUint64", spec := "fnAddUint64", apart := false, narrowed := true }
def FnAddUint64UptoSaid : Prop := fnAddUint64UptoRow.holds Try.pinned (OpenSpec.upto fnAddUint64Spec)

/-- 'laws.FnMulInt16', WHERE WHAT IT READS IS OF BULK AT MOST 1048576: true; the input reads as it did. -/
def fnMulInt16UptoRow : OpenClaim := { program := "ytdnnkkmdgnikeaa", sum := "8de3c5ed3271e056823108f38f20006133876284923e75ed1e96da8f8ac850c0", func := "given.example/pub-arrowroot/laws.FnMulInt16", spec := "fnMulInt16", apart := false, narrowed := true }
def FnMulInt16UptoSaid : Prop := fnMulInt16UptoRow.holds Try.pinned (OpenSpec.upto fnMulInt16Spec)

/-- 'laws.FnMulInt64', WHERE WHAT IT READS IS OF BULK AT MOST 1048576: true; the input reads as it did. -/
def fnMulInt64UptoRow : OpenClaim := { program := "ytdnnkkmdgnikeaa", sum := "8de3c5ed3271e056823108f38f20006133876284923e75ed1e96da8f8ac850c0", func := "given.example/pub-arrowroot/laws.FnMulInt64", spec := "fnMulInt64", apart := false, narrowed := true }
def FnMulInt64UptoSaid : Prop := fnMulInt64UptoRow.holds Try.pinned (OpenSpec.upto fnMulInt64Spec)

end Rows
end Go.Proofs.Ytdnnkkmdgnikeaa
