/-
  DERIVED. GIVEN WITH THE SEED: THE CARDS: each row of YtogbpljnekgfkaaGreatDoorRows.lean that lists a variable, with what it lists TIED to the program's text (the seventh form; the later family's looks); each row that meets fmt, with fmt's text TOLD by the authors' own Lean function (tested against real Go, not proved from fmt's source: count such statements apart). THE CARD IS WHAT COUNTS. Prove the row's statement (the work); the ties are given (YtogbpljnekgfkaaGreatDoorTie.lean); close each card by the builder's one call (the guide's Derived/Test/ToyasCard.lean, 'card_holds'). Laid BY PROGRAM, IN A SANDBOX (cutbox-door.mjs). By AI agents, Wed Nov 11 2026. No macro, syntax, notation, axiom, sorry.
-/
import Derived.Test.YtogbpljnekgfkaaGreatDoorRows
import GoSem.ClaimSeven
namespace Go.Proofs.YtogbpljnekgfkaaGreatDoor
namespace Rows

/-- THE TIED CARD OF 'laws.FnCompareFloat32'. -/
def fnCompareFloat32Card : Claim7 := { stood := { row := fnCompareFloat32Row, standIns := [], harness := (true, "66961da36b96f3073c26f324202e32230b5414a773d5f49a56e9b0f72b63e56b"), looks := true }, kinds := [], alts := [], laidByText := true, laidKinds := [.data, .data], laidTests := true, laidLooks := .later }
def FnCompareFloat32CardSaid : Prop := Claim7.holds Tryz.pinned (.plain (OpenSpec.ofChange fnCompareFloat32Spec)) fnCompareFloat32Card

/-- THE TIED CARD OF 'laws.FnCompareInt8'. -/
def fnCompareInt8Card : Claim7 := { stood := { row := fnCompareInt8Row, standIns := [], harness := (true, "66961da36b96f3073c26f324202e32230b5414a773d5f49a56e9b0f72b63e56b"), looks := true }, kinds := [], alts := [], laidByText := true, laidKinds := [.data, .data], laidTests := true, laidLooks := .later }
def FnCompareInt8CardSaid : Prop := Claim7.holds Tryz.pinned (.plain (OpenSpec.ofChange fnCompareInt8Spec)) fnCompareInt8Card

/-- THE SECOND FORM's CARD OF 'laws.FnCompareFloat32'. -/
def fnCompareFloat32UptoCard : Claim7 := { stood := { row := fnCompareFloat32UptoRow, standIns := [], harness := (true, "66961da36b96f3073c26f324202e32230b5414a773d5f49a56e9b0f72b63e56b"), looks := true }, kinds := [], alts := [], laidByText := true, laidKinds := [.data, .data], laidTests := true, laidLooks := .later }
def FnCompareFloat32UptoCardSaid : Prop := Claim7.holds Tryz.pinned (.plain (OpenSpec.upto fnCompareFloat32Spec)) fnCompareFloat32UptoCard

/-- THE SECOND FORM's CARD OF 'laws.FnCompareInt8'. -/
def fnCompareInt8UptoCard : Claim7 := { stood := { row := fnCompareInt8UptoRow, standIns := [], harness := (true, "66961da36b96f3073c26f324202e32230b5414a773d5f49a56e9b0f72b63e56b"), looks := true }, kinds := [], alts := [], laidByText := true, laidKinds := [.data, .data], laidTests := true, laidLooks := .later }
def FnCompareInt8UptoCardSaid : Prop := Claim7.holds Tryz.pinned (.plain (OpenSpec.upto fnCompareInt8Spec)) fnCompareInt8UptoCard
end Rows
end Go.Proofs.YtogbpljnekgfkaaGreatDoor
