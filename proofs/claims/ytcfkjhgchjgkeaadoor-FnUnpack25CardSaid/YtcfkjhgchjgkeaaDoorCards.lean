/-
  DERIVED. GIVEN WITH THE SEED: THE CARDS: each row of YtcfkjhgchjgkeaaDoorRows.lean that lists a variable, with what it lists TIED to the program's text (the seventh form; the later family's looks); each row that meets fmt, with fmt's text TOLD by the authors' own Lean function (tested against real Go, not proved from fmt's source: count such statements apart). THE CARD IS WHAT COUNTS. Prove the row's statement (the work); the ties are given (YtcfkjhgchjgkeaaDoorTie.lean); close each card by the builder's one call (the guide's Derived/Test/ToyasCard.lean, 'card_holds'). Laid BY PROGRAM, IN A SANDBOX (cutbox-door.mjs). By AI agents, Wed Nov 11 2026. No macro, syntax, notation, axiom, sorry.
-/
import Derived.Test.YtcfkjhgchjgkeaaDoorRows
import GoSem.ClaimSeven
namespace Go.Proofs.YtcfkjhgchjgkeaaDoor
namespace Rows

/-- THE TIED CARD OF 'laws.FnUnpack1'. -/
def fnUnpack1Card : Claim7 := { stood := { row := fnUnpack1Row, standIns := [], harness := (true, "3dc7e9bdea23e815da2c8ad603195724092035b14911fe3078184428c943ea6e"), looks := true }, kinds := [], alts := [], laidByText := true, laidKinds := [.sentinel, .sentinel, .sentinel], laidTests := true, laidLooks := .later }
def FnUnpack1CardSaid : Prop := Claim7.holds Tryd.pinned (.plain (OpenSpec.ofChange fnUnpack1Spec)) fnUnpack1Card

/-- THE TIED CARD OF 'laws.FnUnpack5'. -/
def fnUnpack5Card : Claim7 := { stood := { row := fnUnpack5Row, standIns := [], harness := (true, "3dc7e9bdea23e815da2c8ad603195724092035b14911fe3078184428c943ea6e"), looks := true }, kinds := [], alts := [], laidByText := true, laidKinds := [.sentinel, .sentinel, .sentinel], laidTests := true, laidLooks := .later }
def FnUnpack5CardSaid : Prop := Claim7.holds Tryd.pinned (.plain (OpenSpec.ofChange fnUnpack5Spec)) fnUnpack5Card

/-- THE TIED CARD OF 'laws.FnUnpack9'. -/
def fnUnpack9Card : Claim7 := { stood := { row := fnUnpack9Row, standIns := [], harness := (true, "3dc7e9bdea23e815da2c8ad603195724092035b14911fe3078184428c943ea6e"), looks := true }, kinds := [], alts := [], laidByText := true, laidKinds := [.sentinel, .sentinel, .sentinel], laidTests := true, laidLooks := .later }
def FnUnpack9CardSaid : Prop := Claim7.holds Tryd.pinned (.plain (OpenSpec.ofChange fnUnpack9Spec)) fnUnpack9Card

/-- THE TIED CARD OF 'laws.FnUnpack13'. -/
def fnUnpack13Card : Claim7 := { stood := { row := fnUnpack13Row, standIns := [], harness := (true, "3dc7e9bdea23e815da2c8ad603195724092035b14911fe3078184428c943ea6e"), looks := true }, kinds := [], alts := [], laidByText := true, laidKinds := [.sentinel, .sentinel, .sentinel], laidTests := true, laidLooks := .later }
def FnUnpack13CardSaid : Prop := Claim7.holds Tryd.pinned (.plain (OpenSpec.ofChange fnUnpack13Spec)) fnUnpack13Card

/-- THE TIED CARD OF 'laws.FnUnpack17'. -/
def fnUnpack17Card : Claim7 := { stood := { row := fnUnpack17Row, standIns := [], harness := (true, "3dc7e9bdea23e815da2c8ad603195724092035b14911fe3078184428c943ea6e"), looks := true }, kinds := [], alts := [], laidByText := true, laidKinds := [.sentinel, .sentinel, .sentinel], laidTests := true, laidLooks := .later }
def FnUnpack17CardSaid : Prop := Claim7.holds Tryd.pinned (.plain (OpenSpec.ofChange fnUnpack17Spec)) fnUnpack17Card

/-- THE TIED CARD OF 'laws.FnUnpack21'. -/
def fnUnpack21Card : Claim7 := { stood := { row := fnUnpack21Row, standIns := [], harness := (true, "3dc7e9bdea23e815da2c8ad603195724092035b14911fe3078184428c943ea6e"), looks := true }, kinds := [], alts := [], laidByText := true, laidKinds := [.sentinel, .sentinel, .sentinel], laidTests := true, laidLooks := .later }
def FnUnpack21CardSaid : Prop := Claim7.holds Tryd.pinned (.plain (OpenSpec.ofChange fnUnpack21Spec)) fnUnpack21Card

/-- THE TIED CARD OF 'laws.FnUnpack25'. -/
def fnUnpack25Card : Claim7 := { stood := { row := fnUnpack25Row, standIns := [], harness := (true, "3dc7e9bdea23e815da2c8ad603195724092035b14911fe3078184428c943ea6e"), looks := true }, kinds := [], alts := [], laidByText := true, laidKinds := [.sentinel, .sentinel, .sentinel], laidTests := true, laidLooks := .later }
def FnUnpack25CardSaid : Prop := Claim7.holds Tryd.pinned (.plain (OpenSpec.ofChange fnUnpack25Spec)) fnUnpack25Card

/-- THE TIED CARD OF 'laws.FnUnpack29'. -/
def fnUnpack29Card : Claim7 := { stood := { row := fnUnpack29Row, standIns := [], harness := (true, "3dc7e9bdea23e815da2c8ad603195724092035b14911fe3078184428c943ea6e"), looks := true }, kinds := [], alts := [], laidByText := true, laidKinds := [.sentinel, .sentinel, .sentinel], laidTests := true, laidLooks := .later }
def FnUnpack29CardSaid : Prop := Claim7.holds Tryd.pinned (.plain (OpenSpec.ofChange fnUnpack29Spec)) fnUnpack29Card

/-- THE SECOND FORM's CARD OF 'laws.FnUnpack1'. -/
def fnUnpack1UptoCard : Claim7 := { stood := { row := fnUnpack1UptoRow, standIns := [], harness := (true, "3dc7e9bdea23e815da2c8ad603195724092035b14911fe3078184428c943ea6e"), looks := true }, kinds := [], alts := [], laidByText := true, laidKinds := [.sentinel, .sentinel, .sentinel], laidTests := true, laidLooks := .later }
def FnUnpack1UptoCardSaid : Prop := Claim7.holds Tryd.pinned (.plain (OpenSpec.upto fnUnpack1Spec)) fnUnpack1UptoCard

/-- THE SECOND FORM's CARD OF 'laws.FnUnpack5'. -/
def fnUnpack5UptoCard : Claim7 := { stood := { row := fnUnpack5UptoRow, standIns := [], harness := (true, "3dc7e9bdea23e815da2c8ad603195724092035b14911fe3078184428c943ea6e"), looks := true }, kinds := [], alts := [], laidByText := true, laidKinds := [.sentinel, .sentinel, .sentinel], laidTests := true, laidLooks := .later }
def FnUnpack5UptoCardSaid : Prop := Claim7.holds Tryd.pinned (.plain (OpenSpec.upto fnUnpack5Spec)) fnUnpack5UptoCard

/-- THE SECOND FORM's CARD OF 'laws.FnUnpack9'. -/
def fnUnpack9UptoCard : Claim7 := { stood := { row := fnUnpack9UptoRow, standIns := [], harness := (true, "3dc7e9bdea23e815da2c8ad603195724092035b14911fe3078184428c943ea6e"), looks := true }, kinds := [], alts := [], laidByText := true, laidKinds := [.sentinel, .sentinel, .sentinel], laidTests := true, laidLooks := .later }
def FnUnpack9UptoCardSaid : Prop := Claim7.holds Tryd.pinned (.plain (OpenSpec.upto fnUnpack9Spec)) fnUnpack9UptoCard

/-- THE SECOND FORM's CARD OF 'laws.FnUnpack13'. -/
def fnUnpack13UptoCard : Claim7 := { stood := { row := fnUnpack13UptoRow, standIns := [], harness := (true, "3dc7e9bdea23e815da2c8ad603195724092035b14911fe3078184428c943ea6e"), looks := true }, kinds := [], alts := [], laidByText := true, laidKinds := [.sentinel, .sentinel, .sentinel], laidTests := true, laidLooks := .later }
def FnUnpack13UptoCardSaid : Prop := Claim7.holds Tryd.pinned (.plain (OpenSpec.upto fnUnpack13Spec)) fnUnpack13UptoCard

/-- THE SECOND FORM's CARD OF 'laws.FnUnpack17'. -/
def fnUnpack17UptoCard : Claim7 := { stood := { row := fnUnpack17UptoRow, standIns := [], harness := (true, "3dc7e9bdea23e815da2c8ad603195724092035b14911fe3078184428c943ea6e"), looks := true }, kinds := [], alts := [], laidByText := true, laidKinds := [.sentinel, .sentinel, .sentinel], laidTests := true, laidLooks := .later }
def FnUnpack17UptoCardSaid : Prop := Claim7.holds Tryd.pinned (.plain (OpenSpec.upto fnUnpack17Spec)) fnUnpack17UptoCard

/-- THE SECOND FORM's CARD OF 'laws.FnUnpack21'. -/
def fnUnpack21UptoCard : Claim7 := { stood := { row := fnUnpack21UptoRow, standIns := [], harness := (true, "3dc7e9bdea23e815da2c8ad603195724092035b14911fe3078184428c943ea6e"), looks := true }, kinds := [], alts := [], laidByText := true, laidKinds := [.sentinel, .sentinel, .sentinel], laidTests := true, laidLooks := .later }
def FnUnpack21UptoCardSaid : Prop := Claim7.holds Tryd.pinned (.plain (OpenSpec.upto fnUnpack21Spec)) fnUnpack21UptoCard

/-- THE SECOND FORM's CARD OF 'laws.FnUnpack25'. -/
def fnUnpack25UptoCard : Claim7 := { stood := { row := fnUnpack25UptoRow, standIns := [], harness := (true, "3dc7e9bdea23e815da2c8ad603195724092035b14911fe3078184428c943ea6e"), looks := true }, kinds := [], alts := [], laidByText := true, laidKinds := [.sentinel, .sentinel, .sentinel], laidTests := true, laidLooks := .later }
def FnUnpack25UptoCardSaid : Prop := Claim7.holds Tryd.pinned (.plain (OpenSpec.upto fnUnpack25Spec)) fnUnpack25UptoCard

/-- THE SECOND FORM's CARD OF 'laws.FnUnpack29'. -/
def fnUnpack29UptoCard : Claim7 := { stood := { row := fnUnpack29UptoRow, standIns := [], harness := (true, "3dc7e9bdea23e815da2c8ad603195724092035b14911fe3078184428c943ea6e"), looks := true }, kinds := [], alts := [], laidByText := true, laidKinds := [.sentinel, .sentinel, .sentinel], laidTests := true, laidLooks := .later }
def FnUnpack29UptoCardSaid : Prop := Claim7.holds Tryd.pinned (.plain (OpenSpec.upto fnUnpack29Spec)) fnUnpack29UptoCard
end Rows
end Go.Proofs.YtcfkjhgchjgkeaaDoor
