/-
  DERIVED. GIVEN WITH THE SEED: THE CARDS: each row of YtinfcoalicbcbaaDoorRows.lean that lists a variable, with what it lists TIED to the program's text (the seventh form; the later family's looks); each row that meets fmt, with fmt's text TOLD by the authors' own Lean function (tested against real Go, not proved from fmt's source: count such statements apart). THE CARD IS WHAT COUNTS. Prove the row's statement (the work); the ties are given (YtinfcoalicbcbaaDoorTie.lean); close each card by the builder's one call (the guide's Derived/Test/ToyasCard.lean, 'card_holds'). Laid BY PROGRAM, IN A SANDBOX (cutbox-door.mjs). By AI agents, Wed Nov 11 2026. No macro, syntax, notation, axiom, sorry.
-/
import Derived.Test.YtinfcoalicbcbaaDoorRows
import GoSem.ClaimSeven
namespace Go.Proofs.YtinfcoalicbcbaaDoor
namespace Rows

/-- THE TIED CARD OF 'laws.FnRoundFloat32'. -/
def fnRoundFloat32Card : Claim7 := { stood := { row := fnRoundFloat32Row, standIns := [], harness := (true, "d198f2f4e18a3022dc7136d86086a9b5db26c258aa18cf74e50ca94def2d3913"), looks := false }, kinds := [], alts := [], laidByText := true, laidKinds := [.data, .data, .data], laidTests := true, laidLooks := .later }
def FnRoundFloat32CardSaid : Prop := Claim7.holds Tryd.pinned (.plain (OpenSpec.ofChange fnRoundFloat32Spec)) fnRoundFloat32Card

/-- THE SECOND FORM's CARD OF 'laws.FnRoundFloat32'. -/
def fnRoundFloat32UptoCard : Claim7 := { stood := { row := fnRoundFloat32UptoRow, standIns := [], harness := (true, "d198f2f4e18a3022dc7136d86086a9b5db26c258aa18cf74e50ca94def2d3913"), looks := false }, kinds := [], alts := [], laidByText := true, laidKinds := [.data, .data, .data], laidTests := true, laidLooks := .later }
def FnRoundFloat32UptoCardSaid : Prop := Claim7.holds Tryd.pinned (.plain (OpenSpec.upto fnRoundFloat32Spec)) fnRoundFloat32UptoCard
end Rows
end Go.Proofs.YtinfcoalicbcbaaDoor
