/-
  DERIVED. GIVEN WITH THE SEED: THE CARDS: each row of YtobhegbhljbjhaaDoorRows.lean that lists a variable, with what it lists TIED to the program's text (the seventh form; the later family's looks); each row that meets fmt, with fmt's text TOLD by the authors' own Lean function (tested against real Go, not proved from fmt's source: count such statements apart). THE CARD IS WHAT COUNTS. Prove the row's statement (the work); the ties are given (YtobhegbhljbjhaaDoorTie.lean); close each card by the builder's one call (the guide's Derived/Test/ToyasCard.lean, 'card_holds'). Laid BY PROGRAM, IN A SANDBOX (cutbox-door.mjs). By AI agents, Wed Nov 11 2026. No macro, syntax, notation, axiom, sorry.
-/
import Derived.Test.YtobhegbhljbjhaaDoorRows
import GoSem.ClaimSeven
namespace Go.Proofs.YtobhegbhljbjhaaDoor
namespace Rows

/-- THE TIED CARD OF 'laws.FnVariantKeys'. -/
def fnVariantKeysCard : Claim7 := { stood := { row := fnVariantKeysRow, standIns := [], harness := (true, "f4e93db36d12617d27d9f5240e892d6517f1b1abf2ee8199bcfa6b77ad913122"), looks := false }, kinds := [], alts := [], laidByText := true, laidKinds := [.data, .pinned], laidTests := true, laidLooks := .later }
def FnVariantKeysCardSaid : Prop := Claim7.holds Tryd.pinned (.plain (OpenSpec.ofChange fnVariantKeysSpec)) fnVariantKeysCard

/-- THE SECOND FORM's CARD OF 'laws.FnVariantKeys'. -/
def fnVariantKeysUptoCard : Claim7 := { stood := { row := fnVariantKeysUptoRow, standIns := [], harness := (true, "f4e93db36d12617d27d9f5240e892d6517f1b1abf2ee8199bcfa6b77ad913122"), looks := false }, kinds := [], alts := [], laidByText := true, laidKinds := [.data, .pinned], laidTests := true, laidLooks := .later }
def FnVariantKeysUptoCardSaid : Prop := Claim7.holds Tryd.pinned (.plain (OpenSpec.upto fnVariantKeysSpec)) fnVariantKeysUptoCard
end Rows
end Go.Proofs.YtobhegbhljbjhaaDoor
