/-
  DERIVED. GIVEN WITH THE SEED: THE CARDS: each row of YtcegjgmmbbojdaaGreatDoorRows.lean that lists a variable, with what it lists TIED to the program's text (the seventh form; the later family's looks); each row that meets fmt, with fmt's text TOLD by the authors' own Lean function (tested against real Go, not proved from fmt's source: count such statements apart). THE CARD IS WHAT COUNTS. Prove the row's statement (the work); the ties are given (YtcegjgmmbbojdaaGreatDoorTie.lean); close each card by the builder's one call (the guide's Derived/Test/ToyasCard.lean, 'card_holds'). Laid BY PROGRAM, IN A SANDBOX (cutbox-door.mjs). By AI agents, Wed Nov 11 2026. No macro, syntax, notation, axiom, sorry.
-/
import Derived.Test.YtcegjgmmbbojdaaGreatDoorRows
import GoSem.ClaimSeven
namespace Go.Proofs.YtcegjgmmbbojdaaGreatDoor
namespace Rows

/-- THE TIED CARD OF 'laws.FnManifestParse'. -/
def fnManifestParseCard : Claim7 := { stood := { row := fnManifestParseRow, standIns := [], harness := (true, "3d08b4b7a15ba102560daf97c2a6c4c1c7dece52f0712b9b1e40162b0f5e5952"), looks := true }, kinds := [], alts := [], laidByText := true, laidKinds := [.data, .sentinel, .pinned], laidTests := true, laidLooks := .later }
def FnManifestParseCardSaid : Prop := Claim7.holds Tryz.pinned (.plain (OpenSpec.ofChange fnManifestParseSpec)) fnManifestParseCard

/-- THE SECOND FORM's CARD OF 'laws.FnManifestParse'. -/
def fnManifestParseUptoCard : Claim7 := { stood := { row := fnManifestParseUptoRow, standIns := [], harness := (true, "3d08b4b7a15ba102560daf97c2a6c4c1c7dece52f0712b9b1e40162b0f5e5952"), looks := true }, kinds := [], alts := [], laidByText := true, laidKinds := [.data, .sentinel, .pinned], laidTests := true, laidLooks := .later }
def FnManifestParseUptoCardSaid : Prop := Claim7.holds Tryz.pinned (.plain (OpenSpec.upto fnManifestParseSpec)) fnManifestParseUptoCard
end Rows
end Go.Proofs.YtcegjgmmbbojdaaGreatDoor
