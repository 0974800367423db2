/-
  DERIVED. GIVEN WITH THE SEED: THE CARDS: each row of YtandfbmdopbikaaGreatDoorRows.lean that lists a variable, with what it lists TIED to the program's text (the seventh form; the later family's looks); each row that meets fmt, with fmt's text TOLD by the authors' own Lean function (tested against real Go, not proved from fmt's source: count such statements apart). THE CARD IS WHAT COUNTS. Prove the row's statement (the work); the ties are given (YtandfbmdopbikaaGreatDoorTie.lean); close each card by the builder's one call (the guide's Derived/Test/ToyasCard.lean, 'card_holds'). Laid BY PROGRAM, IN A SANDBOX (cutbox-door.mjs). By AI agents, Wed Nov 11 2026. No macro, syntax, notation, axiom, sorry.
-/
import Derived.Test.YtandfbmdopbikaaGreatDoorRows
import GoSem.ClaimSeven
namespace Go.Proofs.YtandfbmdopbikaaGreatDoor
namespace Rows

/-- THE TIED CARD OF 'laws.FnNameTexts'. -/
def fnNameTextsCard : Claim7 := { stood := { row := fnNameTextsRow, standIns := [], harness := (true, "17cdf8700811e6a73372a2f55bab869711a0fce55fa2619c4c0fa9a091e1f17f"), looks := true }, kinds := [], alts := [], laidByText := true, laidKinds := [.data, .pinned], laidTests := true, laidLooks := .later }
def FnNameTextsCardSaid : Prop := Claim7.holds Tryz.pinned (.plain (OpenSpec.ofChange fnNameTextsSpec)) fnNameTextsCard

/-- THE SECOND FORM's CARD OF 'laws.FnNameTexts'. -/
def fnNameTextsUptoCard : Claim7 := { stood := { row := fnNameTextsUptoRow, standIns := [], harness := (true, "17cdf8700811e6a73372a2f55bab869711a0fce55fa2619c4c0fa9a091e1f17f"), looks := true }, kinds := [], alts := [], laidByText := true, laidKinds := [.data, .pinned], laidTests := true, laidLooks := .later }
def FnNameTextsUptoCardSaid : Prop := Claim7.holds Tryz.pinned (.plain (OpenSpec.upto fnNameTextsSpec)) fnNameTextsUptoCard
end Rows
end Go.Proofs.YtandfbmdopbikaaGreatDoor
