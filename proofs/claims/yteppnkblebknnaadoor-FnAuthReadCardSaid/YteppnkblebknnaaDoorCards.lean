/-
  DERIVED. GIVEN WITH THE SEED: THE CARDS: each row of YteppnkblebknnaaDoorRows.lean that lists a variable, with what it lists TIED to the program's text (the seventh form; the later family's looks); each row that meets fmt, with fmt's text TOLD by the authors' own Lean function (tested against real Go, not proved from fmt's source: count such statements apart). THE CARD IS WHAT COUNTS. Prove the row's statement (the work); the ties are given (YteppnkblebknnaaDoorTie.lean); close each card by the builder's one call (the guide's Derived/Test/ToyasCard.lean, 'card_holds'). Laid BY PROGRAM, IN A SANDBOX (cutbox-door.mjs). By AI agents, Wed Nov 11 2026. No macro, syntax, notation, axiom, sorry.
-/
import Derived.Test.YteppnkblebknnaaDoorRows
import GoSem.ClaimSeven
namespace Go.Proofs.YteppnkblebknnaaDoor
namespace Rows

/-- THE TIED CARD OF 'laws.FnAuthRead'. -/
def fnAuthReadCard : Claim7 := { stood := { row := fnAuthReadRow, standIns := [], harness := (true, "8a3a5286c4d714da27ae9e06a6143120da78198348d0fd74d2032dbdb7897192"), looks := false }, kinds := [], alts := [], laidByText := true, laidKinds := [.data, .pinned], laidTests := true, laidLooks := .later }
def FnAuthReadCardSaid : Prop := Claim7.holds Tryd.pinned (.plain (OpenSpec.ofChange fnAuthReadSpec)) fnAuthReadCard

/-- THE TIED CARD OF 'laws.FnAuthBack'. -/
def fnAuthBackCard : Claim7 := { stood := { row := fnAuthBackRow, standIns := [], harness := (true, "8a3a5286c4d714da27ae9e06a6143120da78198348d0fd74d2032dbdb7897192"), looks := false }, kinds := [], alts := [], laidByText := true, laidKinds := [.data, .pinned], laidTests := true, laidLooks := .later }
def FnAuthBackCardSaid : Prop := Claim7.holds Tryd.pinned (.plain (OpenSpec.ofChange fnAuthBackSpec)) fnAuthBackCard

/-- THE SECOND FORM's CARD OF 'laws.FnAuthRead'. -/
def fnAuthReadUptoCard : Claim7 := { stood := { row := fnAuthReadUptoRow, standIns := [], harness := (true, "8a3a5286c4d714da27ae9e06a6143120da78198348d0fd74d2032dbdb7897192"), looks := false }, kinds := [], alts := [], laidByText := true, laidKinds := [.data, .pinned], laidTests := true, laidLooks := .later }
def FnAuthReadUptoCardSaid : Prop := Claim7.holds Tryd.pinned (.plain (OpenSpec.upto fnAuthReadSpec)) fnAuthReadUptoCard

/-- THE SECOND FORM's CARD OF 'laws.FnAuthBack'. -/
def fnAuthBackUptoCard : Claim7 := { stood := { row := fnAuthBackUptoRow, standIns := [], harness := (true, "8a3a5286c4d714da27ae9e06a6143120da78198348d0fd74d2032dbdb7897192"), looks := false }, kinds := [], alts := [], laidByText := true, laidKinds := [.data, .pinned], laidTests := true, laidLooks := .later }
def FnAuthBackUptoCardSaid : Prop := Claim7.holds Tryd.pinned (.plain (OpenSpec.upto fnAuthBackSpec)) fnAuthBackUptoCard
end Rows
end Go.Proofs.YteppnkblebknnaaDoor
