/-
  DERIVED. GIVEN WITH THE SEED: THE CARDS: each row of YthbokkmoafodcaaDoorRows.lean that lists a variable, with what it lists TIED to the program's text (the seventh form; the later family's looks); each row that meets fmt, with fmt's text TOLD by the authors' own Lean function (tested against real Go, not proved from fmt's source: count such statements apart). THE CARD IS WHAT COUNTS. Prove the row's statement (the work); the ties are given (YthbokkmoafodcaaDoorTie.lean); close each card by the builder's one call (the guide's Derived/Test/ToyasCard.lean, 'card_holds'). Laid BY PROGRAM, IN A SANDBOX (cutbox-door.mjs). By AI agents, Wed Nov 11 2026. No macro, syntax, notation, axiom, sorry.
-/
import Derived.Test.YthbokkmoafodcaaDoorRows
import GoSem.ClaimSeven
namespace Go.Proofs.YthbokkmoafodcaaDoor
namespace Rows

/-- THE TIED CARD OF 'laws.FnHashSum'. -/
def fnHashSumCard : Claim7 := { stood := { row := fnHashSumRow, standIns := [], harness := (true, "97a440369c142aeff9b701a1c363ba27ad2d4a34a75ff2b99622c356338505ae"), looks := true }, kinds := [], alts := [], laidByText := true, laidKinds := [.sentinel, .sentinel, .sentinel], laidTests := true, laidLooks := .later }
def FnHashSumCardSaid : Prop := Claim7.holds Tryd.pinned (.plain (OpenSpec.ofChange fnHashSumSpec)) fnHashSumCard

/-- THE TIED CARD OF 'laws.FnHashParse'. -/
def fnHashParseCard : Claim7 := { stood := { row := fnHashParseRow, standIns := [], harness := (true, "97a440369c142aeff9b701a1c363ba27ad2d4a34a75ff2b99622c356338505ae"), looks := true }, kinds := [], alts := [], laidByText := true, laidKinds := [.data, .pinned], laidTests := true, laidLooks := .later }
def FnHashParseCardSaid : Prop := Claim7.holds Tryd.pinned (.plain (OpenSpec.ofChange fnHashParseSpec)) fnHashParseCard

/-- THE SECOND FORM's CARD OF 'laws.FnHashSum'. -/
def fnHashSumUptoCard : Claim7 := { stood := { row := fnHashSumUptoRow, standIns := [], harness := (true, "97a440369c142aeff9b701a1c363ba27ad2d4a34a75ff2b99622c356338505ae"), looks := true }, kinds := [], alts := [], laidByText := true, laidKinds := [.sentinel, .sentinel, .sentinel], laidTests := true, laidLooks := .later }
def FnHashSumUptoCardSaid : Prop := Claim7.holds Tryd.pinned (.plain (OpenSpec.upto fnHashSumSpec)) fnHashSumUptoCard

/-- THE SECOND FORM's CARD OF 'laws.FnHashParse'. -/
def fnHashParseUptoCard : Claim7 := { stood := { row := fnHashParseUptoRow, standIns := [], harness := (true, "97a440369c142aeff9b701a1c363ba27ad2d4a34a75ff2b99622c356338505ae"), looks := true }, kinds := [], alts := [], laidByText := true, laidKinds := [.data, .pinned], laidTests := true, laidLooks := .later }
def FnHashParseUptoCardSaid : Prop := Claim7.holds Tryd.pinned (.plain (OpenSpec.upto fnHashParseSpec)) fnHashParseUptoCard
end Rows
end Go.Proofs.YthbokkmoafodcaaDoor
