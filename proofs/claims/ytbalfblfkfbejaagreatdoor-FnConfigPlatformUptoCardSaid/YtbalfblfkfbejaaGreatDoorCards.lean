/-
  DERIVED. GIVEN WITH THE SEED: THE CARDS: each row of YtbalfblfkfbejaaGreatDoorRows.lean that lists a variable, with what it lists TIED to the program's text (the seventh form; the later family's looks); each row that meets fmt, with fmt's text TOLD by the authors' own Lean function (tested against real Go, not proved from fmt's source: count such statements apart). THE CARD IS WHAT COUNTS. Prove the row's statement (the work); the ties are given (YtbalfblfkfbejaaGreatDoorTie.lean); close each card by the builder's one call (the guide's Derived/Test/ToyasCard.lean, 'card_holds'). Laid BY PROGRAM, IN A SANDBOX (cutbox-door.mjs). By AI agents, Wed Nov 11 2026. No macro, syntax, notation, axiom, sorry.
-/
import Derived.Test.YtbalfblfkfbejaaGreatDoorRows
import GoSem.ClaimSeven
namespace Go.Proofs.YtbalfblfkfbejaaGreatDoor
namespace Rows

/-- THE TIED CARD OF 'laws.FnConfigParse'. -/
def fnConfigParseCard : Claim7 := { stood := { row := fnConfigParseRow, standIns := [], harness := (true, "cab5d2085ac50fa25e9975c06be685eae0132a104b41af025413efd1282bb2cd"), looks := true }, kinds := [], alts := [], laidByText := true, laidKinds := [.data, .sentinel, .pinned], laidTests := true, laidLooks := .later }
def FnConfigParseCardSaid : Prop := Claim7.holds Tryz.pinned (.plain (OpenSpec.ofChange fnConfigParseSpec)) fnConfigParseCard

/-- THE TIED CARD OF 'laws.FnManifestCut'. -/
def fnManifestCutCard : Claim7 := { stood := { row := fnManifestCutRow, standIns := [], harness := (true, "cab5d2085ac50fa25e9975c06be685eae0132a104b41af025413efd1282bb2cd"), looks := true }, kinds := [], alts := [], laidByText := true, laidKinds := [.data, .sentinel, .pinned], laidTests := true, laidLooks := .later }
def FnManifestCutCardSaid : Prop := Claim7.holds Tryz.pinned (.plain (OpenSpec.ofChange fnManifestCutSpec)) fnManifestCutCard

/-- THE TIED CARD OF 'laws.FnManifestParse'. -/
def fnManifestParseCard : Claim7 := { stood := { row := fnManifestParseRow, standIns := [], harness := (true, "cab5d2085ac50fa25e9975c06be685eae0132a104b41af025413efd1282bb2cd"), looks := true }, kinds := [], alts := [], laidByText := true, laidKinds := [.data, .sentinel, .pinned], laidTests := true, laidLooks := .later }
def FnManifestParseCardSaid : Prop := Claim7.holds Tryz.pinned (.plain (OpenSpec.ofChange fnManifestParseSpec)) fnManifestParseCard

/-- THE TIED CARD OF 'laws.FnManifestText'. -/
def fnManifestTextCard : Claim7 := { stood := { row := fnManifestTextRow, standIns := [], harness := (true, "cab5d2085ac50fa25e9975c06be685eae0132a104b41af025413efd1282bb2cd"), looks := true }, kinds := [], alts := [], laidByText := true, laidKinds := [.data, .sentinel, .pinned], laidTests := true, laidLooks := .later }
def FnManifestTextCardSaid : Prop := Claim7.holds Tryz.pinned (.plain (OpenSpec.ofChange fnManifestTextSpec)) fnManifestTextCard

/-- THE TIED CARD OF 'laws.FnConfigText'. -/
def fnConfigTextCard : Claim7 := { stood := { row := fnConfigTextRow, standIns := [], harness := (true, "cab5d2085ac50fa25e9975c06be685eae0132a104b41af025413efd1282bb2cd"), looks := true }, kinds := [], alts := [], laidByText := true, laidKinds := [.data, .sentinel, .pinned], laidTests := true, laidLooks := .later }
def FnConfigTextCardSaid : Prop := Claim7.holds Tryz.pinned (.plain (OpenSpec.ofChange fnConfigTextSpec)) fnConfigTextCard

/-- THE TIED CARD OF 'laws.FnConfigPlatform'. -/
def fnConfigPlatformCard : Claim7 := { stood := { row := fnConfigPlatformRow, standIns := [], harness := (true, "cab5d2085ac50fa25e9975c06be685eae0132a104b41af025413efd1282bb2cd"), looks := true }, kinds := [], alts := [], laidByText := true, laidKinds := [.data, .sentinel, .pinned], laidTests := true, laidLooks := .later }
def FnConfigPlatformCardSaid : Prop := Claim7.holds Tryz.pinned (.plain (OpenSpec.ofChange fnConfigPlatformSpec)) fnConfigPlatformCard

/-- THE TIED CARD OF 'laws.FnConfigCopy'. -/
def fnConfigCopyCard : Claim7 := { stood := { row := fnConfigCopyRow, standIns := [], harness := (true, "cab5d2085ac50fa25e9975c06be685eae0132a104b41af025413efd1282bb2cd"), looks := true }, kinds := [], alts := [], laidByText := true, laidKinds := [.data, .sentinel, .pinned], laidTests := true, laidLooks := .later }
def FnConfigCopyCardSaid : Prop := Claim7.holds Tryz.pinned (.plain (OpenSpec.ofChange fnConfigCopySpec)) fnConfigCopyCard

/-- THE TIED CARD OF 'laws.FnManifestCopy'. -/
def fnManifestCopyCard : Claim7 := { stood := { row := fnManifestCopyRow, standIns := [], harness := (true, "cab5d2085ac50fa25e9975c06be685eae0132a104b41af025413efd1282bb2cd"), looks := true }, kinds := [], alts := [], laidByText := true, laidKinds := [.data, .sentinel, .pinned], laidTests := true, laidLooks := .later }
def FnManifestCopyCardSaid : Prop := Claim7.holds Tryz.pinned (.plain (OpenSpec.ofChange fnManifestCopySpec)) fnManifestCopyCard

/-- THE SECOND FORM's CARD OF 'laws.FnConfigParse'. -/
def fnConfigParseUptoCard : Claim7 := { stood := { row := fnConfigParseUptoRow, standIns := [], harness := (true, "cab5d2085ac50fa25e9975c06be685eae0132a104b41af025413efd1282bb2cd"), looks := true }, kinds := [], alts := [], laidByText := true, laidKinds := [.data, .sentinel, .pinned], laidTests := true, laidLooks := .later }
def FnConfigParseUptoCardSaid : Prop := Claim7.holds Tryz.pinned (.plain (OpenSpec.upto fnConfigParseSpec)) fnConfigParseUptoCard

/-- THE SECOND FORM's CARD OF 'laws.FnManifestCut'. -/
def fnManifestCutUptoCard : Claim7 := { stood := { row := fnManifestCutUptoRow, standIns := [], harness := (true, "cab5d2085ac50fa25e9975c06be685eae0132a104b41af025413efd1282bb2cd"), looks := true }, kinds := [], alts := [], laidByText := true, laidKinds := [.data, .sentinel, .pinned], laidTests := true, laidLooks := .later }
def FnManifestCutUptoCardSaid : Prop := Claim7.holds Tryz.pinned (.plain (OpenSpec.upto fnManifestCutSpec)) fnManifestCutUptoCard

/-- THE SECOND FORM's CARD OF 'laws.FnManifestParse'. -/
def fnManifestParseUptoCard : Claim7 := { stood := { row := fnManifestParseUptoRow, standIns := [], harness := (true, "cab5d2085ac50fa25e9975c06be685eae0132a104b41af025413efd1282bb2cd"), looks := true }, kinds := [], alts := [], laidByText := true, laidKinds := [.data, .sentinel, .pinned], laidTests := true, laidLooks := .later }
def FnManifestParseUptoCardSaid : Prop := Claim7.holds Tryz.pinned (.plain (OpenSpec.upto fnManifestParseSpec)) fnManifestParseUptoCard

/-- THE SECOND FORM's CARD OF 'laws.FnManifestText'. -/
def fnManifestTextUptoCard : Claim7 := { stood := { row := fnManifestTextUptoRow, standIns := [], harness := (true, "cab5d2085ac50fa25e9975c06be685eae0132a104b41af025413efd1282bb2cd"), looks := true }, kinds := [], alts := [], laidByText := true, laidKinds := [.data, .sentinel, .pinned], laidTests := true, laidLooks := .later }
def FnManifestTextUptoCardSaid : Prop := Claim7.holds Tryz.pinned (.plain (OpenSpec.upto fnManifestTextSpec)) fnManifestTextUptoCard

/-- THE SECOND FORM's CARD OF 'laws.FnConfigText'. -/
def fnConfigTextUptoCard : Claim7 := { stood := { row := fnConfigTextUptoRow, standIns := [], harness := (true, "cab5d2085ac50fa25e9975c06be685eae0132a104b41af025413efd1282bb2cd"), looks := true }, kinds := [], alts := [], laidByText := true, laidKinds := [.data, .sentinel, .pinned], laidTests := true, laidLooks := .later }
def FnConfigTextUptoCardSaid : Prop := Claim7.holds Tryz.pinned (.plain (OpenSpec.upto fnConfigTextSpec)) fnConfigTextUptoCard

/-- THE SECOND FORM's CARD OF 'laws.FnConfigPlatform'. -/
def fnConfigPlatformUptoCard : Claim7 := { stood := { row := fnConfigPlatformUptoRow, standIns := [], harness := (true, "cab5d2085ac50fa25e9975c06be685eae0132a104b41af025413efd1282bb2cd"), looks := true }, kinds := [], alts := [], laidByText := true, laidKinds := [.data, .sentinel, .pinned], laidTests := true, laidLooks := .later }
def FnConfigPlatformUptoCardSaid : Prop := Claim7.holds Tryz.pinned (.plain (OpenSpec.upto fnConfigPlatformSpec)) fnConfigPlatformUptoCard

/-- THE SECOND FORM's CARD OF 'laws.FnConfigCopy'. -/
def fnConfigCopyUptoCard : Claim7 := { stood := { row := fnConfigCopyUptoRow, standIns := [], harness := (true, "cab5d2085ac50fa25e9975c06be685eae0132a104b41af025413efd1282bb2cd"), looks := true }, kinds := [], alts := [], laidByText := true, laidKinds := [.data, .sentinel, .pinned], laidTests := true, laidLooks := .later }
def FnConfigCopyUptoCardSaid : Prop := Claim7.holds Tryz.pinned (.plain (OpenSpec.upto fnConfigCopySpec)) fnConfigCopyUptoCard

/-- THE SECOND FORM's CARD OF 'laws.FnManifestCopy'. -/
def fnManifestCopyUptoCard : Claim7 := { stood := { row := fnManifestCopyUptoRow, standIns := [], harness := (true, "cab5d2085ac50fa25e9975c06be685eae0132a104b41af025413efd1282bb2cd"), looks := true }, kinds := [], alts := [], laidByText := true, laidKinds := [.data, .sentinel, .pinned], laidTests := true, laidLooks := .later }
def FnManifestCopyUptoCardSaid : Prop := Claim7.holds Tryz.pinned (.plain (OpenSpec.upto fnManifestCopySpec)) fnManifestCopyUptoCard
end Rows
end Go.Proofs.YtbalfblfkfbejaaGreatDoor
