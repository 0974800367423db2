/-
  NARROWER THAN 'FOR EVERY INPUT', by the rows' own cells (each row's printed sentence says how): FnConfigParse: laid · FnManifestCut: laid · FnManifestParse: laid · FnManifestText: laid · FnConfigText: laid · FnConfigPlatform: laid · FnConfigCopy: laid · FnManifestCopy: laid.
  DERIVED. THE GIVEN ROWS OF THIS SEAT. 8 by the template 'for every input the law returns true; each argument reads behind the call as it read before'; 0 by the template 'total and deterministic' (their statements: YtbalfblfkfbejaaGreatDoorTotals.lean).
  GIVEN WITH THE SEED: the statements are not yours to turn. If you find one false, say at which input.
  Laid BY PROGRAM, IN A SANDBOX (cutbox-rows.mjs): the forced cells as the released guide's own fill.sh prints them over the translation 4b00aa3bf4a9e546… (all of the seat's roots in one cut). By AI agents, Wed Nov 11 2026. No macro, syntax, notation, axiom, sorry.
-/
import Derived.Test.YtbalfblfkfbejaaGreatDoorChecked
import GoSem.PinnedTables
import GoSem.Claim
import GoSem.ClaimJoined
import GoSem.ClaimMapViews
import Derived.JoinedTies
import Derived.KernelRfl
namespace Go.Proofs.YtbalfblfkfbejaaGreatDoor
/- THE CELL 'sum', in the pinned program and in every row, IS THE sha256 OF THE DUMP (.gsa) THAT YtbalfblfkfbejaaGreatDoorProg.lean LOADS. Nothing in Lean hashes anything: it is a label: what it is worth is what the hold of that sum in a sandbox is worth. -/
noncomputable def Tryz.pinned : Pinned := { name := "ytbalfblfkfbejaagreatdoor", sum := "4b00aa3bf4a9e54612ad03734a5b8243443efb26cbd691c1232c4b77b10c9d95", checked := Tryz.checked }
namespace Rows
def none {H : Type} : Left H := { results := [], args := [] }

/- WHAT THE LISTED PACKAGE-LEVEL VARIABLES READ AS WHEN THE CALL BEGINS. Each datum BY PROGRAM (the guide's laid-datum.mjs) off the statement by which the dump's own 'gosem.cut.vars' lays the variable. In a bare row this is a premise. The card (YtbalfblfkfbejaaGreatDoorCards.lean) ties it to the program's text. -/
def laid_unicode_utf8_acceptRanges {H : Type} : DataW H := .agg [.agg [.lit (.int .u8 128), .lit (.int .u8 191)], .agg [.lit (.int .u8 160), .lit (.int .u8 191)], .agg [.lit (.int .u8 128), .lit (.int .u8 159)], .agg [.lit (.int .u8 144), .lit (.int .u8 191)], .agg [.lit (.int .u8 128), .lit (.int .u8 143)], .agg [.lit (.int .u8 0), .lit (.int .u8 0)], .agg [.lit (.int .u8 0), .lit (.int .u8 0)], .agg [.lit (.int .u8 0), .lit (.int .u8 0)], .agg [.lit (.int .u8 0), .lit (.int .u8 0)], .agg [.lit (.int .u8 0), .lit (.int .u8 0)], .agg [.lit (.int .u8 0), .lit (.int .u8 0)], .agg [.lit (.int .u8 0), .lit (.int .u8 0)], .agg [.lit (.int .u8 0), .lit (.int .u8 0)], .agg [.lit (.int .u8 0), .lit (.int .u8 0)], .agg [.lit (.int .u8 0), .lit (.int .u8 0)], .agg [.lit (.int .u8 0), .lit (.int .u8 0)]]
def laid_io_EOF {H : Type} : DataW H := .iface "*errors.errorString" (.ptr (.agg [.lit (.string [69, 79, 70])]))
/-- One of Go's own tables, pinned by name: the form's constant. -/
def laid_unicode_utf8_first : DataW Unit := Go.Pinned.utf8First

/-- 'laws.FnConfigParse': WHATEVER THE INPUT: true; the input reads as it did. -/
def fnConfigParseSpec : ChangeSpec := { name := "fnConfigParse", fn := fun _ => fun
  | [d1, d2, d3] => { results := [.lit (.bool true)], args := [d1, d2, d3] }
  | _ => none }
def fnConfigParseRow : OpenClaim := { program := "ytbalfblfkfbejaagreatdoor", sum := "4b00aa3bf4a9e54612ad03734a5b8243443efb26cbd691c1232c4b77b10c9d95", func := "given.example/pub-lighterage/laws.FnConfigParse", spec := "fnConfigParse", unfollowed := true, recurses := true, named := ["unicode/utf8.first", "unicode/utf8.acceptRanges", "io.EOF"], apart := false, laid := [("unicode/utf8.acceptRanges", laid_unicode_utf8_acceptRanges), ("io.EOF", laid_io_EOF), ("unicode/utf8.first", laid_unicode_utf8_first)] }
def FnConfigParseSaid : Prop := fnConfigParseRow.holds Tryz.pinned (OpenSpec.ofChange fnConfigParseSpec)

/-- ITS FALSE NEIGHBOUR: 'it returns false'. Refute it at one input. -/
def fnConfigParseWrong : ChangeSpec := { name := "fnConfigParse", fn := fun _ => fun
  | [d1, d2, d3] => { results := [.lit (.bool false)], args := [d1, d2, d3] }
  | _ => none }
def FnConfigParseWrongFalsely : Prop := fnConfigParseRow.holds Tryz.pinned (OpenSpec.ofChange fnConfigParseWrong)

/-- 'laws.FnManifestCut': WHATEVER THE INPUT: true; the input reads as it did. -/
def fnManifestCutSpec : ChangeSpec := { name := "fnManifestCut", fn := fun _ => fun
  | [d1, d2, d3] => { results := [.lit (.bool true)], args := [d1, d2, d3] }
  | _ => none }
def fnManifestCutRow : OpenClaim := { program := "ytbalfblfkfbejaagreatdoor", sum := "4b00aa3bf4a9e54612ad03734a5b8243443efb26cbd691c1232c4b77b10c9d95", func := "given.example/pub-lighterage/laws.FnManifestCut", spec := "fnManifestCut", unfollowed := true, recurses := true, named := ["unicode/utf8.first", "unicode/utf8.acceptRanges", "io.EOF"], apart := false, laid := [("unicode/utf8.acceptRanges", laid_unicode_utf8_acceptRanges), ("io.EOF", laid_io_EOF), ("unicode/utf8.first", laid_unicode_utf8_first)] }
def FnManifestCutSaid : Prop := fnManifestCutRow.holds Tryz.pinned (OpenSpec.ofChange fnManifestCutSpec)

/-- ITS FALSE NEIGHBOUR: 'it returns false'. Refute it at one input. -/
def fnManifestCutWrong : ChangeSpec := { name := "fnManifestCut", fn := fun _ => fun
  | [d1, d2, d3] => { results := [.lit (.bool false)], args := [d1, d2, d3] }
  | _ => none }
def FnManifestCutWrongFalsely : Prop := fnManifestCutRow.holds Tryz.pinned (OpenSpec.ofChange fnManifestCutWrong)

/-- 'laws.FnManifestParse': WHATEVER THE INPUT: true; the input reads as it did. -/
def fnManifestParseSpec : ChangeSpec := { name := "fnManifestParse", fn := fun _ => fun
  | [d1, d2, d3] => { results := [.lit (.bool true)], args := [d1, d2, d3] }
  | _ => none }
def fnManifestParseRow : OpenClaim := { program := "ytbalfblfkfbejaagreatdoor", sum := "4b00aa3bf4a9e54612ad03734a5b8243443efb26cbd691c1232c4b77b10c9d95", func := "given.example/pub-lighterage/laws.FnManifestParse", spec := "fnManifestParse", unfollowed := true, recurses := true, named := ["unicode/utf8.first", "unicode/utf8.acceptRanges", "io.EOF"], apart := false, laid := [("unicode/utf8.acceptRanges", laid_unicode_utf8_acceptRanges), ("io.EOF", laid_io_EOF), ("unicode/utf8.first", laid_unicode_utf8_first)] }
def FnManifestParseSaid : Prop := fnManifestParseRow.holds Tryz.pinned (OpenSpec.ofChange fnManifestParseSpec)

/-- ITS FALSE NEIGHBOUR: 'it returns false'. Refute it at one input. -/
def fnManifestParseWrong : ChangeSpec := { name := "fnManifestParse", fn := fun _ => fun
  | [d1, d2, d3] => { results := [.lit (.bool false)], args := [d1, d2, d3] }
  | _ => none }
def FnManifestParseWrongFalsely : Prop := fnManifestParseRow.holds Tryz.pinned (OpenSpec.ofChange fnManifestParseWrong)

/-- 'laws.FnManifestText': WHATEVER THE INPUT: true; the input reads as it did. -/
def fnManifestTextSpec : ChangeSpec := { name := "fnManifestText", fn := fun _ => fun
  | [d] => { results := [.lit (.bool true)], args := [d] }
  | _ => none }
def fnManifestTextRow : OpenClaim := { program := "ytbalfblfkfbejaagreatdoor", sum := "4b00aa3bf4a9e54612ad03734a5b8243443efb26cbd691c1232c4b77b10c9d95", func := "given.example/pub-lighterage/laws.FnManifestText", spec := "fnManifestText", unfollowed := true, recurses := true, named := ["unicode/utf8.first", "unicode/utf8.acceptRanges", "io.EOF"], apart := false, laid := [("unicode/utf8.acceptRanges", laid_unicode_utf8_acceptRanges), ("io.EOF", laid_io_EOF), ("unicode/utf8.first", laid_unicode_utf8_first)] }
def FnManifestTextSaid : Prop := fnManifestTextRow.holds Tryz.pinned (OpenSpec.ofChange fnManifestTextSpec)

/-- ITS FALSE NEIGHBOUR: 'it returns false'. Refute it at one input. -/
def fnManifestTextWrong : ChangeSpec := { name := "fnManifestText", fn := fun _ => fun
  | [d] => { results := [.lit (.bool false)], args := [d] }
  | _ => none }
def FnManifestTextWrongFalsely : Prop := fnManifestTextRow.holds Tryz.pinned (OpenSpec.ofChange fnManifestTextWrong)

/-- 'laws.FnConfigText': WHATEVER THE INPUT: true; the input reads as it did. -/
def fnConfigTextSpec : ChangeSpec := { name := "fnConfigText", fn := fun _ => fun
  | [d] => { results := [.lit (.bool true)], args := [d] }
  | _ => none }
def fnConfigTextRow : OpenClaim := { program := "ytbalfblfkfbejaagreatdoor", sum := "4b00aa3bf4a9e54612ad03734a5b8243443efb26cbd691c1232c4b77b10c9d95", func := "given.example/pub-lighterage/laws.FnConfigText", spec := "fnConfigText", unfollowed := true, recurses := true, named := ["unicode/utf8.first", "unicode/utf8.acceptRanges", "io.EOF"], apart := false, laid := [("unicode/utf8.acceptRanges", laid_unicode_utf8_acceptRanges), ("io.EOF", laid_io_EOF), ("unicode/utf8.first", laid_unicode_utf8_first)] }
def FnConfigTextSaid : Prop := fnConfigTextRow.holds Tryz.pinned (OpenSpec.ofChange fnConfigTextSpec)

/-- ITS FALSE NEIGHBOUR: 'it returns false'. Refute it at one input. -/
def fnConfigTextWrong : ChangeSpec := { name := "fnConfigText", fn := fun _ => fun
  | [d] => { results := [.lit (.bool false)], args := [d] }
  | _ => none }
def FnConfigTextWrongFalsely : Prop := fnConfigTextRow.holds Tryz.pinned (OpenSpec.ofChange fnConfigTextWrong)

/-- 'laws.FnConfigPlatform': WHATEVER THE INPUT: true; the input reads as it did. -/
def fnConfigPlatformSpec : ChangeSpec := { name := "fnConfigPlatform", fn := fun _ => fun
  | [d] => { results := [.lit (.bool true)], args := [d] }
  | _ => none }
def fnConfigPlatformRow : OpenClaim := { program := "ytbalfblfkfbejaagreatdoor", sum := "4b00aa3bf4a9e54612ad03734a5b8243443efb26cbd691c1232c4b77b10c9d95", func := "given.example/pub-lighterage/laws.FnConfigPlatform", spec := "fnConfigPlatform", unfollowed := true, recurses := true, named := ["unicode/utf8.first", "unicode/utf8.acceptRanges", "io.EOF"], apart := false, laid := [("unicode/utf8.acceptRanges", laid_unicode_utf8_acceptRanges), ("io.EOF", laid_io_EOF), ("unicode/utf8.first", laid_unicode_utf8_first)] }
def FnConfigPlatformSaid : Prop := fnConfigPlatformRow.holds Tryz.pinned (OpenSpec.ofChange fnConfigPlatformSpec)

/-- ITS FALSE NEIGHBOUR: 'it returns false'. Refute it at one input. -/
def fnConfigPlatformWrong : ChangeSpec := { name := "fnConfigPlatform", fn := fun _ => fun
  | [d] => { results := [.lit (.bool false)], args := [d] }
  | _ => none }
def FnConfigPlatformWrongFalsely : Prop := fnConfigPlatformRow.holds Tryz.pinned (OpenSpec.ofChange fnConfigPlatformWrong)

/-- 'laws.FnConfigCopy': WHATEVER THE INPUT: true; the input reads as it did. -/
def fnConfigCopySpec : ChangeSpec := { name := "fnConfigCopy", fn := fun _ => fun
  | [d] => { results := [.lit (.bool true)], args := [d] }
  | _ => none }
def fnConfigCopyRow : OpenClaim := { program := "ytbalfblfkfbejaagreatdoor", sum := "4b00aa3bf4a9e54612ad03734a5b8243443efb26cbd691c1232c4b77b10c9d95", func := "given.example/pub-lighterage/laws.FnConfigCopy", spec := "fnConfigCopy", unfollowed := true, recurses := true, named := ["unicode/utf8.first", "unicode/utf8.acceptRanges", "io.EOF"], apart := false, laid := [("unicode/utf8.acceptRanges", laid_unicode_utf8_acceptRanges), ("io.EOF", laid_io_EOF), ("unicode/utf8.first", laid_unicode_utf8_first)] }
def FnConfigCopySaid : Prop := fnConfigCopyRow.holds Tryz.pinned (OpenSpec.ofChange fnConfigCopySpec)

/-- ITS FALSE NEIGHBOUR: 'it returns false'. Refute it at one input. -/
def fnConfigCopyWrong : ChangeSpec := { name := "fnConfigCopy", fn := fun _ => fun
  | [d] => { results := [.lit (.bool false)], args := [d] }
  | _ => none }
def FnConfigCopyWrongFalsely : Prop := fnConfigCopyRow.holds Tryz.pinned (OpenSpec.ofChange fnConfigCopyWrong)

/-- 'laws.FnManifestCopy': WHATEVER THE INPUT: true; the input reads as it did. -/
def fnManifestCopySpec : ChangeSpec := { name := "fnManifestCopy", fn := fun _ => fun
  | [d] => { results := [.lit (.bool true)], args := [d] }
  | _ => none }
def fnManifestCopyRow : OpenClaim := { program := "ytbalfblfkfbejaagreatdoor", sum := "4b00aa3bf4a9e54612ad03734a5b8243443efb26cbd691c1232c4b77b10c9d95", func := "given.example/pub-lighterage/laws.FnManifestCopy", spec := "fnManifestCopy", unfollowed := true, recurses := true, named := ["unicode/utf8.first", "unicode/utf8.acceptRanges", "io.EOF"], apart := false, laid := [("unicode/utf8.acceptRanges", laid_unicode_utf8_acceptRanges), ("io.EOF", laid_io_EOF), ("unicode/utf8.first", laid_unicode_utf8_first)] }
def FnManifestCopySaid : Prop := fnManifestCopyRow.holds Tryz.pinned (OpenSpec.ofChange fnManifestCopySpec)

/-- ITS FALSE NEIGHBOUR: 'it returns false'. Refute it at one input. -/
def fnManifestCopyWrong : ChangeSpec := { name := "fnManifestCopy", fn := fun _ => fun
  | [d] => { results := [.lit (.bool false)], args := [d] }
  | _ => none }
def FnManifestCopyWrongFalsely : Prop := fnManifestCopyRow.holds Tryz.pinned (OpenSpec.ofChange fnManifestCopyWrong)

/- THE SECOND FORM. 'bulk': how many values and letters a reading holds, each counted each time it is reached (what is shared counts as often as it is met; a slice's spare places count too). A statement '..UptoSaid' is the law's where the arguments, and the package variables that the reading takes, are together of bulk at most 1048576: NARROWER than '..Said'. Prove '..Said' where nothing that the law and all that it calls make is longer than what came in: it says more and counts as full. Else prove '..UptoSaid'. A law counts once. -/
mutual
def uptoBulk {H : Type} : DataW H → Nat
  | .lit (.string bytes) => bytes.length + 1
  | .lit _ => 1
  | .nil => 1
  | .ptr d => uptoBulk d + 1
  | .slice elems spare => uptoBulkAll elems + uptoBulkAll spare + 1
  | .agg parts => uptoBulkAll parts + 1
  | .iface _ d => uptoBulk d + 1
  | .map entries => uptoBulkEntries entries + 1
  | .held _ => 1
def uptoBulkAll {H : Type} : List (DataW H) → Nat
  | [] => 0
  | d :: r => uptoBulk d + uptoBulkAll r
def uptoBulkEntries {H : Type} : List (Lit × DataW H) → Nat
  | [] => 0
  | x :: r => uptoBulkEntry x + uptoBulkEntries r
def uptoBulkEntry {H : Type} : Lit × DataW H → Nat
  | (.string bytes, d) => bytes.length + uptoBulk d + 1
  | (_, d) => uptoBulk d + 1
 end
def uptoSmall : (H : Type) → List (DataW H) → Bool := fun _ ds => decide (uptoBulkAll ds ≤ 1048576)
def OpenSpec.upto (s : _root_.Go.ChangeSpec) : _root_.Go.OpenSpec := { _root_.Go.OpenSpec.ofChange s with cond := some uptoSmall }

/-- 'laws.FnConfigParse', WHERE WHAT IT READS IS OF BULK AT MOST 1048576: true; the input reads as it did. -/
def fnConfigParseUptoRow : OpenClaim := { program := "ytbalfblfkfbejaagreatdoor", sum := "4b00aa3bf4a9e54612ad03734a5b8243443efb26cbd691c1232c4b77b10c9d95", func := "given.example/pub-lighterage/laws.FnConfigParse", spec := "fnConfigParse", unfollowed := true, recurses := true, named := ["unicode/utf8.first", "unicode/utf8.acceptRanges", "io.EOF"], apart := false, laid := [("unicode/utf8.acceptRanges", laid_unicode_utf8_acceptRanges), ("io.EOF", laid_io_EOF), ("unicode/utf8.first", laid_unicode_utf8_first)], narrowed := true }
def FnConfigParseUptoSaid : Prop := fnConfigParseUptoRow.holds Tryz.pinned (OpenSpec.upto fnConfigParseSpec)

/-- 'laws.FnManifestCut', WHERE WHAT IT READS IS OF BULK AT MOST 1048576: true; the input reads as it did. -/
def fnManifestCutUptoRow : OpenClaim := { program := "ytbalfblfkfbejaagreatdoor", sum := "4b00aa3bf4a9e54612ad03734a5b8243443efb26cbd691c1232c4b77b10c9d95", func := "given.example/pub-lighterage/laws.FnManifestCut", spec := "fnManifestCut", unfollowed := true, recurses := true, named := ["unicode/utf8.first", "unicode/utf8.acceptRanges", "io.EOF"], apart := false, laid := [("unicode/utf8.acceptRanges", laid_unicode_utf8_acceptRanges), ("io.EOF", laid_io_EOF), ("unicode/utf8.first", laid_unicode_utf8_first)], narrowed := true }
def FnManifestCutUptoSaid : Prop := fnManifestCutUptoRow.holds Tryz.pinned (OpenSpec.upto fnManifestCutSpec)

/-- 'laws.FnManifestParse', WHERE WHAT IT READS IS OF BULK AT MOST 1048576: true; the input reads as it did. -/
def fnManifestParseUptoRow : OpenClaim := { program := "ytbalfblfkfbejaagreatdoor", sum := "4b00aa3bf4a9e54612ad03734a5b8243443efb26cbd691c1232c4b77b10c9d95", func := "given.example/pub-lighterage/laws.FnManifestParse", spec := "fnManifestParse", unfollowed := true, recurses := true, named := ["unicode/utf8.first", "unicode/utf8.acceptRanges", "io.EOF"], apart := false, laid := [("unicode/utf8.acceptRanges", laid_unicode_utf8_acceptRanges), ("io.EOF", laid_io_EOF), ("unicode/utf8.first", laid_unicode_utf8_first)], narrowed := true }
def FnManifestParseUptoSaid : Prop := fnManifestParseUptoRow.holds Tryz.pinned (OpenSpec.upto fnManifestParseSpec)

/-- 'laws.FnManifestText', WHERE WHAT IT READS IS OF BULK AT MOST 1048576: true; the input reads as it did. -/
def fnManifestTextUptoRow : OpenClaim := { program := "ytbalfblfkfbejaagreatdoor", sum := "4b00aa3bf4a9e54612ad03734a5b8243443efb26cbd691c1232c4b77b10c9d95", func := "given.example/pub-lighterage/laws.FnManifestText", spec := "fnManifestText", unfollowed := true, recurses := true, named := ["unicode/utf8.first", "unicode/utf8.acceptRanges", "io.EOF"], apart := false, laid := [("unicode/utf8.acceptRanges", laid_unicode_utf8_acceptRanges), ("io.EOF", laid_io_EOF), ("unicode/utf8.first", laid_unicode_utf8_first)], narrowed := true }
def FnManifestTextUptoSaid : Prop := fnManifestTextUptoRow.holds Tryz.pinned (OpenSpec.upto fnManifestTextSpec)

/-- 'laws.FnConfigText', WHERE WHAT IT READS IS OF BULK AT MOST 1048576: true; the input reads as it did. -/
def fnConfigTextUptoRow : OpenClaim := { program := "ytbalfblfkfbejaagreatdoor", sum := "4b00aa3bf4a9e54612ad03734a5b8243443efb26cbd691c1232c4b77b10c9d95", func := "given.example/pub-lighterage/laws.FnConfigText", spec := "fnConfigText", unfollowed := true, recurses := true, named := ["unicode/utf8.first", "unicode/utf8.acceptRanges", "io.EOF"], apart := false, laid := [("unicode/utf8.acceptRanges", laid_unicode_utf8_acceptRanges), ("io.EOF", laid_io_EOF), ("unicode/utf8.first", laid_unicode_utf8_first)], narrowed := true }
def FnConfigTextUptoSaid : Prop := fnConfigTextUptoRow.holds Tryz.pinned (OpenSpec.upto fnConfigTextSpec)

/-- 'laws.FnConfigPlatform', WHERE WHAT IT READS IS OF BULK AT MOST 1048576: true; the input reads as it did. -/
def fnConfigPlatformUptoRow : OpenClaim := { program := "ytbalfblfkfbejaagreatdoor", sum := "4b00aa3bf4a9e54612ad03734a5b8243443efb26cbd691c1232c4b77b10c9d95", func := "given.example/pub-lighterage/laws.FnConfigPlatform", spec := "fnConfigPlatform", unfollowed := true, recurses := true, named := ["unicode/utf8.first", "unicode/utf8.acceptRanges", "io.EOF"], apart := false, laid := [("unicode/utf8.acceptRanges", laid_unicode_utf8_acceptRanges), ("io.EOF", laid_io_EOF), ("unicode/utf8.first", laid_unicode_utf8_first)], narrowed := true }
def FnConfigPlatformUptoSaid : Prop := fnConfigPlatformUptoRow.holds Tryz.pinned (OpenSpec.upto fnConfigPlatformSpec)

/-- 'laws.FnConfigCopy', WHERE WHAT IT READS IS OF BULK AT MOST 1048576: true; the input reads as it did. -/
def fnConfigCopyUptoRow : OpenClaim := { program := "ytbalfblfkfbejaagreatdoor", sum := "4b00aa3bf4a9e54612ad03734a5b8243443efb26cbd691c1232c4b77b10c9d95", func := "given.example/pub-lighterage/laws.FnConfigCopy", spec := "fnConfigCopy", unfollowed := true, recurses := true, named := ["unicode/utf8.first", "unicode/utf8.acceptRanges", "io.EOF"], apart := false, laid := [("unicode/utf8.acceptRanges", laid_unicode_utf8_acceptRanges), ("io.EOF", laid_io_EOF), ("unicode/utf8.first", laid_unicode_utf8_first)], narrowed := true }
def FnConfigCopyUptoSaid : Prop := fnConfigCopyUptoRow.holds Tryz.pinned (OpenSpec.upto fnConfigCopySpec)

/-- 'laws.FnManifestCopy', WHERE WHAT IT READS IS OF BULK AT MOST 1048576: true; the input reads as it did. -/
def fnManifestCopyUptoRow : OpenClaim := { program := "ytbalfblfkfbejaagreatdoor", sum := "4b00aa3bf4a9e54612ad03734a5b8243443efb26cbd691c1232c4b77b10c9d95", func := "given.example/pub-lighterage/laws.FnManifestCopy", spec := "fnManifestCopy", unfollowed := true, recurses := true, named := ["unicode/utf8.first", "unicode/utf8.acceptRanges", "io.EOF"], apart := false, laid := [("unicode/utf8.acceptRanges", laid_unicode_utf8_acceptRanges), ("io.EOF", laid_io_EOF), ("unicode/utf8.first", laid_unicode_utf8_first)], narrowed := true }
def FnManifestCopyUptoSaid : Prop := fnManifestCopyUptoRow.holds Tryz.pinned (OpenSpec.upto fnManifestCopySpec)

end Rows
end Go.Proofs.YtbalfblfkfbejaaGreatDoor
