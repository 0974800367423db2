/-
  No cell of these rows narrows 'for every input' (looked for: loops, veiled, ifaces, maps, wideKeys, modest, calm, conditions, laid).
  DERIVED. THE GIVEN ROWS OF THIS SEAT. 6 by the template 'for every input the law returns true; each argument reads behind the call as it read before'; 0 by the template 'total and deterministic' (their statements: YtmdpfceigmimhaaTotals.lean).
  GIVEN WITH THE SEED: the statements are not yours to turn. If you find one false, say at which input.
  Laid BY PROGRAM, IN A SANDBOX (cutbox-rows.mjs): the forced cells as the released guide's own fill.sh prints them over the translation 5f34fe42f14af9a2… (all of the seat's roots in one cut). By AI agents, Wed Nov 11 2026. No macro, syntax, notation, axiom, sorry.
-/
import Derived.Test.YtmdpfceigmimhaaChecked
import GoSem.Claim
import GoSem.ClaimJoined
import GoSem.ClaimMapViews
import Derived.JoinedTies
import Derived.KernelRfl
namespace Go.Proofs.Ytmdpfceigmimhaa
/- THE CELL 'sum', in the pinned program and in every row, IS THE sha256 OF THE DUMP (.gsa) THAT YtmdpfceigmimhaaProg.lean LOADS. Nothing in Lean hashes anything: it is a label: what it is worth is what the hold of that sum in a sandbox is worth. -/
noncomputable def Try.pinned : Pinned := { name := "ytmdpfceigmimhaa", sum := "5f34fe42f14af9a2f99b6eb83bab4ac9fe157f3621d4fa2bb9d139938331e041", checked := Try.checked }
namespace Rows
def none {H : Type} : Left H := { results := [], args := [] }

/-- 'laws.FnAuthTells': WHATEVER THE INPUT: true; the input reads as it did. -/
def fnAuthTellsSpec : ChangeSpec := { name := "fnAuthTells", fn := fun _ => fun
  | [d] => { results := [.lit (.bool true)], args := [d] }
  | _ => none }
def fnAuthTellsRow : OpenClaim := { program := "ytmdpfceigmimhaa", sum := "5f34fe42f14af9a2f99b6eb83bab4ac9fe157f3621d4fa2bb9d139938331e041", func := "given.example/pub-lighterage/laws.FnAuthTells", spec := "fnAuthTells", unfollowed := true, recurses := true, plainKeys := false, apart := false }
def FnAuthTellsSaid : Prop := fnAuthTellsRow.holds Try.pinned (OpenSpec.ofChange fnAuthTellsSpec)

/-- ITS FALSE NEIGHBOUR: 'it returns false'. Refute it at one input. -/
def fnAuthTellsWrong : ChangeSpec := { name := "fnAuthTells", fn := fun _ => fun
  | [d] => { results := [.lit (.bool false)], args := [d] }
  | _ => none }
def FnAuthTellsWrongFalsely : Prop := fnAuthTellsRow.holds Try.pinned (OpenSpec.ofChange fnAuthTellsWrong)

/-- 'laws.FnMedia': WHATEVER THE INPUT: true; the input reads as it did. -/
def fnMediaSpec : ChangeSpec := { name := "fnMedia", fn := fun _ => fun
  | [d] => { results := [.lit (.bool true)], args := [d] }
  | _ => none }
def fnMediaRow : OpenClaim := { program := "ytmdpfceigmimhaa", sum := "5f34fe42f14af9a2f99b6eb83bab4ac9fe157f3621d4fa2bb9d139938331e041", func := "given.example/pub-lighterage/laws.FnMedia", spec := "fnMedia", plainKeys := false, apart := false }
def FnMediaSaid : Prop := fnMediaRow.holds Try.pinned (OpenSpec.ofChange fnMediaSpec)

/-- ITS FALSE NEIGHBOUR: 'it returns false'. Refute it at one input. -/
def fnMediaWrong : ChangeSpec := { name := "fnMedia", fn := fun _ => fun
  | [d] => { results := [.lit (.bool false)], args := [d] }
  | _ => none }
def FnMediaWrongFalsely : Prop := fnMediaRow.holds Try.pinned (OpenSpec.ofChange fnMediaWrong)

/-- 'laws.FnPlatformParse': WHATEVER THE INPUT: true; the input reads as it did. -/
def fnPlatformParseSpec : ChangeSpec := { name := "fnPlatformParse", fn := fun _ => fun
  | [d] => { results := [.lit (.bool true)], args := [d] }
  | _ => none }
def fnPlatformParseRow : OpenClaim := { program := "ytmdpfceigmimhaa", sum := "5f34fe42f14af9a2f99b6eb83bab4ac9fe157f3621d4fa2bb9d139938331e041", func := "given.example/pub-lighterage/laws.FnPlatformParse", spec := "fnPlatformParse", unfollowed := true, recurses := true, plainKeys := false, apart := false }
def FnPlatformParseSaid : Prop := fnPlatformParseRow.holds Try.pinned (OpenSpec.ofChange fnPlatformParseSpec)

/-- ITS FALSE NEIGHBOUR: 'it returns false'. Refute it at one input. -/
def fnPlatformParseWrong : ChangeSpec := { name := "fnPlatformParse", fn := fun _ => fun
  | [d] => { results := [.lit (.bool false)], args := [d] }
  | _ => none }
def FnPlatformParseWrongFalsely : Prop := fnPlatformParseRow.holds Try.pinned (OpenSpec.ofChange fnPlatformParseWrong)

/-- 'laws.FnPlatformText': WHATEVER THE INPUT: true; the input reads as it did. -/
def fnPlatformTextSpec : ChangeSpec := { name := "fnPlatformText", fn := fun _ => fun
  | [d] => { results := [.lit (.bool true)], args := [d] }
  | _ => none }
def fnPlatformTextRow : OpenClaim := { program := "ytmdpfceigmimhaa", sum := "5f34fe42f14af9a2f99b6eb83bab4ac9fe157f3621d4fa2bb9d139938331e041", func := "given.example/pub-lighterage/laws.FnPlatformText", spec := "fnPlatformText", inPlace := ["internal/abi.NoEscape"], unfollowed := true, recurses := true, plainKeys := false, apart := false }
def FnPlatformTextSaid : Prop := fnPlatformTextRow.holds Try.pinned (OpenSpec.ofChange fnPlatformTextSpec)

/-- ITS FALSE NEIGHBOUR: 'it returns false'. Refute it at one input. -/
def fnPlatformTextWrong : ChangeSpec := { name := "fnPlatformText", fn := fun _ => fun
  | [d] => { results := [.lit (.bool false)], args := [d] }
  | _ => none }
def FnPlatformTextWrongFalsely : Prop := fnPlatformTextRow.holds Try.pinned (OpenSpec.ofChange fnPlatformTextWrong)

/-- 'laws.FnMatch': WHATEVER THE INPUT: true; the input reads as it did. -/
def fnMatchSpec : ChangeSpec := { name := "fnMatch", fn := fun _ => fun
  | [d1, d2] => { results := [.lit (.bool true)], args := [d1, d2] }
  | _ => none }
def fnMatchRow : OpenClaim := { program := "ytmdpfceigmimhaa", sum := "5f34fe42f14af9a2f99b6eb83bab4ac9fe157f3621d4fa2bb9d139938331e041", func := "given.example/pub-lighterage/laws.FnMatch", spec := "fnMatch", unfollowed := true, recurses := true, plainKeys := false, apart := false }
def FnMatchSaid : Prop := fnMatchRow.holds Try.pinned (OpenSpec.ofChange fnMatchSpec)

/-- ITS FALSE NEIGHBOUR: 'it returns false'. Refute it at one input. -/
def fnMatchWrong : ChangeSpec := { name := "fnMatch", fn := fun _ => fun
  | [d1, d2] => { results := [.lit (.bool false)], args := [d1, d2] }
  | _ => none }
def FnMatchWrongFalsely : Prop := fnMatchRow.holds Try.pinned (OpenSpec.ofChange fnMatchWrong)

/-- 'laws.FnPlatformSame': WHATEVER THE INPUT: true; the input reads as it did. -/
def fnPlatformSameSpec : ChangeSpec := { name := "fnPlatformSame", fn := fun _ => fun
  | [d1, d2] => { results := [.lit (.bool true)], args := [d1, d2] }
  | _ => none }
def fnPlatformSameRow : OpenClaim := { program := "ytmdpfceigmimhaa", sum := "5f34fe42f14af9a2f99b6eb83bab4ac9fe157f3621d4fa2bb9d139938331e041", func := "given.example/pub-lighterage/laws.FnPlatformSame", spec := "fnPlatformSame", unfollowed := true, recurses := true, plainKeys := false, apart := false }
def FnPlatformSameSaid : Prop := fnPlatformSameRow.holds Try.pinned (OpenSpec.ofChange fnPlatformSameSpec)

/-- ITS FALSE NEIGHBOUR: 'it returns false'. Refute it at one input. -/
def fnPlatformSameWrong : ChangeSpec := { name := "fnPlatformSame", fn := fun _ => fun
  | [d1, d2] => { results := [.lit (.bool false)], args := [d1, d2] }
  | _ => none }
def FnPlatformSameWrongFalsely : Prop := fnPlatformSameRow.holds Try.pinned (OpenSpec.ofChange fnPlatformSameWrong)

/- THE SECOND FORM. 'bulk': how many values and letters a reading holds, each counted each time it is reached (what is shared counts as often as it is met; a slice's spare places count too). A statement '..UptoSaid' is the law's where the arguments, and the package variables that the reading takes, are together of bulk at most 1048576: NARROWER than '..Said'. Prove '..Said' where nothing that the law and all that it calls make is longer than what came in: it says more and counts as full. Else prove '..UptoSaid'. A law counts once. -/
mutual
def uptoBulk {H : Type} : DataW H → Nat
  | .lit (.string bytes) => bytes.length + 1
  | .lit _ => 1
  | .nil => 1
  | .ptr d => uptoBulk d + 1
  | .slice elems spare => uptoBulkAll elems + uptoBulkAll spare + 1
  | .agg parts => uptoBulkAll parts + 1
  | .iface _ d => uptoBulk d + 1
  | .map entries => uptoBulkEntries entries + 1
  | .held _ => 1
def uptoBulkAll {H : Type} : List (DataW H) → Nat
  | [] => 0
  | d :: r => uptoBulk d + uptoBulkAll r
def uptoBulkEntries {H : Type} : List (Lit × DataW H) → Nat
  | [] => 0
  | x :: r => uptoBulkEntry x + uptoBulkEntries r
def uptoBulkEntry {H : Type} : Lit × DataW H → Nat
  | (.string bytes, d) => bytes.length + uptoBulk d + 1
  | (_, d) => uptoBulk d + 1
 end
def uptoSmall : (H : Type) → List (DataW H) → Bool := fun _ ds => decide (uptoBulkAll ds ≤ 1048576)
def OpenSpec.upto (s : _root_.Go.ChangeSpec) : _root_.Go.OpenSpec := { _root_.Go.OpenSpec.ofChange s with cond := some uptoSmall }

/-- 'laws.FnAuthTells', WHERE WHAT IT READS IS OF BULK AT MOST 1048576: true; the input reads as it did. -/
def fnAuthTellsUptoRow : OpenClaim := { program := "ytmdpfceigmimhaa", sum := "5f34fe42f14af9a2f99b6eb83bab4ac9fe157f3621d4fa2bb9d139938331e041", func := "given.example/pub-lighterage/laws.FnAuthTells", spec := "fnAuthTells", unfollowed := true, recurses := true, plainKeys := false, apart := false, narrowed := true }
def FnAuthTellsUptoSaid : Prop := fnAuthTellsUptoRow.holds Try.pinned (OpenSpec.upto fnAuthTellsSpec)

/-- 'laws.FnMedia', WHERE WHAT IT READS IS OF BULK AT MOST 1048576: true; the input reads as it did. -/
def fnMediaUptoRow : OpenClaim := { program := "ytmdpfceigmimhaa", sum := "5f34fe42f14af9a2f99b6eb83bab4ac9fe157f3621d4fa2bb9d139938331e041", func := "given.example/pub-lighterage/laws.FnMedia", spec := "fnMedia", plainKeys := false, apart := false, narrowed := true }
def FnMediaUptoSaid : Prop := fnMediaUptoRow.holds Try.pinned (OpenSpec.upto fnMediaSpec)

/-- 'laws.FnPlatformParse', WHERE WHAT IT READS IS OF BULK AT MOST 1048576: true; the input reads as it did. -/
def fnPlatformParseUptoRow : OpenClaim := { program := "ytmdpfceigmimhaa", sum := "5f34fe42f14af9a2f99b6eb83bab4ac9fe157f3621d4fa2bb9d139938331e041", func := "given.example/pub-lighterage/laws.FnPlatformParse", spec := "fnPlatformParse", unfollowed := true, recurses := true, plainKeys := false, apart := false, narrowed := true }
def FnPlatformParseUptoSaid : Prop := fnPlatformParseUptoRow.holds Try.pinned (OpenSpec.upto fnPlatformParseSpec)

/-- 'laws.FnPlatformText', WHERE WHAT IT READS IS OF BULK AT MOST 1048576: true; the input reads as it did. -/
def fnPlatformTextUptoRow : OpenClaim := { program := "ytmdpfceigmimhaa", sum := "5f34fe42f14af9a2f99b6eb83bab4ac9fe157f3621d4fa2bb9d139938331e041", func := "given.example/pub-lighterage/laws.FnPlatformText", spec := "fnPlatformText", inPlace := ["internal/abi.NoEscape"], unfollowed := true, recurses := true, plainKeys := false, apart := false, narrowed := true }
def FnPlatformTextUptoSaid : Prop := fnPlatformTextUptoRow.holds Try.pinned (OpenSpec.upto fnPlatformTextSpec)

/-- 'laws.FnMatch', WHERE WHAT IT READS IS OF BULK AT MOST 1048576: true; the input reads as it did. -/
def fnMatchUptoRow : OpenClaim := { program := "ytmdpfceigmimhaa", sum := "5f34fe42f14af9a2f99b6eb83bab4ac9fe157f3621d4fa2bb9d139938331e041", func := "given.example/pub-lighterage/laws.FnMatch", spec := "fnMatch", unfollowed := true, recurses := true, plainKeys := false, apart := false, narrowed := true }
def FnMatchUptoSaid : Prop := fnMatchUptoRow.holds Try.pinned (OpenSpec.upto fnMatchSpec)

/-- 'laws.FnPlatformSame', WHERE WHAT IT READS IS OF BULK AT MOST 1048576: true; the input reads as it did. -/
def fnPlatformSameUptoRow : OpenClaim := { program := "ytmdpfceigmimhaa", sum := "5f34fe42f14af9a2f99b6eb83bab4ac9fe157f3621d4fa2bb9d139938331e041", func := "given.example/pub-lighterage/laws.FnPlatformSame", spec := "fnPlatformSame", unfollowed := true, recurses := true, plainKeys := false, apart := false, narrowed := true }
def FnPlatformSameUptoSaid : Prop := fnPlatformSameUptoRow.holds Try.pinned (OpenSpec.upto fnPlatformSameSpec)

end Rows
end Go.Proofs.Ytmdpfceigmimhaa
