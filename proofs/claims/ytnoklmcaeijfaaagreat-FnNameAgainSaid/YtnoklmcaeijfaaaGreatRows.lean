/-
  No cell of these rows narrows 'for every input' (looked for: loops, veiled, ifaces, maps, wideKeys, modest, calm, conditions, laid).
  DERIVED. THE GIVEN ROWS OF THIS SEAT. 7 by the template 'for every input the law returns true; each argument reads behind the call as it read before'; 0 by the template 'total and deterministic' (their statements: YtnoklmcaeijfaaaGreatTotals.lean).
  GIVEN WITH THE SEED: the statements are not yours to turn. If you find one false, say at which input.
  Laid BY PROGRAM, IN A SANDBOX (cutbox-rows.mjs): the forced cells as the released guide's own fill.sh prints them over the translation 8500f081b1be6380… (all of the seat's roots in one cut). By AI agents, Wed Nov 11 2026. No macro, syntax, notation, axiom, sorry.
-/
import Derived.Test.YtnoklmcaeijfaaaGreatChecked
import GoSem.Claim
import GoSem.ClaimJoined
import GoSem.ClaimMapViews
import Derived.JoinedTies
import Derived.KernelRfl
namespace Go.Proofs.YtnoklmcaeijfaaaGreat
/- THE CELL 'sum', in the pinned program and in every row, IS THE sha256 OF THE DUMP (.gsa) THAT YtnoklmcaeijfaaaGreatProg.lean LOADS. Nothing in Lean hashes anything: it is a label: what it is worth is what the hold of that sum in a sandbox is worth. -/
noncomputable def Tryz.pinned : Pinned := { name := "ytnoklmcaeijfaaagreat", sum := "8500f081b1be63809a5db454db47abbdfc7c65a145314c0887a8b00a105a66a0", checked := Tryz.checked }
namespace Rows
def none {H : Type} : Left H := { results := [], args := [] }

/-- 'laws.FnNameAgain': WHATEVER THE INPUT: true; the input reads as it did. -/
def fnNameAgainSpec : ChangeSpec := { name := "fnNameAgain", fn := fun _ => fun
  | [d1, d2] => { results := [.lit (.bool true)], args := [d1, d2] }
  | _ => none }
def fnNameAgainRow : OpenClaim := { program := "ytnoklmcaeijfaaagreat", sum := "8500f081b1be63809a5db454db47abbdfc7c65a145314c0887a8b00a105a66a0", func := "given.example/pub-lighterage/laws.FnNameAgain", spec := "fnNameAgain", inPlace := ["internal/abi.NoEscape", "internal/bytealg.MakeNoZero"], unfollowed := true, recurses := true, apart := false }
def FnNameAgainSaid : Prop := fnNameAgainRow.holds Tryz.pinned (OpenSpec.ofChange fnNameAgainSpec)

/-- ITS FALSE NEIGHBOUR: 'it returns false'. Refute it at one input. -/
def fnNameAgainWrong : ChangeSpec := { name := "fnNameAgain", fn := fun _ => fun
  | [d1, d2] => { results := [.lit (.bool false)], args := [d1, d2] }
  | _ => none }
def FnNameAgainWrongFalsely : Prop := fnNameAgainRow.holds Tryz.pinned (OpenSpec.ofChange fnNameAgainWrong)

/-- 'laws.FnNameDigest': WHATEVER THE INPUT: true; the input reads as it did. -/
def fnNameDigestSpec : ChangeSpec := { name := "fnNameDigest", fn := fun _ => fun
  | [d] => { results := [.lit (.bool true)], args := [d] }
  | _ => none }
def fnNameDigestRow : OpenClaim := { program := "ytnoklmcaeijfaaagreat", sum := "8500f081b1be63809a5db454db47abbdfc7c65a145314c0887a8b00a105a66a0", func := "given.example/pub-lighterage/laws.FnNameDigest", spec := "fnNameDigest", inPlace := ["internal/abi.NoEscape", "internal/bytealg.MakeNoZero"], unfollowed := true, recurses := true, apart := false }
def FnNameDigestSaid : Prop := fnNameDigestRow.holds Tryz.pinned (OpenSpec.ofChange fnNameDigestSpec)

/-- ITS FALSE NEIGHBOUR: 'it returns false'. Refute it at one input. -/
def fnNameDigestWrong : ChangeSpec := { name := "fnNameDigest", fn := fun _ => fun
  | [d] => { results := [.lit (.bool false)], args := [d] }
  | _ => none }
def FnNameDigestWrongFalsely : Prop := fnNameDigestRow.holds Tryz.pinned (OpenSpec.ofChange fnNameDigestWrong)

/-- 'laws.FnNameReference': WHATEVER THE INPUT: true; the input reads as it did. -/
def fnNameReferenceSpec : ChangeSpec := { name := "fnNameReference", fn := fun _ => fun
  | [d] => { results := [.lit (.bool true)], args := [d] }
  | _ => none }
def fnNameReferenceRow : OpenClaim := { program := "ytnoklmcaeijfaaagreat", sum := "8500f081b1be63809a5db454db47abbdfc7c65a145314c0887a8b00a105a66a0", func := "given.example/pub-lighterage/laws.FnNameReference", spec := "fnNameReference", inPlace := ["internal/abi.NoEscape", "internal/bytealg.MakeNoZero"], unfollowed := true, recurses := true, apart := false }
def FnNameReferenceSaid : Prop := fnNameReferenceRow.holds Tryz.pinned (OpenSpec.ofChange fnNameReferenceSpec)

/-- ITS FALSE NEIGHBOUR: 'it returns false'. Refute it at one input. -/
def fnNameReferenceWrong : ChangeSpec := { name := "fnNameReference", fn := fun _ => fun
  | [d] => { results := [.lit (.bool false)], args := [d] }
  | _ => none }
def FnNameReferenceWrongFalsely : Prop := fnNameReferenceRow.holds Tryz.pinned (OpenSpec.ofChange fnNameReferenceWrong)

/-- 'laws.FnNameRegistry': WHATEVER THE INPUT: true; the input reads as it did. -/
def fnNameRegistrySpec : ChangeSpec := { name := "fnNameRegistry", fn := fun _ => fun
  | [d] => { results := [.lit (.bool true)], args := [d] }
  | _ => none }
def fnNameRegistryRow : OpenClaim := { program := "ytnoklmcaeijfaaagreat", sum := "8500f081b1be63809a5db454db47abbdfc7c65a145314c0887a8b00a105a66a0", func := "given.example/pub-lighterage/laws.FnNameRegistry", spec := "fnNameRegistry", inPlace := ["internal/abi.NoEscape", "internal/bytealg.MakeNoZero"], unfollowed := true, recurses := true, apart := false }
def FnNameRegistrySaid : Prop := fnNameRegistryRow.holds Tryz.pinned (OpenSpec.ofChange fnNameRegistrySpec)

/-- ITS FALSE NEIGHBOUR: 'it returns false'. Refute it at one input. -/
def fnNameRegistryWrong : ChangeSpec := { name := "fnNameRegistry", fn := fun _ => fun
  | [d] => { results := [.lit (.bool false)], args := [d] }
  | _ => none }
def FnNameRegistryWrongFalsely : Prop := fnNameRegistryRow.holds Tryz.pinned (OpenSpec.ofChange fnNameRegistryWrong)

/-- 'laws.FnNameRepository': WHATEVER THE INPUT: true; the input reads as it did. -/
def fnNameRepositorySpec : ChangeSpec := { name := "fnNameRepository", fn := fun _ => fun
  | [d] => { results := [.lit (.bool true)], args := [d] }
  | _ => none }
def fnNameRepositoryRow : OpenClaim := { program := "ytnoklmcaeijfaaagreat", sum := "8500f081b1be63809a5db454db47abbdfc7c65a145314c0887a8b00a105a66a0", func := "given.example/pub-lighterage/laws.FnNameRepository", spec := "fnNameRepository", inPlace := ["internal/abi.NoEscape", "internal/bytealg.MakeNoZero"], unfollowed := true, recurses := true, apart := false }
def FnNameRepositorySaid : Prop := fnNameRepositoryRow.holds Tryz.pinned (OpenSpec.ofChange fnNameRepositorySpec)

/-- ITS FALSE NEIGHBOUR: 'it returns false'. Refute it at one input. -/
def fnNameRepositoryWrong : ChangeSpec := { name := "fnNameRepository", fn := fun _ => fun
  | [d] => { results := [.lit (.bool false)], args := [d] }
  | _ => none }
def FnNameRepositoryWrongFalsely : Prop := fnNameRepositoryRow.holds Tryz.pinned (OpenSpec.ofChange fnNameRepositoryWrong)

/-- 'laws.FnNameTag': WHATEVER THE INPUT: true; the input reads as it did. -/
def fnNameTagSpec : ChangeSpec := { name := "fnNameTag", fn := fun _ => fun
  | [d] => { results := [.lit (.bool true)], args := [d] }
  | _ => none }
def fnNameTagRow : OpenClaim := { program := "ytnoklmcaeijfaaagreat", sum := "8500f081b1be63809a5db454db47abbdfc7c65a145314c0887a8b00a105a66a0", func := "given.example/pub-lighterage/laws.FnNameTag", spec := "fnNameTag", inPlace := ["internal/abi.NoEscape", "internal/bytealg.MakeNoZero"], unfollowed := true, recurses := true, apart := false }
def FnNameTagSaid : Prop := fnNameTagRow.holds Tryz.pinned (OpenSpec.ofChange fnNameTagSpec)

/-- ITS FALSE NEIGHBOUR: 'it returns false'. Refute it at one input. -/
def fnNameTagWrong : ChangeSpec := { name := "fnNameTag", fn := fun _ => fun
  | [d] => { results := [.lit (.bool false)], args := [d] }
  | _ => none }
def FnNameTagWrongFalsely : Prop := fnNameTagRow.holds Tryz.pinned (OpenSpec.ofChange fnNameTagWrong)

/-- 'laws.FnNameMade': WHATEVER THE INPUT: true; the input reads as it did. -/
def fnNameMadeSpec : ChangeSpec := { name := "fnNameMade", fn := fun _ => fun
  | [d1, d2, d3, d4] => { results := [.lit (.bool true)], args := [d1, d2, d3, d4] }
  | _ => none }
def fnNameMadeRow : OpenClaim := { program := "ytnoklmcaeijfaaagreat", sum := "8500f081b1be63809a5db454db47abbdfc7c65a145314c0887a8b00a105a66a0", func := "given.example/pub-lighterage/laws.FnNameMade", spec := "fnNameMade", inPlace := ["internal/abi.NoEscape", "internal/bytealg.MakeNoZero"], unfollowed := true, recurses := true, apart := false }
def FnNameMadeSaid : Prop := fnNameMadeRow.holds Tryz.pinned (OpenSpec.ofChange fnNameMadeSpec)

/-- ITS FALSE NEIGHBOUR: 'it returns false'. Refute it at one input. -/
def fnNameMadeWrong : ChangeSpec := { name := "fnNameMade", fn := fun _ => fun
  | [d1, d2, d3, d4] => { results := [.lit (.bool false)], args := [d1, d2, d3, d4] }
  | _ => none }
def FnNameMadeWrongFalsely : Prop := fnNameMadeRow.holds Tryz.pinned (OpenSpec.ofChange fnNameMadeWrong)

/- THE SECOND FORM. 'bulk': how many values and letters a reading holds, each counted each time it is reached (what is shared counts as often as it is met; a slice's spare places count too). A statement '..UptoSaid' is the law's where the arguments, and the package variables that the reading takes, are together of bulk at most 1048576: NARROWER than '..Said'. Prove '..Said' where nothing that the law and all that it calls make is longer than what came in: it says more and counts as full. Else prove '..UptoSaid'. A law counts once. -/
mutual
def uptoBulk {H : Type} : DataW H → Nat
  | .lit (.string bytes) => bytes.length + 1
  | .lit _ => 1
  | .nil => 1
  | .ptr d => uptoBulk d + 1
  | .slice elems spare => uptoBulkAll elems + uptoBulkAll spare + 1
  | .agg parts => uptoBulkAll parts + 1
  | .iface _ d => uptoBulk d + 1
  | .map entries => uptoBulkEntries entries + 1
  | .held _ => 1
def uptoBulkAll {H : Type} : List (DataW H) → Nat
  | [] => 0
  | d :: r => uptoBulk d + uptoBulkAll r
def uptoBulkEntries {H : Type} : List (Lit × DataW H) → Nat
  | [] => 0
  | x :: r => uptoBulkEntry x + uptoBulkEntries r
def uptoBulkEntry {H : Type} : Lit × DataW H → Nat
  | (.string bytes, d) => bytes.length + uptoBulk d + 1
  | (_, d) => uptoBulk d + 1
 end
def uptoSmall : (H : Type) → List (DataW H) → Bool := fun _ ds => decide (uptoBulkAll ds ≤ 1048576)
def OpenSpec.upto (s : _root_.Go.ChangeSpec) : _root_.Go.OpenSpec := { _root_.Go.OpenSpec.ofChange s with cond := some uptoSmall }

/-- 'laws.FnNameAgain', WHERE WHAT IT READS IS OF BULK AT MOST 1048576: true; the input reads as it did. -/
def fnNameAgainUptoRow : OpenClaim := { program := "ytnoklmcaeijfaaagreat", sum := "8500f081b1be63809a5db454db47abbdfc7c65a145314c0887a8b00a105a66a0", func := "given.example/pub-lighterage/laws.FnNameAgain", spec := "fnNameAgain", inPlace := ["internal/abi.NoEscape", "internal/bytealg.MakeNoZero"], unfollowed := true, recurses := true, apart := false, narrowed := true }
def FnNameAgainUptoSaid : Prop := fnNameAgainUptoRow.holds Tryz.pinned (OpenSpec.upto fnNameAgainSpec)

/-- 'laws.FnNameDigest', WHERE WHAT IT READS IS OF BULK AT MOST 1048576: true; the input reads as it did. -/
def fnNameDigestUptoRow : OpenClaim := { program := "ytnoklmcaeijfaaagreat", sum := "8500f081b1be63809a5db454db47abbdfc7c65a145314c0887a8b00a105a66a0", func := "given.example/pub-lighterage/laws.FnNameDigest", spec := "fnNameDigest", inPlace := ["internal/abi.NoEscape", "internal/bytealg.MakeNoZero"], unfollowed := true, recurses := true, apart := false, narrowed := true }
def FnNameDigestUptoSaid : Prop := fnNameDigestUptoRow.holds Tryz.pinned (OpenSpec.upto fnNameDigestSpec)

/-- 'laws.FnNameReference', WHERE WHAT IT READS IS OF BULK AT MOST 1048576: true; the input reads as it did. -/
def fnNameReferenceUptoRow : OpenClaim := { program := "ytnoklmcaeijfaaagreat", sum := "8500f081b1be63809a5db454db47abbdfc7c65a145314c0887a8b00a105a66a0", func := "given.example/pub-lighterage/laws.FnNameReference", spec := "fnNameReference", inPlace := ["internal/abi.NoEscape", "internal/bytealg.MakeNoZero"], unfollowed := true, recurses := true, apart := false, narrowed := true }
def FnNameReferenceUptoSaid : Prop := fnNameReferenceUptoRow.holds Tryz.pinned (OpenSpec.upto fnNameReferenceSpec)

/-- 'laws.FnNameRegistry', WHERE WHAT IT READS IS OF BULK AT MOST 1048576: true; the input reads as it did. -/
def fnNameRegistryUptoRow : OpenClaim := { program := "ytnoklmcaeijfaaagreat", sum := "8500f081b1be63809a5db454db47abbdfc7c65a145314c0887a8b00a105a66a0", func := "given.example/pub-lighterage/laws.FnNameRegistry", spec := "fnNameRegistry", inPlace := ["internal/abi.NoEscape", "internal/bytealg.MakeNoZero"], unfollowed := true, recurses := true, apart := false, narrowed := true }
def FnNameRegistryUptoSaid : Prop := fnNameRegistryUptoRow.holds Tryz.pinned (OpenSpec.upto fnNameRegistrySpec)

/-- 'laws.FnNameRepository', WHERE WHAT IT READS IS OF BULK AT MOST 1048576: true; the input reads as it did. -/
def fnNameRepositoryUptoRow : OpenClaim := { program := "ytnoklmcaeijfaaagreat", sum := "8500f081b1be63809a5db454db47abbdfc7c65a145314c0887a8b00a105a66a0", func := "given.example/pub-lighterage/laws.FnNameRepository", spec := "fnNameRepository", inPlace := ["internal/abi.NoEscape", "internal/bytealg.MakeNoZero"], unfollowed := true, recurses := true, apart := false, narrowed := true }
def FnNameRepositoryUptoSaid : Prop := fnNameRepositoryUptoRow.holds Tryz.pinned (OpenSpec.upto fnNameRepositorySpec)

/-- 'laws.FnNameTag', WHERE WHAT IT READS IS OF BULK AT MOST 1048576: true; the input reads as it did. -/
def fnNameTagUptoRow : OpenClaim := { program := "ytnoklmcaeijfaaagreat", sum := "8500f081b1be63809a5db454db47abbdfc7c65a145314c0887a8b00a105a66a0", func := "given.example/pub-lighterage/laws.FnNameTag", spec := "fnNameTag", inPlace := ["internal/abi.NoEscape", "internal/bytealg.MakeNoZero"], unfollowed := true, recurses := true, apart := false, narrowed := true }
def FnNameTagUptoSaid : Prop := fnNameTagUptoRow.holds Tryz.pinned (OpenSpec.upto fnNameTagSpec)

/-- 'laws.FnNameMade', WHERE WHAT IT READS IS OF BULK AT MOST 1048576: true; the input reads as it did. -/
def fnNameMadeUptoRow : OpenClaim := { program := "ytnoklmcaeijfaaagreat", sum := "8500f081b1be63809a5db454db47abbdfc7c65a145314c0887a8b00a105a66a0", func := "given.example/pub-lighterage/laws.FnNameMade", spec := "fnNameMade", inPlace := ["internal/abi.NoEscape", "internal/bytealg.MakeNoZero"], unfollowed := true, recurses := true, apart := false, narrowed := true }
def FnNameMadeUptoSaid : Prop := fnNameMadeUptoRow.holds Tryz.pinned (OpenSpec.upto fnNameMadeSpec)

end Rows
end Go.Proofs.YtnoklmcaeijfaaaGreat
