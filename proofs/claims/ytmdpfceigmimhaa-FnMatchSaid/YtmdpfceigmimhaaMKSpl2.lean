/-
  The document's own parting; texts without blanks, which stay when they are trimmed; lists of texts compared.
-/
import Derived.Test.YtmdpfceigmimhaaMKSpl
namespace Go.V
open Go.RowKit
set_option linter.unusedVariables false
set_option linter.unusedSimpArgs false
set_option maxRecDepth 10000
attribute [local irreducible] Run Ops
/-- a byte as a value -/
def u8 (c : UInt8) : Value := .int .u8 (c.toNat : Int)
/-- below 128, no blanks -/
def plain (s : List UInt8) : Prop := ∀ c ∈ s, 33 ≤ c.toNat ∧ c.toNat < 127
end Go.V
