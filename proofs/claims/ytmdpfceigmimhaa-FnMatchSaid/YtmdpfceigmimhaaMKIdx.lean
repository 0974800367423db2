/-
  Package v1 of the program: searches in texts.
-/
import Derived.Test.YtmdpfceigmimhaaMVT
namespace Go.V
open Go.RowKit
set_option linter.unusedVariables false
set_option linter.unusedSimpArgs false
/-- the place of the first c -/
def ix (c : UInt8) : List UInt8 → Option Nat
  | [] => none
  | x :: r => if x = c then some 0 else (ix c r).map (· + 1)
end Go.V
