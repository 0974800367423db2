/-
  Texts parted at a byte, and their first place of a byte.
-/
import Derived.Test.YtmdpfceigmimhaaMKIdx
import Derived.Test.YtmdpfceigmimhaaMV10
namespace Go.V
open Go.RowKit
set_option linter.unusedVariables false
set_option linter.unusedSimpArgs false
set_option maxRecDepth 10000
attribute [local irreducible] Run Ops
end Go.V
