/-
  A text without blanks stays when it is trimmed; lists of texts compared; how many colons, whether blanks.
-/
import Derived.Test.YtmdpfceigmimhaaMKSpl2
namespace Go.V
open Go.RowKit
set_option linter.unusedVariables false
set_option linter.unusedSimpArgs false
set_option maxRecDepth 10000
attribute [local irreducible] Run Ops
end Go.V
