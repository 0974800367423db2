/-
  Platforms compared by the package: copies that the call owns, sorted, compared; by the document.
-/
import Derived.Test.YtmdpfceigmimhaaMKSame2
import Derived.Test.YtmdpfceigmimhaaMKSort
namespace Go.V
open Go.RowKit
set_option linter.unusedVariables false
set_option linter.unusedSimpArgs false
set_option maxRecDepth 10000
attribute [local irreducible] Run Ops
end Go.V
