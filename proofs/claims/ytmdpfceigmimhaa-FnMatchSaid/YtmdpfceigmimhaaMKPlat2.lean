/-
  Platforms as impl hands them on; the document's reading; two compared.
-/
import Derived.Test.YtmdpfceigmimhaaMKPlat
namespace Go.V
open Go.RowKit
set_option linter.unusedVariables false
set_option linter.unusedSimpArgs false
set_option maxRecDepth 10000
attribute [local irreducible] Run Ops
end Go.V
