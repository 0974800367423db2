/-
  Platforms: the document's reading.
-/
import Derived.Test.YtmdpfceigmimhaaMKPlat2
namespace Go.V
open Go.RowKit
set_option linter.unusedVariables false
set_option linter.unusedSimpArgs false
set_option maxRecDepth 10000
attribute [local irreducible] Run Ops
theorem RowAt.str {I : Imm} {b off : Nat} {xs : List (List UInt8)} (h : RowAt tStr I b off xs) (j : Nat) (hj : j < xs.length) : At I b (off + j * tStr.size) [V.str (xs.getD j [])] := by
  have hx := List.getElem?_eq_getElem hj
  obtain ⟨cs, h1, h2⟩ := h j _ hx
  obtain rfl : cs = [V.str xs[j]] := h1
  rw [List.getD_eq_getElem?_getD, hx]; exact h2
end Go.V
