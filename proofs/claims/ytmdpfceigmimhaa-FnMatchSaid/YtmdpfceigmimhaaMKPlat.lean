/-
  Platforms: read by the package, read by the document, compared.
-/
import Derived.Test.YtmdpfceigmimhaaMKTrim
namespace Go.V
open Go.RowKit
set_option linter.unusedVariables false
set_option linter.unusedSimpArgs false
set_option maxRecDepth 10000
attribute [local irreducible] Run Ops
structure Pf where
  arch : List UInt8
  os : List UInt8
  ver : List UInt8
  var : List UInt8
deriving DecidableEq
/-- as impl has it -/
def Pf.cs (p : Pf) (f g : Value) : List Value := [str p.arch, str p.os, str p.ver, str p.var, f, g]
/-- as the package has it -/
def Pf.ds (p : Pf) (f g : Value) : List Value := [str p.arch, str p.os, str p.ver, f, str p.var, g]
def nilS : Value := .slice none 0 0
end Go.V
