/-
  strings.Builder: written, read.
-/
import Derived.Test.YtmdpfceigmimhaaMVT
import Derived.Test.YtmdpfceigmimhaaMV12
namespace Go.V
open Go.RowKit
set_option linter.unusedVariables false
set_option linter.unusedSimpArgs false
set_option maxRecDepth 10000
attribute [local irreducible] Run Ops
/-- a builder in block b that holds xs -/
def Bld (I : Imm) (b : Nat) (xs : List UInt8) (N : Own) : Prop := ∃ p v M, N = (b, blk [p, v] 115) :: M ∧ (p = .pointer none ∨ p = .pointer (some ⟨b, 0, none⟩)) ∧ Gr tU8 I 5 v xs M
theorem Bld.new (I : Imm) (b : Nat) : Bld I b [] [(b, blk [.pointer none, .slice none 0 0] 115)] := ⟨_, _, [], rfl, .inl rfl, Gr.nil _ _ _⟩
theorem Bld.mono {I J : Imm} {b : Nat} {xs : List UInt8} {N : Own} (h : Bld I b xs N) (hle : Le I J) : Bld J b xs N :=
  let ⟨p, v, M, h1, h2, h3⟩ := h; ⟨p, v, M, h1, h2, h3.mono hle⟩
end Go.V
