/-
  The law of platforms' texts: it returns true.
-/
import Derived.Test.YtmdpfceigmimhaaMKPlat5
namespace Go.V
open Go.RowKit
set_option linter.unusedVariables false
set_option linter.unusedSimpArgs false
set_option maxRecDepth 10000
attribute [local irreducible] Run Ops
theorem nice.plain {s : List UInt8} (h : nice s) : plain s := fun c hc => ⟨(h c hc).1, (h c hc).2.1⟩
theorem nice.c {s : List UInt8} (h : nice s) : ∀ b ∈ s, b ≠ 58 := fun c hc => (h c hc).2.2.1
theorem nice.s {s : List UInt8} (h : nice s) : ∀ b ∈ s, b ≠ 47 := fun c hc => (h c hc).2.2.2
abbrev cdPf : Cd := .st (.pair .str (.pair .str (.pair .str (.pair .str (.pair (.nsl .str) (.nsl .str))))))
theorem nsl_sl {I : Imm} {cs : List Value} {x : Option (List (List UInt8))} (h : (tNSl tStr).rel I cs x) : ∃ v, cs = [v] ∧ Sl tStr I v (x.getD []) := by
  cases x with
  | none => exact ⟨_, h, Sl.nil _ _⟩
  | some xs =>
    obtain ⟨a, c, h1, h2, h3⟩ := h
    exact ⟨_, h1, some a, c, rfl, h2, h3.imp id fun ⟨b, off, h4, h5⟩ => ⟨b, off, by rw [h4], h5⟩⟩
theorem Val.pf {I : Imm} {v : Value} {x : cdPf.ty} (h : Val cdPf I v x) : ∃ (p : Pf) (u w : Value) (f g : List (List UInt8)), v = .agg (p.cs u w).toArray ∧ Sl tStr I u f ∧ Sl tStr I w g := by
  obtain ⟨cs, rfl, h⟩ := h
  obtain ⟨c1, c2, rfl, rfl, c3, c4, rfl, rfl, c5, c6, rfl, rfl, c7, c8, rfl, rfl, c9, c10, rfl, hf, hg⟩ := h
  obtain ⟨u, rfl, hu⟩ := nsl_sl hf
  obtain ⟨w, rfl, hw⟩ := nsl_sl hg
  exact ⟨⟨x.1, x.2.1, x.2.2.1, x.2.2.2.1⟩, u, w, _, _, rfl, hu, hw⟩
end Go.V
