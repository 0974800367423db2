/-
  Platforms written as texts: by the package, by the document.
-/
import Derived.Test.YtmdpfceigmimhaaMKPlat3
import Derived.Test.YtmdpfceigmimhaaMKBld
namespace Go.V
open Go.RowKit
set_option linter.unusedVariables false
set_option linter.unusedSimpArgs false
set_option maxRecDepth 10000
attribute [local irreducible] Run Ops
theorem impl_copied (I : Imm) (xs : List (List UInt8)) (v : Value) (h : Sl tStr I v xs) (hlen : xs.length ≤ 2147483647) : Pure Proofs.Try.prog 67 [v] I fun w J => Sl tStr J w xs := by
  have h0 := h
  obtain ⟨A, c, rfl, hc, hrow⟩ := h0
  refine Spec.enter 8 [(0, _)] Proofs.Try.func67 rfl Proofs.Try.ntmps67 (by simp) rfl ?_
  intro C hCf hR hCI
  repeat (first | refine Run.seq ?_ | refine Run.region ?_ | refine Ops.nil ?_ | refine Run.skip ?_ | refine Run.cond_t rfl ?_ | refine Run.cond_f rfl ?_ | refine Ops.eqlNil T rfl (by decide) rfl rfl rfl rfl rfl ?_ | refine Ops.pure T rfl (by decide) rfl ?_)
  cases A with
  | none =>
    have : xs = [] := by
      rcases hrow with h | ⟨b, off, h, _⟩
      · exact h
      · cases h
    subst this
    repeat (first | refine Run.seq ?_ | refine Run.region ?_ | refine Ops.nil ?_ | refine Run.skip ?_ | refine Run.cond_t rfl ?_ | refine Run.cond_f rfl ?_ | refine Ops.eqlNil T rfl (by decide) rfl rfl rfl rfl rfl ?_ | refine Ops.pure T rfl (by decide) rfl ?_)
    refine Run.fin (Run.ret1 (by rw [hCf]; exact Proofs.Try.func67) Proofs.Try.results67 rfl (hR _ _ _ ?_))
    exact ⟨rfl, Sl.nil _ _⟩
  | some a =>
    repeat (first | refine Run.seq ?_ | refine Run.region ?_ | refine Ops.nil ?_ | refine Run.skip ?_ | refine Run.cond_t rfl ?_ | refine Run.cond_f rfl ?_ | refine Ops.eqlNil T rfl (by decide) rfl rfl rfl rfl rfl ?_ | refine Ops.pure T rfl (by decide) rfl ?_)
    refine Ops.lit T rfl rfl rfl (by decide) rfl (by decide) (by decide) rfl rfl rfl rfl rfl (fun b => ?_)
    repeat (first | refine Run.seq ?_ | refine Run.region ?_ | refine Ops.nil ?_ | refine Run.skip ?_ | refine Run.cond_t rfl ?_ | refine Run.cond_f rfl ?_ | refine Ops.eqlNil T rfl (by decide) rfl rfl rfl rfl rfl ?_ | refine Ops.pure T rfl (by decide) rfl ?_)
    refine Ops.appSl (N := []) el30 (Gr.lit0 tStr I _ b) h (fun _ h => h.one_str) rfl (by decide) rfl rfl rfl (by simp; omega) (by simp; omega) ?_
    rintro v' M' hG
    refine Ops.keepG (N := []) hG rfl fun J hle hS => ?_
    repeat (first | refine Run.seq ?_ | refine Run.region ?_ | refine Ops.nil ?_ | refine Run.skip ?_ | refine Run.cond_t rfl ?_ | refine Run.cond_f rfl ?_ | refine Ops.eqlNil T rfl (by decide) rfl rfl rfl rfl rfl ?_ | refine Ops.pure T rfl (by decide) rfl ?_)
    refine Run.fin (Run.ret1 (by rw [hCf]; exact Proofs.Try.func67) Proofs.Try.results67 rfl (hR _ _ _ ?_))
    exact ⟨rfl, by simpa using hS⟩
end Go.V
