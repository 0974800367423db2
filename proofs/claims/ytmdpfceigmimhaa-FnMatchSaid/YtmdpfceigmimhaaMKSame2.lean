/-
  Does a platform satisfy another? By the document, by the package.
-/
import Derived.Test.YtmdpfceigmimhaaMKSame
namespace Go.V
open Go.RowKit
set_option linter.unusedVariables false
set_option linter.unusedSimpArgs false
set_option maxRecDepth 10000
attribute [local irreducible] Run Ops
theorem mget_mset (k x : List UInt8) (v : Value) : ∀ m : KV, mget x (mset k v m) = if k = x then some v else mget x m
  | [] => by simp [mset, mget]
  | (k', v') :: r => by
    simp only [mset]
    by_cases h : k' = k
    · subst h
      rw [if_pos rfl]
      simp only [mget]
      by_cases e : k' = x <;> simp [e]
    · rw [if_neg h]
      simp only [mget, mget_mset k x v r]
      by_cases h1 : k' = x
      · subst h1
        rw [if_pos rfl, if_pos rfl, if_neg (fun e => h e.symm)]
      · rw [if_neg h1, if_neg h1]
end Go.V
