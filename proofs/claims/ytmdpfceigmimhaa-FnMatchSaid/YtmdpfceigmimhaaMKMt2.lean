/-
  Matchers: maps by hashes.
-/
import Derived.Test.YtmdpfceigmimhaaMKMt1
import Derived.Test.YtmdpfceigmimhaaMV15
namespace Go.V
open Go.RowKit Go.MapKept
set_option linter.unusedVariables false
set_option linter.unusedSimpArgs false
set_option maxRecDepth 10000
def k2 (x : K2) : Value := .agg [str x.1, str x.2].toArray
theorem checkKey_hash (em : Bool) (x : K2) (w : World) : (Instr.checkKey em 10000 94 (k2 x)).run Proofs.Try.prog w = .ok () w := by kernel_rfl
theorem eqS_hash : [94].all (fun t => !Proofs.Try.prog.stoodInHeld t && !Proofs.Try.prog.eqGuardType Proofs.Try.prog.depth t) = true := by kernel_rfl
theorem equal_hash (x y : K2) (w : World) : (Op.equal 94 (k2 x) (k2 y)).run Proofs.Try.prog w = .ok (decide (x = y)) w := by
  have h := run_eqV T eqS_hash 10000 94 (k2 x) (k2 y) _ rfl w
  show (Op.equalIn 10000 _ _ _).run _ _ = _
  rw [h]
  obtain ⟨a, b⟩ := x
  obtain ⟨c, d⟩ := y
  congr 1
  rw [Bool.eq_iff_iff]
  simp
theorem sameBits_hash (x : K2) : Instr.sameBits 10000 (k2 x) (k2 x) = true := by
  simp [Instr.sameBits, k2, str, beq_toListBytes]
theorem key_hash : KeyOk k2 Proofs.Try.prog 94 where
  check := checkKey_hash
  stays x w := by simp [Instr.keyThatStays, sameBits_hash]
  find x es l h w := by
    have hu : (underlying 94).run Proofs.Try.prog w = .ok _ w := T.undOk rfl w
    have ha := run_findAsking k2 equal_hash x es l 0 h w
    have e0 : (gidx x l).map (fun p => (0 + p.1, p.2)) = gidx x l := by cases gidx x l <;> simp
    rw [e0] at ha
    cases es with
    | nil =>
      have : l = [] := List.map_eq_nil_iff.1 h.symm
      subst this
      simp only [Instr.findKey, Sem.run_bind, hu, Result.andThen_ok]
      rfl
    | cons e es =>
      simp only [Instr.findKey, Sem.run_bind, hu, Result.andThen_ok]
      exact ha
end Go.V
