/-
  For every input that the row speaks of laws.FnMatch returns true, and what it was handed reads as it did. No further condition.
-/
import Derived.Test.YtmdpfceigmimhaaRows
import Derived.Test.YtmdpfceigmimhaaMLMt
import Derived.Test.YtmdpfceigmimhaaMV8
import Derived.WalkKit
import Derived.ProofKit
import Derived.OpenShut
import Derived.ShutString
import Derived.ChangeOld
import Derived.Below
import Derived.Carry
namespace Go.Proofs.Ytmdpfceigmimhaa.fnMatch
open Go.ChangeShapes Go.WideShapes Go.ChangeAt Go.RowKit
set_option linter.unusedVariables false
theorem own : ownKnob Try.prog.godebug = none := by kernel_rfl
theorem laidOut : laidOutB Try.prog = true := by kernel_rfl
set_option maxRecDepth 100000 in
theorem lifted (os : Os) (started : os.Started) (H : Type) (enc : TypeId × Value → H) :
    ReturnsInHanded {} Try.checked os 7 .any (Rows.fnMatchSpec.pre6 enc Try.prog Try.f7 Rows.fnMatchRow.domain false) (Rows.fnMatchSpec.post enc Try.prog Try.f7 false true false false) := by
  refine returnsInHanded_of_change (C := Try.checked) own started (by kernel_rfl) Try.func7
    (ChangeSpec.witness6 (enc := enc) (C := Try.checked) false ⟨#[], #[.agg #[.int .i64 0, .string ⟨#[]⟩, .string ⟨#[]⟩, .slice none 0 0, .slice none 0 0, .slice none 0 0], .agg #[.string ⟨#[]⟩, .int .i64 0, .string ⟨#[]⟩, .string ⟨#[]⟩, .string ⟨#[]⟩, .slice none 0 0, .slice none 0 0, .slice none 0 0, .string ⟨#[]⟩]], []⟩ 8 (by kernel_rfl) (by kernel_rfl) (by kernel_rfl) (by kernel_rfl)) ?_
  intro W base args ds gs before hval0 hW hcnd _
  have hval : ∀ (j : Nat) t v, Try.f7.params[j]? = some t → args[j]? = some v → Value.okWide Try.prog W .any base t v := hval0
  have hW' := hW
  obtain ⟨p, q, hA0, hV, rfl, hfz, hnd⟩ := hW
  have hA : DataW.TrodAll enc Try.prog W 0 (fun _ => true) true Try.f7.params.toList args.toList ds p := hA0
  rw [Try.params7] at hA hval
  obtain ⟨v0, vs0, d0, ds0, p0, q0, hargs, rfl, rfl, h0, r0⟩ := trodAll_cons hA
  obtain ⟨v1, vs1, d1, ds1, p1, q1, rfl, rfl, rfl, h1, r1⟩ := trodAll_cons r0
  obtain ⟨rfl, rfl, rfl⟩ := trodAll_nil r1
  obtain rfl : args = #[v0, v1] := by cases args; simp_all
  obtain ⟨rfl, rfl⟩ := trodVars_none hV
  obtain ⟨x0, hx0, ok0⟩ := V.read_arg 30 (c := .st (.pair (.int .i64) (.pair .str (.pair .str (.pair (.nsl (.st (.pair .str .str))) (.pair (.nsl .str) (.nsl (.st (.pair .str (.pair .str (.pair .str (.pair .str (.pair (.nsl .str) (.nsl .str)))))))))))))) (by kernel_rfl) (hval 0 49 v0 rfl rfl) h0
  obtain ⟨x1, hx1, ok1⟩ := V.read_arg 30 (c := .st (.pair .str (.pair (.int .i64) (.pair (.st (.pair .str .str)) (.pair .str (.pair (.nsl .str) (.pair (.nsl (.st (.pair .str .str))) (.pair (.nsl (.st (.pair .str (.pair .str (.pair .str (.pair .str (.pair (.nsl .str) (.nsl .str)))))))) .str)))))))) (by kernel_rfl) (hval 1 54 v1 rfl rfl) h1
  clear hA0 hval0
  refine (V.Pure.calls (V.laws_FnMatch _ _ _ hx0 ok0 _ _ hx1 ok1)).mono fun e W' ⟨⟨v, J, he, hv⟩, bel⟩ => ?_
  subst he; subst hv
  have hlt0 : ∀ x ∈ p0, x.block < W.heap.size := fun x hx => hW'.lt x (by simp [hx])
  have hlt1 : ∀ x ∈ p1, x.block < W.heap.size := fun x hx => hW'.lt x (by simp [hx])
  exact ⟨_, rfl, _, _, _, [], _, [], hW', trodAll_mk1 (shut_bool Try.underlying4 _), (trodAll_cons_mk (Below.trod laidOut (by kernel_rfl) (of_decide_eq_true (by kernel_rfl)) h0 bel hlt0) (trodAll_cons_mk (Below.trod laidOut (by kernel_rfl) (of_decide_eq_true (by kernel_rfl)) h1 bel hlt1) trodAll_mk0)), rfl, bel.frame _, fun h => by cases h⟩
theorem over : Rows.fnMatchRow.holds Try.pinned (OpenSpec.ofChange Rows.fnMatchSpec) :=
  OpenClaim.holds_of_wide 7 Try.f7 rfl rfl rfl rfl rfl rfl rfl ⟨rfl, rfl, rfl, rfl, rfl⟩ rfl rfl rfl rfl rfl (by kernel_rfl) Try.func7 (by kernel_rfl)
    (of_decide_eq_true (by kernel_rfl)) (by unfold Func.isWrapper; first | (rw [if_pos (by decide +kernel)]; kernel_rfl) | (rw [if_neg (by decide +kernel)]; exact ⟨rfl, rfl⟩))
    (fun os started H enc _ => lifted os started H enc)
theorem proved : Rows.FnMatchSaid := over
end Go.Proofs.Ytmdpfceigmimhaa.fnMatch
namespace Go.Proofs.Ytmdpfceigmimhaa
theorem fnMatch_holds : Rows.FnMatchSaid := fnMatch.proved
end Go.Proofs.Ytmdpfceigmimhaa
#print axioms Go.Proofs.Ytmdpfceigmimhaa.fnMatch_holds
