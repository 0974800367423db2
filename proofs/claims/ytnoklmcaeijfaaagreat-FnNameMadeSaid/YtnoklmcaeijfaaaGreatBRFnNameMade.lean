import Derived.Test.YtnoklmcaeijfaaaGreatRows
import Derived.Test.YtnoklmcaeijfaaaGreatBM12
import Derived.Test.YtnoklmcaeijfaaaGreatBM2
import Derived.WalkKit
import Derived.ProofKit
import Derived.OpenShut
import Derived.ShutString
import Derived.ChangeOld
import Derived.Below
import Derived.Carry
/-
  For every input that the row speaks of laws.FnNameMade returns true, and what it was handed reads as it did. No further condition.
-/
namespace Go.Proofs.YtnoklmcaeijfaaaGreat.fnNameMade
open Go.ChangeShapes Go.WideShapes Go.ChangeAt Go.RowKit
set_option linter.unusedVariables false
theorem own : ownKnob Tryz.prog.godebug = none := by kernel_rfl
theorem laidOut : laidOutB Tryz.prog = true := by kernel_rfl
set_option maxRecDepth 100000 in
theorem lifted (os : Os) (started : os.Started) (H : Type) (enc : TypeId × Value → H) :
    ReturnsInHanded {} Tryz.checked os 9 .any (Rows.fnNameMadeSpec.pre6 enc Tryz.prog Tryz.f9 Rows.fnNameMadeRow.domain false) (Rows.fnNameMadeSpec.post enc Tryz.prog Tryz.f9 false true false false) := by
  refine returnsInHanded_of_change (C := Tryz.checked) own started (by kernel_rfl) Tryz.func9
    (ChangeSpec.witness6 (enc := enc) (C := Tryz.checked) false ⟨#[], #[.string ⟨#[]⟩, .slice none 0 0, .string ⟨#[]⟩, .bool false], []⟩ 8 (by kernel_rfl) (by kernel_rfl) (by kernel_rfl) (by kernel_rfl)) ?_
  intro W base args ds gs before hval0 hW hcnd _
  have hval : ∀ (j : Nat) t v, Tryz.f9.params[j]? = some t → args[j]? = some v → Value.okWide Tryz.prog W .any base t v := hval0
  have hW' := hW
  obtain ⟨p, q, hA0, hV, rfl, hfz, hnd⟩ := hW
  have hA : DataW.TrodAll enc Tryz.prog W 0 (fun _ => true) true Tryz.f9.params.toList args.toList ds p := hA0
  rw [Tryz.params9] at hA hval
  obtain ⟨v0, vs0, d0, ds0, p0, q0, hargs, rfl, rfl, h0, r0⟩ := trodAll_cons hA
  obtain ⟨v1, vs1, d1, ds1, p1, q1, rfl, rfl, rfl, h1, r1⟩ := trodAll_cons r0
  obtain ⟨v2, vs2, d2, ds2, p2, q2, rfl, rfl, rfl, h2, r2⟩ := trodAll_cons r1
  obtain ⟨v3, vs3, d3, ds3, p3, q3, rfl, rfl, rfl, h3, r3⟩ := trodAll_cons r2
  obtain ⟨rfl, rfl, rfl⟩ := trodAll_nil r3
  obtain rfl : args = #[v0, v1, v2, v3] := by cases args; simp_all
  obtain ⟨rfl, rfl⟩ := trodVars_none hV
  obtain ⟨x0, hx0, ok0⟩ := V.read_arg 30 (c := .str) (by kernel_rfl) (hval 0 9 v0 rfl rfl) h0
  obtain ⟨x1, hx1, ok1⟩ := V.read_arg 30 (c := .nsl .str) (by kernel_rfl) (hval 1 36 v1 rfl rfl) h1
  obtain ⟨x2, hx2, ok2⟩ := V.read_arg 30 (c := .str) (by kernel_rfl) (hval 2 9 v2 rfl rfl) h2
  obtain ⟨x3, hx3, ok3⟩ := V.read_arg 30 (c := .bool) (by kernel_rfl) (hval 3 4 v3 rfl rfl) h3
  clear hA0 hval0
  refine (V.Pure.calls (V.laws_FnNameMade _ _ _ hx0 ok0 _ _ hx1 ok1 _ _ hx2 ok2 _ _ hx3 ok3)).mono fun e W' ⟨⟨v, J, he, hv⟩, bel⟩ => ?_
  subst he; subst hv
  have hlt0 : ∀ x ∈ p0, x.block < W.heap.size := fun x hx => hW'.lt x (by simp [hx])
  have hlt1 : ∀ x ∈ p1, x.block < W.heap.size := fun x hx => hW'.lt x (by simp [hx])
  have hlt2 : ∀ x ∈ p2, x.block < W.heap.size := fun x hx => hW'.lt x (by simp [hx])
  have hlt3 : ∀ x ∈ p3, x.block < W.heap.size := fun x hx => hW'.lt x (by simp [hx])
  exact ⟨_, rfl, _, _, _, [], _, [], hW', trodAll_mk1 (shut_bool Tryz.underlying4 _), (trodAll_cons_mk (Below.trod laidOut (by kernel_rfl) (of_decide_eq_true (by kernel_rfl)) h0 bel hlt0) (trodAll_cons_mk (Below.trod laidOut (by kernel_rfl) (of_decide_eq_true (by kernel_rfl)) h1 bel hlt1) (trodAll_cons_mk (Below.trod laidOut (by kernel_rfl) (of_decide_eq_true (by kernel_rfl)) h2 bel hlt2) (trodAll_cons_mk (Below.trod laidOut (by kernel_rfl) (of_decide_eq_true (by kernel_rfl)) h3 bel hlt3) trodAll_mk0)))), rfl, bel.frame _, fun h => by cases h⟩
theorem over : Rows.fnNameMadeRow.holds Tryz.pinned (OpenSpec.ofChange Rows.fnNameMadeSpec) :=
  OpenClaim.holds_of_wide 9 Tryz.f9 rfl rfl rfl rfl rfl rfl rfl ⟨rfl, rfl, rfl, rfl, rfl⟩ rfl rfl rfl rfl rfl (by kernel_rfl) Tryz.func9 (by kernel_rfl)
    (of_decide_eq_true (by kernel_rfl)) (by unfold Func.isWrapper; first | (rw [if_pos (by decide +kernel)]; kernel_rfl) | (rw [if_neg (by decide +kernel)]; exact ⟨rfl, rfl⟩))
    (fun os started H enc _ => lifted os started H enc)
theorem proved : Rows.FnNameMadeSaid := over
end Go.Proofs.YtnoklmcaeijfaaaGreat.fnNameMade
namespace Go.Proofs.YtnoklmcaeijfaaaGreat
theorem fnNameMade_holds : Rows.FnNameMadeSaid := fnNameMade.proved
end Go.Proofs.YtnoklmcaeijfaaaGreat
#print axioms Go.Proofs.YtnoklmcaeijfaaaGreat.fnNameMade_holds
