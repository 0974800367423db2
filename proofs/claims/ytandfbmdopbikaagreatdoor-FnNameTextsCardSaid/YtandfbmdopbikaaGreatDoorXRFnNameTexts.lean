import Derived.Test.YtandfbmdopbikaaGreatDoorCards
import Derived.Test.YtandfbmdopbikaaGreatDoorTie
import Derived.Test.YtandfbmdopbikaaGreatDoorXM14
import Derived.Test.YtandfbmdopbikaaGreatDoorXM4
import Derived.WalkKit
import Derived.ProofKit
import Derived.OpenShut
import Derived.ShutString
import Derived.ChangeOld
import Derived.Below
import Derived.Carry
import Derived.Deep.DeepHandedRow
/-
  For every input that the row speaks of laws.FnNameTexts returns true, and what it was handed reads as it did; the variables that the row lists start as the program lays them. No further condition.
-/
namespace Go.Proofs.YtandfbmdopbikaaGreatDoor.fnNameTexts
open Go.ChangeShapes Go.WideShapes Go.ChangeAt Go.RowKit
set_option linter.unusedVariables false
set_option linter.unusedSimpArgs false
theorem own : ownKnob Tryz.prog.godebug = none := by kernel_rfl
theorem laidOut : laidOutB Tryz.prog = true := by kernel_rfl
set_option maxRecDepth 100000 in
theorem lifted (os : Os) (started : os.Started) (H : Type) (enc : TypeId × Value → H) (F : Stop.Interp) :
    ReturnsInHanded {} Tryz.checked os 3 .any ((OpenSpec.ofChange Rows.fnNameTextsSpec).preRow enc Tryz.prog Tryz.f3 Rows.fnNameTextsRow.domain false Rows.fnNameTextsRow.laid) (((OpenSpec.ofChange Rows.fnNameTextsSpec).at F).post enc Tryz.prog Tryz.f3 false true false false) := by
  refine returnsInHanded_of_row (C := Tryz.checked) (s := OpenSpec.ofChange Rows.fnNameTextsSpec) own started (by kernel_rfl) Tryz.func3
    (V.witness_laid (enc := enc) (C := Tryz.checked) false #[.agg #[.string ⟨#[]⟩, .bool false, .bool false, .string ⟨#[]⟩, .string ⟨#[]⟩], .int .u8 0] (World.shaped_of_ZipB (by kernel_rfl) (by kernel_rfl)) (by kernel_rfl)
      (OpenSpec.preRow_of_cond 8 (x := ([.agg [.lit (.string []), .lit (.bool false), .lit (.bool false), .lit (.string []), .lit (.string [])], .lit (.int .u8 0)], [], [])) (by kernel_rfl) (by kernel_rfl) (fun k hk => by cases hk) (by kernel_rfl) (by rw [MakeChecks.laidMetH_plain _ _ _ (by kernel_rfl)]; exact laidMet_laidAll _ (by kernel_rfl) (by kernel_rfl)))) ?_
  intro W base args ds gs before hval0 hW _ _ _ hL _ _
  have hval : ∀ (j : Nat) t v, Tryz.f3.params[j]? = some t → args[j]? = some v → Value.okWide Tryz.prog W .any base t v := hval0
  have hW' : DataW.Whole enc Tryz.prog Tryz.f3.params.toList Rows.fnNameTextsSpec.vars false W args.toList ds gs before := hW
  obtain ⟨p, q, hA0, hV, rfl, hfz, hnd⟩ := hW
  have hA : DataW.TrodAll enc Tryz.prog W 0 (fun _ => true) true Tryz.f3.params.toList args.toList ds p := hA0
  rw [Tryz.params3] at hA hval
  obtain ⟨v0, vs0, d0, ds0, p0, q0, hargs, rfl, rfl, h0, r0⟩ := trodAll_cons hA
  obtain ⟨v1, vs1, d1, ds1, p1, q1, rfl, rfl, rfl, h1, r1⟩ := trodAll_cons r0
  obtain ⟨rfl, rfl, rfl⟩ := trodAll_nil r1
  obtain rfl : args = #[v0, v1] := by cases args; simp_all
  obtain ⟨rfl, rfl⟩ := trodVars_none hV
  obtain ⟨x0, hx0, ok0⟩ := V.read_arg 30 (c := .st (.pair .str (.pair .bool (.pair .bool (.pair .str .str))))) (by kernel_rfl) (hval 0 23 v0 rfl rfl) h0
  obtain ⟨x1, hx1, ok1⟩ := V.read_arg 30 (c := .int .u8) (by kernel_rfl) (hval 1 5 v1 rfl rfl) h1
  clear hA0 hval0
  refine (V.Pure.calls (V.laws_FnNameTexts _ _ _ hx0 ok0 _ _ hx1 ok1 )).mono fun e W' ⟨⟨v, J, he, hv⟩, bel⟩ => ?_
  subst he; subst hv
  have hlt0 : ∀ x ∈ p0, x.block < W.heap.size := fun x hx => hW'.lt x (by simp [hx])
  have hlt1 : ∀ x ∈ p1, x.block < W.heap.size := fun x hx => hW'.lt x (by simp [hx])
  exact ⟨_, rfl, _, _, _, [], _, [], hW', trodAll_mk1 (shut_bool Tryz.underlying4 _), (trodAll_cons_mk (Below.trod laidOut (by kernel_rfl) (of_decide_eq_true (by kernel_rfl)) h0 bel hlt0) (trodAll_cons_mk (Below.trod laidOut (by kernel_rfl) (of_decide_eq_true (by kernel_rfl)) h1 bel hlt1) trodAll_mk0)), rfl, bel.frame _, fun h => by cases h⟩
theorem and_i {a b : Bool} (h : a = true) (g : b = true) : (a && b) = true := by rw [h, g]; rfl
set_option maxHeartbeats 8000000 in
theorem closed : joinedFacts Tryz.pinned.checked.prog 3 Tryz.f3 (OpenSpec.ofChange Rows.fnNameTextsSpec).bare Rows.fnNameTextsRow = true := by
  unfold joinedFacts
  iterate 31 refine and_i ?_ ?_
  all_goals (as_aux_lemma => kernel_rfl)
theorem said : Rows.FnNameTextsSaid :=
  OpenClaim.holds_of_cond 3 Tryz.f3 rfl rfl rfl rfl rfl rfl rfl ⟨rfl, rfl, rfl, rfl, rfl⟩ rfl rfl rfl rfl rfl (by as_aux_lemma => kernel_rfl) Tryz.func3 closed
    (of_decide_eq_true (by as_aux_lemma => kernel_rfl)) (by unfold Func.isWrapper; first | (rw [if_pos (by decide +kernel)]; kernel_rfl) | (rw [if_neg (by decide +kernel)]; exact ⟨rfl, rfl⟩))
    (fun os started H enc _ F => by rw [OpenClaim.pre_eq_preRow]; exact lifted os started H enc F)
theorem plain (f : FuncId) (fn : Func) (hf : Tryz.pinned.checked.prog.funcNamed "given.example/pub-lighterage/laws.FnNameTexts" = some f) (hfn : Tryz.pinned.checked.prog.funcs[f]? = some fn) :
    true = Tryz.pinned.checked.prog.looks [] ∧ ∀ (j : Nat) t, fn.params[j]? = some t → Tryz.pinned.checked.prog.wantsStandIn t = false := by
  obtain rfl : f = 3 := Option.some.inj ((show Tryz.prog.funcNamed "given.example/pub-lighterage/laws.FnNameTexts" = some 3 by kernel_rfl).symm.trans hf) |>.symm
  obtain rfl : fn = Tryz.f3 := (Option.some.inj (Tryz.func3.symm.trans hfn)).symm
  refine ⟨by kernel_rfl, fun j t ht => ?_⟩
  rw [Tryz.params3] at ht
  have hm : t ∈ [23, 5] := by simpa using Array.mem_of_getElem? ht
  have hall : ([23, 5].all fun u => !Tryz.prog.wantsStandIn u) = true := by kernel_rfl
  exact (show Tryz.prog.wantsStandIn t = false by simpa using List.all_eq_true.1 hall t hm)
theorem card : Rows.FnNameTextsCardSaid :=
  Claim7.holds_tied_plain_at .later [] _ _ _ _ said (fun _ h => by cases h) (by as_aux_lemma => kernel_rfl) (fun _ h => by cases h) fnNameTexts_row_tie rfl ⟨rfl, rfl⟩ (by as_aux_lemma => kernel_rfl) rfl plain (by as_aux_lemma => kernel_rfl)
end Go.Proofs.YtandfbmdopbikaaGreatDoor.fnNameTexts
namespace Go.Proofs.YtandfbmdopbikaaGreatDoor
theorem fnNameTexts_holds : Rows.FnNameTextsCardSaid := fnNameTexts.card
end Go.Proofs.YtandfbmdopbikaaGreatDoor
#print axioms Go.Proofs.YtandfbmdopbikaaGreatDoor.fnNameTexts_holds
