import Derived.Test.YtcegjgmmbbojdaaGreatDoorCards
import Derived.Test.YtcegjgmmbbojdaaGreatDoorTie
import Derived.Test.YtcegjgmmbbojdaaGreatDoorAM23
import Derived.Test.YtcegjgmmbbojdaaGreatDoorAM3
import Derived.WalkKit
import Derived.ProofKit
import Derived.OpenShut
import Derived.ShutString
import Derived.ChangeOld
import Derived.Below
import Derived.Carry
import Derived.Deep.DeepHandedRow
/-
  For every input that the row speaks of laws.FnManifestParse returns true, and what it was handed reads as it did; the variables that the row lists start as the program lays them. No further condition.
-/
namespace Go.Proofs.YtcegjgmmbbojdaaGreatDoor.fnManifestParse
open Go.ChangeShapes Go.WideShapes Go.ChangeAt Go.RowKit
set_option linter.unusedVariables false
set_option linter.unusedSimpArgs false
theorem own : ownKnob Tryz.prog.godebug = none := by kernel_rfl
theorem laidOut : laidOutB Tryz.prog = true := by kernel_rfl
theorem star : "*" ++ "errors.errorString" = "*errors.errorString" := by decide
theorem rowErr (u : TypeId) (h : Tryz.prog.typeName? 3 u = some "*errors.errorString") : u = 154 :=
  typeName_ptr_named (nm := "errors.errorString") (by rw [star]; kernel_rfl) (by kernel_rfl) (by decide) u (by rw [star]; exact h)
theorem eofAt {W : World} (h : laidMetH Tryz.prog Rows.fnManifestParseRow.laid W) : ∃ a, V.At (V.whole W) 2 0 [.iface 154 (.pointer (some a))] :=
  V.laidSentinel h (by kernel_rfl) (n := "io.EOF") (g := 2) (ti := 64) (te := 228) (List.mem_of_getElem? (i := 1) rfl) (by kernel_rfl) (by kernel_rfl) Tryz.underlying64 rowErr Tryz.underlying154 Tryz.underlying228 rfl rfl Tryz.underlying9 (by kernel_rfl) (by kernel_rfl)
set_option maxRecDepth 100000 in
theorem lifted (os : Os) (started : os.Started) (H : Type) (enc : TypeId × Value → H) (F : Stop.Interp) :
    ReturnsInHanded {} Tryz.checked os 3 .any ((OpenSpec.ofChange Rows.fnManifestParseSpec).preRow enc Tryz.prog Tryz.f3 Rows.fnManifestParseRow.domain false Rows.fnManifestParseRow.laid) (((OpenSpec.ofChange Rows.fnManifestParseSpec).at F).post enc Tryz.prog Tryz.f3 false true false false) := by
  refine returnsInHanded_of_row (C := Tryz.checked) (s := OpenSpec.ofChange Rows.fnManifestParseSpec) own started (by kernel_rfl) Tryz.func3
    (V.witness_laid (enc := enc) (C := Tryz.checked) false #[.agg #[.bool false, .int .i64 0, .string ⟨#[]⟩, .string ⟨#[]⟩, .int .i64 0, .string ⟨#[]⟩, .string ⟨#[]⟩, .string ⟨#[]⟩, .slice none 0 0, .slice none 0 0, .slice none 0 0, .string ⟨#[]⟩, .slice none 0 0, .slice none 0 0, .slice none 0 0, .string ⟨#[]⟩], .slice none 0 0, .string ⟨#[]⟩] (World.shaped_of_ZipB (by kernel_rfl) (by kernel_rfl)) (by kernel_rfl)
      (OpenSpec.preRow_of_cond 8 (x := ([.agg [.lit (.bool false), .lit (.int .i64 0), .lit (.string []), .agg [.lit (.string []), .lit (.int .i64 0), .agg [.lit (.string []), .lit (.string [])], .lit (.string []), .nil, .nil, .nil, .lit (.string [])], .nil, .nil, .nil, .lit (.string [])], .nil, .lit (.string [])], [], [])) (by kernel_rfl) (by kernel_rfl) (fun k hk => by cases hk) (by kernel_rfl) (by rw [MakeChecks.laidMetH_plain _ _ _ (by kernel_rfl)]; exact laidMet_laidAll _ (by kernel_rfl) (by kernel_rfl)))) ?_
  intro W base args ds gs before hval0 hW _ _ _ hL _ _
  have hval : ∀ (j : Nat) t v, Tryz.f3.params[j]? = some t → args[j]? = some v → Value.okWide Tryz.prog W .any base t v := hval0
  have hW' : DataW.Whole enc Tryz.prog Tryz.f3.params.toList Rows.fnManifestParseSpec.vars false W args.toList ds gs before := hW
  obtain ⟨p, q, hA0, hV, rfl, hfz, hnd⟩ := hW
  have hA : DataW.TrodAll enc Tryz.prog W 0 (fun _ => true) true Tryz.f3.params.toList args.toList ds p := hA0
  rw [Tryz.params3] at hA hval
  obtain ⟨v0, vs0, d0, ds0, p0, q0, hargs, rfl, rfl, h0, r0⟩ := trodAll_cons hA
  obtain ⟨v1, vs1, d1, ds1, p1, q1, rfl, rfl, rfl, h1, r1⟩ := trodAll_cons r0
  obtain ⟨v2, vs2, d2, ds2, p2, q2, rfl, rfl, rfl, h2, r2⟩ := trodAll_cons r1
  obtain ⟨rfl, rfl, rfl⟩ := trodAll_nil r2
  obtain rfl : args = #[v0, v1, v2] := by cases args; simp_all
  obtain ⟨rfl, rfl⟩ := trodVars_none hV
  obtain ⟨x0, hx0, ok0⟩ := V.read_arg 30 (c := (.st (.pair .bool (.pair (.int .i64) (.pair .str (.pair (.st (.pair .str (.pair (.int .i64) (.pair (.st (.pair .str .str)) (.pair .str (.pair (.nsl .str) (.pair (.nsl (.st (.pair .str .str))) (.pair (.nsl (.st (.pair .str (.pair .str (.pair .str (.pair .str (.pair (.nsl .str) (.nsl .str)))))))) .str)))))))) (.pair (.nsl (.st (.pair .str (.pair (.int .i64) (.pair (.st (.pair .str .str)) (.pair .str (.pair (.nsl .str) (.pair (.nsl (.st (.pair .str .str))) (.pair (.nsl (.st (.pair .str (.pair .str (.pair .str (.pair .str (.pair (.nsl .str) (.nsl .str)))))))) .str))))))))) (.pair (.nsl (.st (.pair .str .str))) (.pair (.nsl (.st (.pair .str (.pair (.int .i64) (.pair (.st (.pair .str .str)) (.pair .str (.pair (.nsl .str) (.pair (.nsl (.st (.pair .str .str))) (.pair (.nsl (.st (.pair .str (.pair .str (.pair .str (.pair .str (.pair (.nsl .str) (.nsl .str)))))))) .str))))))))) .str))))))))) (by kernel_rfl) (hval 0 31 v0 rfl rfl) h0
  obtain ⟨x1, hx1, ok1⟩ := V.read_arg 30 (c := (.nsl (.int .u8))) (by kernel_rfl) (hval 1 32 v1 rfl rfl) h1
  obtain ⟨x2, hx2, ok2⟩ := V.read_arg 30 (c := .str) (by kernel_rfl) (hval 2 9 v2 rfl rfl) h2
  clear hA0 hval0
  have hU := V.UT.ofLaid hL (by kernel_rfl) (List.mem_of_getElem? (i := 2) (by kernel_rfl)) (List.mem_of_getElem? (i := 0) (by kernel_rfl))
  obtain ⟨aE, hE⟩ := eofAt hL
  refine (V.Pure.calls (V.laws_FnManifestParse _ _ _ hx0 ok0 _ _ hx1 ok1 _ _ hx2 ok2 hU _ hE)).mono fun e W' ⟨⟨v, J, he, hv⟩, bel⟩ => ?_
  subst he; subst hv
  have hlt0 : ∀ x ∈ p0, x.block < W.heap.size := fun x hx => hW'.lt x (by simp [hx])
  have hlt1 : ∀ x ∈ p1, x.block < W.heap.size := fun x hx => hW'.lt x (by simp [hx])
  have hlt2 : ∀ x ∈ p2, x.block < W.heap.size := fun x hx => hW'.lt x (by simp [hx])
  exact ⟨_, rfl, _, _, _, [], _, [], hW', trodAll_mk1 (shut_bool Tryz.underlying4 _), (trodAll_cons_mk (Below.trod laidOut (by kernel_rfl) (of_decide_eq_true (by kernel_rfl)) h0 bel hlt0) (trodAll_cons_mk (Below.trod laidOut (by kernel_rfl) (of_decide_eq_true (by kernel_rfl)) h1 bel hlt1) (trodAll_cons_mk (Below.trod laidOut (by kernel_rfl) (of_decide_eq_true (by kernel_rfl)) h2 bel hlt2) trodAll_mk0))), rfl, bel.frame _, fun h => by cases h⟩
theorem and_i {a b : Bool} (h : a = true) (g : b = true) : (a && b) = true := by rw [h, g]; rfl
set_option maxHeartbeats 8000000 in
theorem closed : joinedFacts Tryz.pinned.checked.prog 3 Tryz.f3 (OpenSpec.ofChange Rows.fnManifestParseSpec).bare Rows.fnManifestParseRow = true := by
  unfold joinedFacts
  iterate 31 refine and_i ?_ ?_
  all_goals (as_aux_lemma => kernel_rfl)
theorem said : Rows.FnManifestParseSaid :=
  OpenClaim.holds_of_cond 3 Tryz.f3 rfl rfl rfl rfl rfl rfl rfl ⟨rfl, rfl, rfl, rfl, rfl⟩ rfl rfl rfl rfl rfl (by as_aux_lemma => kernel_rfl) Tryz.func3 closed
    (of_decide_eq_true (by as_aux_lemma => kernel_rfl)) (by unfold Func.isWrapper; first | (rw [if_pos (by decide +kernel)]; kernel_rfl) | (rw [if_neg (by decide +kernel)]; exact ⟨rfl, rfl⟩))
    (fun os started H enc _ F => by rw [OpenClaim.pre_eq_preRow]; exact lifted os started H enc F)
theorem plain (f : FuncId) (fn : Func) (hf : Tryz.pinned.checked.prog.funcNamed "given.example/pub-lighterage/laws.FnManifestParse" = some f) (hfn : Tryz.pinned.checked.prog.funcs[f]? = some fn) :
    true = Tryz.pinned.checked.prog.looks [] ∧ ∀ (j : Nat) t, fn.params[j]? = some t → Tryz.pinned.checked.prog.wantsStandIn t = false := by
  obtain rfl : f = 3 := Option.some.inj ((show Tryz.prog.funcNamed "given.example/pub-lighterage/laws.FnManifestParse" = some 3 by kernel_rfl).symm.trans hf) |>.symm
  obtain rfl : fn = Tryz.f3 := (Option.some.inj (Tryz.func3.symm.trans hfn)).symm
  refine ⟨by kernel_rfl, fun j t ht => ?_⟩
  rw [Tryz.params3] at ht
  have hm : t ∈ [31, 32, 9] := by simpa using Array.mem_of_getElem? ht
  have hall : ([31, 32, 9].all fun u => !Tryz.prog.wantsStandIn u) = true := by kernel_rfl
  exact (show Tryz.prog.wantsStandIn t = false by simpa using List.all_eq_true.1 hall t hm)
theorem card : Rows.FnManifestParseCardSaid :=
  Claim7.holds_tied_plain_at .later [] _ _ _ _ said (fun _ h => by cases h) (by as_aux_lemma => kernel_rfl) (fun _ h => by cases h) fnManifestParse_row_tie rfl ⟨rfl, rfl⟩ (by as_aux_lemma => kernel_rfl) rfl plain (by as_aux_lemma => kernel_rfl)
end Go.Proofs.YtcegjgmmbbojdaaGreatDoor.fnManifestParse
namespace Go.Proofs.YtcegjgmmbbojdaaGreatDoor
theorem fnManifestParse_holds : Rows.FnManifestParseCardSaid := fnManifestParse.card
end Go.Proofs.YtcegjgmmbbojdaaGreatDoor
#print axioms Go.Proofs.YtcegjgmmbbojdaaGreatDoor.fnManifestParse_holds
