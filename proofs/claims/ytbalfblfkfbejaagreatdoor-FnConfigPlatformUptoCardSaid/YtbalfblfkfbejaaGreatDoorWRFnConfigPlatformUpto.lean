import Derived.Test.YtbalfblfkfbejaaGreatDoorCards
import Derived.Test.YtbalfblfkfbejaaGreatDoorTie
import Derived.Test.YtbalfblfkfbejaaGreatDoorWM16
import Derived.Test.YtbalfblfkfbejaaGreatDoorWM4
import Derived.WalkKit
import Derived.ProofKit
import Derived.OpenShut
import Derived.ShutString
import Derived.ChangeOld
import Derived.Below
import Derived.Carry
import Derived.Deep.DeepHandedRow
/-
  For every input that the row speaks of laws.FnConfigPlatform returns true, and what it was handed reads as it did; the variables that the row lists start as the program lays them. The condition: what the law is handed, read, is of bulk at most 1048576.
-/
namespace Go.Proofs.YtbalfblfkfbejaaGreatDoor.fnConfigPlatform
open Go.ChangeShapes Go.WideShapes Go.ChangeAt Go.RowKit
set_option linter.unusedVariables false
set_option linter.unusedSimpArgs false
theorem own : ownKnob Tryz.prog.godebug = none := by kernel_rfl
theorem laidOut : laidOutB Tryz.prog = true := by kernel_rfl
theorem star : "*" ++ "errors.errorString" = "*errors.errorString" := by decide
theorem rowErr (u : TypeId) (h : Tryz.prog.typeName? 3 u = some "*errors.errorString") : u = 279 :=
  typeName_ptr_named (nm := "errors.errorString") (by rw [star]; kernel_rfl) (by kernel_rfl) (by decide) u (by rw [star]; exact h)
theorem eofAt {W : World} (h : laidMetH Tryz.prog Rows.fnConfigPlatformUptoRow.laid W) : ∃ a, V.At (V.whole W) 2 0 [.iface 279 (.pointer (some a))] :=
  V.laidSentinel h (by kernel_rfl) (n := "io.EOF") (g := 2) (ti := 87) (te := 353) (List.mem_of_getElem? (i := 1) rfl) (by kernel_rfl) (by kernel_rfl) Tryz.underlying87 rowErr Tryz.underlying279 Tryz.underlying353 rfl rfl Tryz.underlying9 (by kernel_rfl) (by kernel_rfl)
set_option maxRecDepth 100000 in
theorem lifted (os : Os) (started : os.Started) (H : Type) (enc : TypeId × Value → H) (F : Stop.Interp) :
    ReturnsInHanded {} Tryz.checked os 8 .any ((Rows.OpenSpec.upto Rows.fnConfigPlatformSpec).preRow enc Tryz.prog Tryz.f8 Rows.fnConfigPlatformUptoRow.domain false Rows.fnConfigPlatformUptoRow.laid) (((Rows.OpenSpec.upto Rows.fnConfigPlatformSpec).at F).post enc Tryz.prog Tryz.f8 false true false false) := by
  refine returnsInHanded_of_row (C := Tryz.checked) (s := Rows.OpenSpec.upto Rows.fnConfigPlatformSpec) own started (by kernel_rfl) Tryz.func8
    (V.witness_laid (enc := enc) (C := Tryz.checked) false #[.agg #[.string ⟨#[]⟩, .string ⟨#[]⟩, .string ⟨#[]⟩, .string ⟨#[]⟩, .string ⟨#[]⟩, .string ⟨#[]⟩, .string ⟨#[]⟩, .int .i64 0, .slice none 0 0, .string ⟨#[]⟩, .slice none 0 0, .bool false, .bool false, .bool false, .bool false, .bool false, .bool false, .bool false, .bool false, .slice none 0 0, .slice none 0 0, .slice none 0 0, .slice none 0 0, .slice none 0 0, .slice none 0 0, .slice none 0 0, .string ⟨#[]⟩, .string ⟨#[]⟩, .string ⟨#[]⟩, .string ⟨#[]⟩, .string ⟨#[]⟩, .string ⟨#[]⟩, .string ⟨#[]⟩, .slice none 0 0, .slice none 0 0, .slice none 0 0]] (World.shaped_of_ZipB (by kernel_rfl) (by kernel_rfl)) (by kernel_rfl)
      (OpenSpec.preRow_of_cond 8 (x := ([.agg [.lit (.string []), .lit (.string []), .lit (.string []), .lit (.string []), .lit (.string []), .lit (.string []), .lit (.string []), .lit (.int .i64 0), .nil, .lit (.string []), .nil, .agg [.lit (.bool false), .lit (.bool false), .lit (.bool false), .lit (.bool false), .lit (.bool false), .lit (.bool false), .lit (.bool false), .lit (.bool false), .nil, .nil, .nil, .nil, .nil, .nil, .nil, .lit (.string []), .lit (.string []), .lit (.string []), .lit (.string []), .lit (.string []), .lit (.string []), .lit (.string []), .nil, .nil], .nil]], [], [])) (by kernel_rfl) (by kernel_rfl) (fun k hk => by cases hk; kernel_rfl) (by kernel_rfl) (by rw [MakeChecks.laidMetH_plain _ _ _ (by kernel_rfl)]; exact laidMet_laidAll _ (by kernel_rfl) (by kernel_rfl)))) ?_
  intro W base args ds gs before hval0 hW _ hcond _ hL _ _
  have hval : ∀ (j : Nat) t v, Tryz.f8.params[j]? = some t → args[j]? = some v → Value.okWide Tryz.prog W .any base t v := hval0
  have hW' : DataW.Whole enc Tryz.prog Tryz.f8.params.toList Rows.fnConfigPlatformSpec.vars false W args.toList ds gs before := hW
  obtain ⟨p, q, hA0, hV, rfl, hfz, hnd⟩ := hW
  have hA : DataW.TrodAll enc Tryz.prog W 0 (fun _ => true) true Tryz.f8.params.toList args.toList ds p := hA0
  rw [Tryz.params8] at hA hval
  obtain ⟨v0, vs0, d0, ds0, p0, q0, hargs, rfl, rfl, h0, r0⟩ := trodAll_cons hA
  obtain ⟨rfl, rfl, rfl⟩ := trodAll_nil r0
  obtain rfl : args = #[v0] := by cases args; simp_all
  obtain ⟨rfl, rfl⟩ := trodVars_none hV
  obtain ⟨x0, hx0, ok0, w0⟩ := V.read_arg2 30 (c := .st (.pair .str (.pair .str (.pair .str (.pair .str (.pair .str (.pair .str (.pair .str (.pair (.int .i64) (.pair (.nsl (.st (.pair .str (.pair .str (.pair .str (.pair (.int .i64) .bool)))))) (.pair .str (.pair (.nsl (.st (.pair .str .str))) (.pair (.st (.pair .bool (.pair .bool (.pair .bool (.pair .bool (.pair .bool (.pair .bool (.pair .bool (.pair .bool (.pair (.nsl .str) (.pair (.nsl .str) (.pair (.nsl .str) (.pair (.nsl .str) (.pair (.nsl .str) (.pair (.nsl .str) (.pair (.nsl .str) (.pair .str (.pair .str (.pair .str (.pair .str (.pair .str (.pair .str (.pair .str (.pair (.nsl (.st (.pair .str .str))) (.nsl (.st (.pair (.nsl .str) (.pair (.int .i64) (.pair (.int .i64) (.pair (.int .i64) (.int .i64))))))))))))))))))))))))))))))) (.nsl .str)))))))))))))) (by kernel_rfl) (hval 0 30 v0 rfl rfl) h0
  have hk := of_decide_eq_true (hcond _ rfl)
  simp only [List.cons_append, List.nil_append, List.append_nil, Rows.uptoBulkAll] at hk
  clear hA0 hval0
  have hU := V.UT.ofLaid hL (by kernel_rfl) (List.mem_of_getElem? (i := 2) (by kernel_rfl)) (List.mem_of_getElem? (i := 0) (by kernel_rfl))
  obtain ⟨aE, hE⟩ := eofAt hL
  refine (V.Pure.calls (V.laws_FnConfigPlatform _ _ _ hx0 ok0 (Nat.le_trans w0 (by omega)) hU _ hE)).mono fun e W' ⟨⟨v, J, he, hv⟩, bel⟩ => ?_
  subst he; subst hv
  have hlt0 : ∀ x ∈ p0, x.block < W.heap.size := fun x hx => hW'.lt x (by simp [hx])
  exact ⟨_, rfl, _, _, _, [], _, [], hW', trodAll_mk1 (shut_bool Tryz.underlying4 _), (trodAll_cons_mk (Below.trod laidOut (by kernel_rfl) (of_decide_eq_true (by kernel_rfl)) h0 bel hlt0) trodAll_mk0), rfl, bel.frame _, fun h => by cases h⟩
theorem and_i {a b : Bool} (h : a = true) (g : b = true) : (a && b) = true := by rw [h, g]; rfl
set_option maxHeartbeats 8000000 in
theorem closed : joinedFacts Tryz.pinned.checked.prog 8 Tryz.f8 (Rows.OpenSpec.upto Rows.fnConfigPlatformSpec).bare Rows.fnConfigPlatformUptoRow = true := by
  unfold joinedFacts
  iterate 31 refine and_i ?_ ?_
  all_goals (as_aux_lemma => kernel_rfl)
theorem said : Rows.FnConfigPlatformUptoSaid :=
  OpenClaim.holds_of_cond 8 Tryz.f8 rfl rfl rfl rfl rfl rfl rfl ⟨rfl, rfl, rfl, rfl, rfl⟩ rfl rfl rfl rfl rfl (by as_aux_lemma => kernel_rfl) Tryz.func8 closed
    (of_decide_eq_true (by as_aux_lemma => kernel_rfl)) (by unfold Func.isWrapper; first | (rw [if_pos (by decide +kernel)]; kernel_rfl) | (rw [if_neg (by decide +kernel)]; exact ⟨rfl, rfl⟩))
    (fun os started H enc _ F => by rw [OpenClaim.pre_eq_preRow]; exact lifted os started H enc F)
theorem plain (f : FuncId) (fn : Func) (hf : Tryz.pinned.checked.prog.funcNamed "given.example/pub-lighterage/laws.FnConfigPlatform" = some f) (hfn : Tryz.pinned.checked.prog.funcs[f]? = some fn) :
    true = Tryz.pinned.checked.prog.looks [] ∧ ∀ (j : Nat) t, fn.params[j]? = some t → Tryz.pinned.checked.prog.wantsStandIn t = false := by
  obtain rfl : f = 8 := Option.some.inj ((show Tryz.prog.funcNamed "given.example/pub-lighterage/laws.FnConfigPlatform" = some 8 by kernel_rfl).symm.trans hf) |>.symm
  obtain rfl : fn = Tryz.f8 := (Option.some.inj (Tryz.func8.symm.trans hfn)).symm
  refine ⟨by kernel_rfl, fun j t ht => ?_⟩
  rw [Tryz.params8] at ht
  have hm : t ∈ [30] := by simpa using Array.mem_of_getElem? ht
  have hall : ([30].all fun u => !Tryz.prog.wantsStandIn u) = true := by kernel_rfl
  exact (show Tryz.prog.wantsStandIn t = false by simpa using List.all_eq_true.1 hall t hm)
theorem card : Rows.FnConfigPlatformUptoCardSaid :=
  Claim7.holds_tied_plain_at .later [] _ _ _ _ said (fun _ h => by cases h) (by as_aux_lemma => kernel_rfl) (fun _ h => by cases h) fnConfigPlatformUpto_row_tie rfl ⟨rfl, rfl⟩ (by as_aux_lemma => kernel_rfl) rfl plain (by as_aux_lemma => kernel_rfl)
end Go.Proofs.YtbalfblfkfbejaaGreatDoor.fnConfigPlatform
namespace Go.Proofs.YtbalfblfkfbejaaGreatDoor
theorem fnConfigPlatform_holds : Rows.FnConfigPlatformUptoCardSaid := fnConfigPlatform.card
end Go.Proofs.YtbalfblfkfbejaaGreatDoor
#print axioms Go.Proofs.YtbalfblfkfbejaaGreatDoor.fnConfigPlatform_holds
