import Derived.Test.YtnoklmcaeijfaaaGreatBM6
import Derived.Test.YtnoklmcaeijfaaaGreatBM3
/-
  Registries and repositories made of names, as the package does.
-/
namespace Go.V
open Go.RowKit
set_option linter.unusedVariables false
set_option linter.unusedSimpArgs false
set_option maxRecDepth 10000
attribute [local irreducible] Run Ops
/-- options that stand for o -/
def OptsAre (I : Imm) (v : Value) (o : NOpt) : Prop := ∃ xs, Sl tOpt I v xs ∧ xs.length ≤ 2147483647 ∧ optsOf xs = ⟨o.strict, o.ins, hub o.reg, tagOr o.tag⟩
theorem OptsAre.mono {I J : Imm} {v : Value} {o : NOpt} (h : OptsAre I v o) (hle : Le I J) : OptsAre J v o := let ⟨xs, h1, h2, h3⟩ := h; ⟨xs, h1.mono hle, h2, h3⟩
theorem OptsAre.of {I : Imm} {v : Value} {o : NOpt} (h : Sl tOpt I v o.opts) : OptsAre I v o := ⟨_, h, by
  unfold NOpt.opts
  cases o.strict <;> cases o.ins <;> by_cases h1 : o.reg = [] <;> by_cases h2 : o.tag = [] <;> simp [h1, h2], optsOf_opts o⟩
theorem OptsAre.none (I : Imm) : OptsAre I (.slice none 0 0) ⟨false, false, [], []⟩ := ⟨[], Sl.nil _ _, by decide, rfl⟩
theorem makeOptions_are (I : Imm) (v : Value) (o : NOpt) (h : OptsAre I v o) : Pure Proofs.Tryz.prog 66 [v] I fun w J => w = .agg (NOpt.mk o.strict o.ins (hub o.reg) (tagOr o.tag)).cs.toArray := by
  obtain ⟨xs, h1, h2, h3⟩ := h
  have := name_makeOptions I xs v h1 h2
  rw [h3] at this
  exact this
def errV (b : Nat) : Value := .iface 84 (.pointer (some ⟨b, 0, none⟩))
theorem ErrIs.bad {w : Value} (h : ErrIs w false) : ∃ b, w = errV b := h
theorem ErrIs.good {w : Value} (h : ErrIs w true) : w = .nilIface := h
def regRes (ins : Bool) (a : Option Tx) (w : Value) : Prop := match a with
  | some r => w = .tuple #[.agg #[.bool ins, str r], .nilIface]
  | none => ∃ b, w = .tuple #[.agg #[.bool false, str []], errV b]
theorem hub_ne (reg : Tx) : hub reg ≠ [] := by
  unfold hub; split
  · decide
  · rename_i h; exact h
theorem hub_len (reg : Tx) : (hub reg).length ≤ reg.length + 15 := by
  unfold hub; split
  · rename_i h; subst h; decide
  · omega
theorem alias_len (s : Tx) : (aliasT s).length ≤ s.length + 15 := by
  unfold aliasT; split
  · rename_i h; subst h; decide
  · omega
theorem RegAns.yes {b : Bool} {reg s : Tx} (hg : hostBad s = false) (hn : (b && decide (s = [])) = false) : RegAns b reg s (some (aliasT (if s = [] then hub reg else s))) := by
  intro r ok hs
  unfold sReg at hs
  rw [hg, hn] at hs
  simp only [Bool.or_false, Bool.false_eq_true, if_false, Prod.mk.injEq] at hs
  obtain ⟨rfl, rfl, _⟩ := hs
  rfl
theorem RegAns.no {b : Bool} {reg s : Tx} (h : hostPlain s = false) : RegAns b reg s none := by
  intro r ok hs
  unfold sReg at hs
  split at hs
  · simp only [Prod.mk.injEq] at hs
    obtain ⟨_, rfl, _⟩ := hs
    rfl
  · rw [h] at hs
    simp at hs
theorem RegAns.empty {reg : Tx} : RegAns true reg [] none := by
  intro r ok hs
  simp [sReg] at hs
  obtain ⟨_, rfl⟩ := hs
  rfl
theorem hubd_len (reg s : Tx) : (aliasT (if s = [] then hub reg else s)).length ≤ s.length + reg.length + 30 := by
  have h1 := alias_len (if s = [] then hub reg else s)
  have h2 := hub_len reg
  split at h1 <;> rename_i h
  · rw [if_pos h]; omega
  · rw [if_neg h]; omega
theorem hubd_ne (reg s : Tx) : aliasT (if s = [] then hub reg else s) ≠ [] := by
  refine alias_nil ?_
  split
  · exact hub_ne _
  · rename_i h; exact h
set_option maxHeartbeats 2000000 in
theorem name_NewRegistry (I : Imm) (s : Tx) (v : Value) (o : NOpt) (ho : OptsAre I v o) (hs : s.length ≤ 1099511627776) : Pure Proofs.Tryz.prog 26 [str s, v] I fun w J =>
    ∃ a, regRes o.ins a w ∧ RegAns o.strict o.reg s a ∧ ∀ r, a = some r → r ≠ [] ∧ r.length ≤ s.length + o.reg.length + 30 := by
  obtain ⟨st, ins, reg, tag⟩ := o
  refine Spec.enter 36 [(0, _), (1, _)] Proofs.Tryz.func26 rfl Proofs.Tryz.ntmps26 (by simp) rfl ?_
  intro C hCf hR hCI
  repeat (first | refine Run.seq ?_ | refine Run.region ?_)
  refine Ops.alloc rfl (by decide) (T.zeroOk rfl) rfl (fun b => ?_)
  repeat (first | refine Run.seq ?_ | refine Run.region ?_ | refine Ops.nil ?_ | refine Ops.pure T rfl (by decide) rfl ?_)
  refine Ops.call ((makeOptions_are I v _ ho)) rfl (by decide) Proofs.Tryz.call66 rfl ?_
  rintro _ J1 l1 rfl
  refine Ops.alloc rfl (by decide) (T.zeroOk rfl) rfl (fun b2 => ?_)
  repeat (first | refine Run.seq ?_ | refine Run.region ?_ | refine Ops.nil ?_ | refine Ops.pure T rfl (by decide) rfl ?_ | refine Ops.load 0 rfl (by decide) rfl rfl (T.aggOk rfl) rfl ?_ | refine Ops.store 0 rfl rfl rfl rfl rfl (T.sizeOk rfl) rfl (Nat.le_of_ble_eq_true rfl) rfl rfl ?_)
  cases st with
  | true =>
    repeat (first | refine Ops.nil ?_ | refine Ops.eql rfl (by decide) rfl rfl ?_ | refine Ops.pure T rfl (by decide) rfl ?_ | refine Ops.lenS T rfl (by decide) rfl rfl ?_)
    cases h0 : decide ((s.length : Int) = 0) with
    | true =>
      repeat (first | refine Run.seq ?_ | refine Run.region ?_ | refine Run.cond_t rfl ?_)
      refine Ops.buildL bd52 rfl (by decide) rfl rfl ?_
      refine Ops.call ((name_newErrBadName J1 _ _)) rfl (by decide) Proofs.Tryz.call44 rfl ?_
      rintro _ J2 l2 ⟨b3, rfl⟩
      repeat (first | refine Ops.nil ?_ | refine Ops.pure T rfl (by decide) rfl ?_ | refine Ops.store 1 rfl rfl rfl rfl rfl (T.sizeOk rfl) rfl (Nat.le_of_ble_eq_true rfl) rfl rfl ?_)
      refine Run.retCT T 1 (by rw [hCf]; exact Proofs.Tryz.func26) Proofs.Tryz.results26 rfl rfl rfl rfl rfl rfl rfl (hR _ _ _ ?_)
      have e : s = [] := List.eq_nil_of_length_eq_zero (by have := of_decide_eq_true h0; omega)
      subst e
      exact ⟨rfl, none, ⟨b3, rfl⟩, RegAns.empty, fun r h => by cases h⟩
    | false =>
      have hns : (true && decide (s = [])) = false := by
        rw [Bool.true_and, decide_eq_false]
        intro e; subst e; exact absurd h0 (by decide)
      repeat (first | refine Run.seq ?_ | refine Run.region ?_ | refine Run.skip ?_ | refine Run.cond_f rfl ?_ | refine Ops.pure T rfl (by decide) rfl ?_)
      refine Ops.call ((name_checkRegistry J1 s hs)) rfl (by decide) Proofs.Tryz.call67 rfl ?_
      rintro w J2 l2 ⟨r, hw, hp, hb⟩
      cases r with
      | false =>
        obtain ⟨b3, rfl⟩ := hw.bad
        unfold errV
        repeat (first | refine Run.seq ?_ | refine Run.region ?_ | refine Ops.nil ?_ | refine Run.cond_t rfl ?_ | refine Ops.neqNil T rfl (by decide) rfl rfl rfl rfl rfl ?_ | refine Ops.pure T rfl (by decide) rfl ?_)
        refine Ops.buildL bd52 rfl (by decide) rfl rfl ?_
        repeat (first | refine Ops.nil ?_ | refine Ops.pure T rfl (by decide) rfl ?_ | refine Ops.store 1 rfl rfl rfl rfl rfl (T.sizeOk rfl) rfl (Nat.le_of_ble_eq_true rfl) rfl rfl ?_)
        refine Run.retCT T 1 (by rw [hCf]; exact Proofs.Tryz.func26) Proofs.Tryz.results26 rfl rfl rfl rfl rfl rfl rfl (hR _ _ _ ?_)
        refine ⟨rfl, none, ⟨b3, rfl⟩, RegAns.no ?_, fun r h => by cases h⟩
        cases hh : hostPlain s with
        | false => rfl
        | true => exact absurd (hp hh) (by decide)
      | true =>
        obtain rfl := hw.good
        have hgood : hostBad s = false := by
          cases hh : hostBad s with
          | false => rfl
          | true => exact absurd (hb hh) (by decide)
        repeat (first | refine Run.seq ?_ | refine Run.region ?_ | refine Ops.nil ?_ | refine Run.skip ?_ | refine Run.cond_f rfl ?_ | refine Ops.eqlStr rfl (by decide) rfl rfl ?_ | refine Ops.neqNil T rfl (by decide) rfl rfl rfl rfl rfl ?_ | refine Ops.pure T rfl (by decide) rfl ?_)
        refine Run.merge (fun env' L' I' => env' = [(0, str (if s = [] then hub reg else s)), (4, .pointer (some ⟨b, 0, none⟩)), (6, .pointer (some ⟨b2, 0, none⟩))] ∧
          L' = [(b2, blk (NOpt.mk true ins (hub reg) (tagOr tag)).cs 92), (b, blk [.bool false, str []] 52)] ∧ I' = J2) rfl ?_ ?_ ?_
        · intro h k' fin
          repeat (first | refine Run.region ?_ | refine Ops.nil ?_ | refine Ops.pure T rfl (by decide) rfl ?_ | refine Ops.load 0 rfl (by decide) rfl rfl (T.aggOk rfl) rfl ?_)
          refine Run.keep [0, 4, 6] [_, _, _] rfl ?_
          refine fin _ _ _ ⟨?_, rfl, rfl⟩
          rw [if_pos (of_decide_eq_true h)]
          rfl
        · intro h k' fin
          repeat (first | refine Run.skip ?_)
          refine Run.keep [0, 4, 6] [_, _, _] rfl ?_
          refine fin _ _ _ ⟨?_, rfl, rfl⟩
          rw [if_neg (of_decide_eq_false h)]
          rfl
        generalize hs1 : (if s = [] then hub reg else s) = s1
        rintro env L J3 ⟨rfl, rfl, rfl⟩
        repeat (first | refine Run.seq ?_ | refine Run.region ?_ | refine Ops.nil ?_ | refine Ops.eqlStr rfl (by decide) rfl rfl ?_ | refine Ops.pure T rfl (by decide) rfl ?_)
        cases h31 : decide (s1 = [100, 111, 99, 107, 101, 114, 46, 105, 111]) with
        | true =>
          repeat (first | refine Run.seq ?_ | refine Run.region ?_ | refine Ops.nil ?_ | refine Run.cond_t rfl ?_ | refine Ops.pure T rfl (by decide) rfl ?_ | refine Ops.load 0 rfl (by decide) rfl rfl (T.aggOk rfl) rfl ?_)
          refine Ops.buildL bd52 rfl (by decide) rfl rfl ?_
          repeat (first | refine Ops.nil ?_ | refine Ops.pure T rfl (by decide) rfl ?_ | refine Ops.store 1 rfl rfl rfl rfl rfl (T.sizeOk rfl) rfl (Nat.le_of_ble_eq_true rfl) rfl rfl ?_)
          refine Run.retCT T 1 (by rw [hCf]; exact Proofs.Tryz.func26) Proofs.Tryz.results26 rfl rfl rfl rfl rfl rfl rfl (hR _ _ _ ?_)
          refine ⟨rfl, some (aliasT (if s = [] then hub reg else s)), ?_, RegAns.yes hgood hns, fun r h => by cases h; exact ⟨hubd_ne _ _, hubd_len _ _⟩⟩
          rw [hs1, aliasT, if_pos (of_decide_eq_true h31)]
          rfl
        | false =>
          repeat (first | refine Run.seq ?_ | refine Run.region ?_ | refine Run.skip ?_ | refine Run.cond_f rfl ?_ | refine Ops.pure T rfl (by decide) rfl ?_ | refine Ops.load 0 rfl (by decide) rfl rfl (T.aggOk rfl) rfl ?_)
          refine Ops.buildL bd52 rfl (by decide) rfl rfl ?_
          repeat (first | refine Ops.nil ?_ | refine Ops.pure T rfl (by decide) rfl ?_ | refine Ops.store 1 rfl rfl rfl rfl rfl (T.sizeOk rfl) rfl (Nat.le_of_ble_eq_true rfl) rfl rfl ?_)
          refine Run.retCT T 1 (by rw [hCf]; exact Proofs.Tryz.func26) Proofs.Tryz.results26 rfl rfl rfl rfl rfl rfl rfl (hR _ _ _ ?_)
          refine ⟨rfl, some (aliasT (if s = [] then hub reg else s)), ?_, RegAns.yes hgood hns, fun r h => by cases h; exact ⟨hubd_ne _ _, hubd_len _ _⟩⟩
          rw [hs1, aliasT, if_neg (of_decide_eq_false h31)]
          rfl
  | false =>
    have hns : (false && decide (s = [])) = false := rfl
    repeat (first | refine Run.seq ?_ | refine Run.region ?_ | refine Ops.nil ?_ | refine Run.skip ?_ | refine Run.cond_f rfl ?_ | refine Ops.not rfl (by decide) ?_ | refine Ops.pure T rfl (by decide) rfl ?_)
    refine Ops.call ((name_checkRegistry J1 s hs)) rfl (by decide) Proofs.Tryz.call67 rfl ?_
    rintro w J2 l2 ⟨r, hw, hp, hb⟩
    cases r with
    | false =>
      obtain ⟨b3, rfl⟩ := hw.bad
      unfold errV
      repeat (first | refine Run.seq ?_ | refine Run.region ?_ | refine Ops.nil ?_ | refine Run.cond_t rfl ?_ | refine Ops.neqNil T rfl (by decide) rfl rfl rfl rfl rfl ?_ | refine Ops.pure T rfl (by decide) rfl ?_)
      refine Ops.buildL bd52 rfl (by decide) rfl rfl ?_
      repeat (first | refine Ops.nil ?_ | refine Ops.pure T rfl (by decide) rfl ?_ | refine Ops.store 1 rfl rfl rfl rfl rfl (T.sizeOk rfl) rfl (Nat.le_of_ble_eq_true rfl) rfl rfl ?_)
      refine Run.retCT T 1 (by rw [hCf]; exact Proofs.Tryz.func26) Proofs.Tryz.results26 rfl rfl rfl rfl rfl rfl rfl (hR _ _ _ ?_)
      refine ⟨rfl, none, ⟨b3, rfl⟩, RegAns.no ?_, fun r h => by cases h⟩
      cases hh : hostPlain s with
      | false => rfl
      | true => exact absurd (hp hh) (by decide)
    | true =>
      obtain rfl := hw.good
      have hgood : hostBad s = false := by
        cases hh : hostBad s with
        | false => rfl
        | true => exact absurd (hb hh) (by decide)
      repeat (first | refine Run.seq ?_ | refine Run.region ?_ | refine Ops.nil ?_ | refine Run.skip ?_ | refine Run.cond_f rfl ?_ | refine Ops.eqlStr rfl (by decide) rfl rfl ?_ | refine Ops.neqNil T rfl (by decide) rfl rfl rfl rfl rfl ?_ | refine Ops.pure T rfl (by decide) rfl ?_)
      refine Run.merge (fun env' L' I' => env' = [(0, str (if s = [] then hub reg else s)), (4, .pointer (some ⟨b, 0, none⟩)), (6, .pointer (some ⟨b2, 0, none⟩))] ∧
        L' = [(b2, blk (NOpt.mk false ins (hub reg) (tagOr tag)).cs 92), (b, blk [.bool false, str []] 52)] ∧ I' = J2) rfl ?_ ?_ ?_
      · intro h k' fin
        repeat (first | refine Run.region ?_ | refine Ops.nil ?_ | refine Ops.pure T rfl (by decide) rfl ?_ | refine Ops.load 0 rfl (by decide) rfl rfl (T.aggOk rfl) rfl ?_)
        refine Run.keep [0, 4, 6] [_, _, _] rfl ?_
        refine fin _ _ _ ⟨?_, rfl, rfl⟩
        rw [if_pos (of_decide_eq_true h)]
        rfl
      · intro h k' fin
        repeat (first | refine Run.skip ?_)
        refine Run.keep [0, 4, 6] [_, _, _] rfl ?_
        refine fin _ _ _ ⟨?_, rfl, rfl⟩
        rw [if_neg (of_decide_eq_false h)]
        rfl
      generalize hs1 : (if s = [] then hub reg else s) = s1
      rintro env L J3 ⟨rfl, rfl, rfl⟩
      repeat (first | refine Run.seq ?_ | refine Run.region ?_ | refine Ops.nil ?_ | refine Ops.eqlStr rfl (by decide) rfl rfl ?_ | refine Ops.pure T rfl (by decide) rfl ?_)
      cases h31 : decide (s1 = [100, 111, 99, 107, 101, 114, 46, 105, 111]) with
      | true =>
        repeat (first | refine Run.seq ?_ | refine Run.region ?_ | refine Ops.nil ?_ | refine Run.cond_t rfl ?_ | refine Ops.pure T rfl (by decide) rfl ?_ | refine Ops.load 0 rfl (by decide) rfl rfl (T.aggOk rfl) rfl ?_)
        refine Ops.buildL bd52 rfl (by decide) rfl rfl ?_
        repeat (first | refine Ops.nil ?_ | refine Ops.pure T rfl (by decide) rfl ?_ | refine Ops.store 1 rfl rfl rfl rfl rfl (T.sizeOk rfl) rfl (Nat.le_of_ble_eq_true rfl) rfl rfl ?_)
        refine Run.retCT T 1 (by rw [hCf]; exact Proofs.Tryz.func26) Proofs.Tryz.results26 rfl rfl rfl rfl rfl rfl rfl (hR _ _ _ ?_)
        refine ⟨rfl, some (aliasT (if s = [] then hub reg else s)), ?_, RegAns.yes hgood hns, fun r h => by cases h; exact ⟨hubd_ne _ _, hubd_len _ _⟩⟩
        rw [hs1, aliasT, if_pos (of_decide_eq_true h31)]
        rfl
      | false =>
        repeat (first | refine Run.seq ?_ | refine Run.region ?_ | refine Run.skip ?_ | refine Run.cond_f rfl ?_ | refine Ops.pure T rfl (by decide) rfl ?_ | refine Ops.load 0 rfl (by decide) rfl rfl (T.aggOk rfl) rfl ?_)
        refine Ops.buildL bd52 rfl (by decide) rfl rfl ?_
        repeat (first | refine Ops.nil ?_ | refine Ops.pure T rfl (by decide) rfl ?_ | refine Ops.store 1 rfl rfl rfl rfl rfl (T.sizeOk rfl) rfl (Nat.le_of_ble_eq_true rfl) rfl rfl ?_)
        refine Run.retCT T 1 (by rw [hCf]; exact Proofs.Tryz.func26) Proofs.Tryz.results26 rfl rfl rfl rfl rfl rfl rfl (hR _ _ _ ?_)
        refine ⟨rfl, some (aliasT (if s = [] then hub reg else s)), ?_, RegAns.yes hgood hns, fun r h => by cases h; exact ⟨hubd_ne _ _, hubd_len _ _⟩⟩
        rw [hs1, aliasT, if_neg (of_decide_eq_false h31)]
        rfl
end Go.V
/-
  Repositories made of names; what they tell.
-/
namespace Go.V
open Go.RowKit
set_option linter.unusedVariables false
set_option linter.unusedSimpArgs false
set_option maxRecDepth 10000
attribute [local irreducible] Run Ops
def repRes (ins : Bool) (a : Option (Tx × Tx)) (w : Value) : Prop := match a with
  | some x => w = .tuple #[.agg #[.bool ins, str x.1, str x.2], .nilIface]
  | none => ∃ b, w = .tuple #[.agg #[.bool false, str [], str []], errV b]
theorem RegAns.ex (b : Bool) (reg s : Tx) : RegAns b reg s (if (sReg b reg s).2.1 then some (sReg b reg s).1 else none) := by
  intro r ok h
  rw [h]
theorem RepoAns.nil (b : Bool) (reg : Tx) : RepoAns b reg [] none := by
  intro r p ok h
  simp [sRepo, show hostCut [] = ([], []) from rfl, show pathGood [] = false by decide] at h
  exact h.2.2.1
theorem RepoAns.bad {b : Bool} {reg s : Tx} (hp : pathGood (hostCut s).2 = false) : RepoAns b reg s none := by
  have := RepoAns.of (b := b) (reg := reg) (s := s) (RegAns.ex b reg (hostCut s).1)
  rw [hp] at this
  exact this
theorem anyR {s cs : Tx} (hc : ascii cs) : ((runesW s 0).any fun r => inR r cs) = cs.any fun c => hasB c s := by
  rw [← any_eq hc]
  rw [Bool.eq_iff_iff, List.any_eq_true, decide_eq_true_eq]
  constructor
  · rintro ⟨r, h1, h2⟩
    exact ⟨r, h1, of_decide_eq_true h2⟩
  · rintro ⟨r, h1, h2⟩
    exact ⟨r, h1, decide_eq_true h2⟩
theorem RepoAns.of2 {b : Bool} {reg s h p : Tx} {a : Option Tx} (hcut : hostCut s = (h, p)) (hans : RegAns b reg h a) (hpg : pathGood p = true) :
    (a = none → RepoAns b reg s none) ∧ (∀ r, a = some r → (implNs r p && b) = true → RepoAns b reg s none) ∧ (∀ r, a = some r → (implNs r p && b) = false → RepoAns b reg s (some (r, p))) := by
  have e1 : (hostCut s).1 = h := by rw [hcut]
  have e2 : (hostCut s).2 = p := by rw [hcut]
  have := RepoAns.of (s := s) (a := a) (by rw [e1]; exact hans)
  simp only [e2, hpg, if_true] at this
  refine ⟨?_, ?_, ?_⟩
  · rintro rfl; exact this
  · rintro r rfl h; simp only [h, if_true] at this; exact this
  · rintro r rfl h; simp only [h, Bool.false_eq_true, if_false] at this; exact this
set_option maxHeartbeats 8000000 in
theorem name_NewRepository (I : Imm) (s : Tx) (v : Value) (o : NOpt) (ho : OptsAre I v o) (hs : s.length ≤ 1099511627776) : Pure Proofs.Tryz.prog 28 [str s, v] I fun w J =>
    ∃ a, repRes o.ins a w ∧ RepoAns o.strict o.reg s a ∧ ∀ x, a = some x → x.1 ≠ [] ∧ x.1.length ≤ s.length + o.reg.length + 30 ∧ x.2.length ≤ s.length := by
  obtain ⟨st, ins, reg, tag⟩ := o
  refine Spec.enter 72 [(0, _), (1, _)] Proofs.Tryz.func28 rfl Proofs.Tryz.ntmps28 (by simp) rfl ?_
  intro C hCf hR hCI
  repeat (first | refine Run.seq ?_ | refine Run.region ?_)
  refine Ops.alloc rfl (by decide) (T.zeroOk rfl) rfl (fun b => ?_)
  repeat (first | refine Run.seq ?_ | refine Run.region ?_ | refine Ops.nil ?_ | refine Ops.pure T rfl (by decide) rfl ?_)
  refine Ops.call ((makeOptions_are I v _ ho)) rfl (by decide) Proofs.Tryz.call66 rfl ?_
  rintro _ J1 l1 rfl
  refine Ops.alloc rfl (by decide) (T.zeroOk rfl) rfl (fun b2 => ?_)
  repeat (first | refine Run.seq ?_ | refine Run.region ?_ | refine Ops.nil ?_ | refine Ops.eql rfl (by decide) rfl rfl ?_ | refine Ops.pure T rfl (by decide) rfl ?_ | refine Ops.lenS T rfl (by decide) rfl rfl ?_ | refine Ops.store 0 rfl rfl rfl rfl rfl (T.sizeOk rfl) rfl (Nat.le_of_ble_eq_true rfl) rfl rfl ?_)
  cases h0 : decide ((s.length : Int) = 0) with
  | true =>
    repeat (first | refine Run.seq ?_ | refine Run.region ?_ | refine Run.cond_t rfl ?_)
    refine Ops.buildL bd54 rfl (by decide) rfl rfl ?_
    refine Ops.call ((name_newErrBadName J1 _ _)) rfl (by decide) Proofs.Tryz.call44 rfl ?_
    rintro _ J2 l2 ⟨b3, rfl⟩
    repeat (first | refine Ops.nil ?_ | refine Ops.pure T rfl (by decide) rfl ?_ | refine Ops.store 1 rfl rfl rfl rfl rfl (T.sizeOk rfl) rfl (Nat.le_of_ble_eq_true rfl) rfl rfl ?_)
    refine Run.retCT T 1 (by rw [hCf]; exact Proofs.Tryz.func28) Proofs.Tryz.results28 rfl rfl rfl rfl rfl rfl rfl (hR _ _ _ ?_)
    have e : s = [] := List.eq_nil_of_length_eq_zero (by have := of_decide_eq_true h0; omega)
    subst e
    exact ⟨rfl, none, ⟨b3, rfl⟩, RepoAns.nil _ _, fun r h => by cases h⟩
  | false =>
  repeat (first | refine Run.seq ?_ | refine Run.region ?_ | refine Ops.nil ?_ | refine Run.skip ?_ | refine Run.cond_f rfl ?_ | refine Ops.pure T rfl (by decide) rfl ?_)
  refine Ops.call ((name_zzSplit2 J1 s 47 hs)) rfl (by decide) Proofs.Tryz.call70 rfl ?_
  rintro w J2 l2 hS
  have ho2 := ho.mono (l1.trans l2)
  cases hk : ix 47 s with
  | none =>
    rw [show cut2 47 s = [s] by simp [cut2, hk]] at hS
    have hcut : hostCut s = ([], s) := by simp [hostCut, hk]
    obtain ⟨A, c, e⟩ := hS.isSl
    subst e
    repeat (first | refine Run.seq ?_ | refine Run.region ?_ | refine Ops.nil ?_ | refine Ops.pure T rfl (by decide) rfl ?_)
    refine Ops.indexSl hS rfl (by decide) rfl rfl (T.undOk rfl) (T.sizeOk rfl) (by first | omega | (simp only [List.length_cons, List.length_nil] ; omega) | (simp; omega)) (by first | omega | (simp only [List.length_cons, List.length_nil] ; omega) | (simp; omega)) ?_
    rintro b_ off_ x cs_ hx hr_ hA_
    obtain rfl : cs_ = [_] := hr_
    refine Ops.loadI rfl (by decide) rfl hA_ (T.aggOk rfl) ?_
    obtain rfl : s = x := by simpa using hx
    repeat (first | refine Run.seq ?_ | refine Run.region ?_ | refine Ops.nil ?_ | refine Run.skip ?_ | refine Run.cond_f rfl ?_ | refine Ops.not rfl (by decide) ?_ | refine Ops.notU rfl (by decide) ?_ | refine Ops.eql rfl (by decide) rfl rfl ?_ | refine Ops.pure T rfl (by decide) rfl ?_)
    have hl1 : (([] : Tx)).length ≤ s.length := by first | (simp; done) | (simp; omega) | omega
    have hl2 : (s).length ≤ s.length := by first | (simp; done) | (simp; omega) | omega
    refine Ops.call ((name_checkRepository J2 (s) (by omega))) rfl (by decide) Proofs.Tryz.call72 rfl ?_
    rintro w J3 l3 hw
    cases hpg : pathGood (s) with
    | false =>
      rw [hpg] at hw
      obtain ⟨b3, rfl⟩ := hw.bad
      unfold errV
      repeat (first | refine Run.seq ?_ | refine Run.region ?_ | refine Ops.nil ?_ | refine Run.cond_t rfl ?_ | refine Ops.neqNil T rfl (by decide) rfl rfl rfl rfl rfl ?_ | refine Ops.pure T rfl (by decide) rfl ?_)
      refine Ops.buildL bd54 rfl (by decide) rfl rfl ?_
      repeat (first | refine Ops.nil ?_ | refine Ops.pure T rfl (by decide) rfl ?_ | refine Ops.store 1 rfl rfl rfl rfl rfl (T.sizeOk rfl) rfl (Nat.le_of_ble_eq_true rfl) rfl rfl ?_)
      refine Run.retCT T 1 (by rw [hCf]; exact Proofs.Tryz.func28) Proofs.Tryz.results28 rfl rfl rfl rfl rfl rfl rfl (hR _ _ _ ?_)
      exact ⟨rfl, none, ⟨b3, rfl⟩, RepoAns.bad (by rw [hcut]; exact hpg), fun x h => by cases h⟩
    | true =>
      rw [hpg] at hw
      obtain rfl := hw.good
      repeat (first | refine Run.seq ?_ | refine Run.region ?_ | refine Ops.nil ?_ | refine Run.skip ?_ | refine Run.cond_f rfl ?_ | refine Ops.neqNil T rfl (by decide) rfl rfl rfl rfl rfl ?_ | refine Ops.pure T rfl (by decide) rfl ?_)
      refine Ops.call ((name_NewRegistry J3 (([] : Tx)) v ⟨st, ins, reg, tag⟩ (ho2.mono l3) (by omega))) rfl (by decide) Proofs.Tryz.call26 rfl ?_
      rintro w J4 l4 ⟨a, hres, hans, hlen⟩
      cases a with
      | none =>
        obtain ⟨b3, rfl⟩ := hres
        unfold errV
        repeat (first | refine Ops.pure T rfl (by decide) rfl ?_)
        refine Ops.alloc rfl (by decide) (T.zeroOk rfl) rfl (fun b4 => ?_)
        repeat (first | refine Run.seq ?_ | refine Run.region ?_ | refine Ops.nil ?_ | refine Run.cond_t rfl ?_ | refine Ops.neqNil T rfl (by decide) rfl rfl rfl rfl rfl ?_ | refine Ops.pure T rfl (by decide) rfl ?_ | refine Ops.store 0 rfl rfl rfl rfl rfl (T.sizeOk rfl) rfl (Nat.le_of_ble_eq_true rfl) rfl rfl ?_)
        refine Ops.buildL bd54 rfl (by decide) rfl rfl ?_
        repeat (first | refine Ops.nil ?_ | refine Ops.pure T rfl (by decide) rfl ?_ | refine Ops.store 2 rfl rfl rfl rfl rfl (T.sizeOk rfl) rfl (Nat.le_of_ble_eq_true rfl) rfl rfl ?_)
        refine Run.retCT T 2 (by rw [hCf]; exact Proofs.Tryz.func28) Proofs.Tryz.results28 rfl rfl rfl rfl rfl rfl rfl (hR _ _ _ ?_)
        exact ⟨rfl, none, ⟨b3, rfl⟩, (RepoAns.of2 hcut hans hpg).1 rfl, fun x h => by cases h⟩
      | some r =>
        have hres2 : w = _ := hres
        subst hres2
        repeat (first | refine Ops.pure T rfl (by decide) rfl ?_)
        refine Ops.alloc rfl (by decide) (T.zeroOk rfl) rfl (fun b4 => ?_)
        repeat (first | refine Run.seq ?_ | refine Run.region ?_ | refine Ops.nil ?_ | refine Run.skip ?_ | refine Run.cond_f rfl ?_ | refine Ops.neqNil T rfl (by decide) rfl rfl rfl rfl rfl ?_ | refine Ops.pure T rfl (by decide) rfl ?_ | refine Ops.loadN 0 rfl (by decide) rfl rfl (T.aggOk rfl) (T.sizeOk rfl) rfl rfl ?_ | refine Ops.store 0 rfl rfl rfl rfl rfl (T.sizeOk rfl) rfl (Nat.le_of_ble_eq_true rfl) rfl rfl ?_)
        refine Ops.call ((name_hasImplicit J4 (s) r ins (by omega))) rfl (by decide) Proofs.Tryz.call73 rfl ?_
        rintro _ J5 l5 rfl
        cases himp : implNs r (s) with
        | false =>
          cases st with
          | true =>
            repeat (first | refine Run.seq ?_ | refine Run.region ?_ | refine Ops.nil ?_ | refine Run.skip ?_ | refine Run.cond_f rfl ?_ | refine Ops.not rfl (by decide) ?_ | refine Ops.pure T rfl (by decide) rfl ?_ | refine Ops.loadN 0 rfl (by decide) rfl rfl (T.aggOk rfl) (T.sizeOk rfl) rfl rfl ?_)
            refine Ops.buildL bd54 rfl (by decide) rfl rfl ?_
            repeat (first | refine Ops.nil ?_ | refine Ops.pure T rfl (by decide) rfl ?_ | refine Ops.store 2 rfl rfl rfl rfl rfl (T.sizeOk rfl) rfl (Nat.le_of_ble_eq_true rfl) rfl rfl ?_)
            refine Run.retCT T 2 (by rw [hCf]; exact Proofs.Tryz.func28) Proofs.Tryz.results28 rfl rfl rfl rfl rfl rfl rfl (hR _ _ _ ?_)
            refine ⟨rfl, some (r, s), rfl, (RepoAns.of2 hcut hans hpg).2.2 r rfl (by rw [himp]; rfl), fun x h => ?_⟩
            cases h
            exact ⟨(hlen r rfl).1, by have := (hlen r rfl).2; have := hl1; simp only at *; omega, hl2⟩
          | false =>
            repeat (first | refine Run.seq ?_ | refine Run.region ?_ | refine Ops.nil ?_ | refine Run.skip ?_ | refine Run.cond_f rfl ?_ | refine Ops.not rfl (by decide) ?_ | refine Ops.pure T rfl (by decide) rfl ?_ | refine Ops.loadN 0 rfl (by decide) rfl rfl (T.aggOk rfl) (T.sizeOk rfl) rfl rfl ?_)
            refine Ops.buildL bd54 rfl (by decide) rfl rfl ?_
            repeat (first | refine Ops.nil ?_ | refine Ops.pure T rfl (by decide) rfl ?_ | refine Ops.store 2 rfl rfl rfl rfl rfl (T.sizeOk rfl) rfl (Nat.le_of_ble_eq_true rfl) rfl rfl ?_)
            refine Run.retCT T 2 (by rw [hCf]; exact Proofs.Tryz.func28) Proofs.Tryz.results28 rfl rfl rfl rfl rfl rfl rfl (hR _ _ _ ?_)
            refine ⟨rfl, some (r, s), rfl, (RepoAns.of2 hcut hans hpg).2.2 r rfl (by rw [himp]; rfl), fun x h => ?_⟩
            cases h
            exact ⟨(hlen r rfl).1, by have := (hlen r rfl).2; have := hl1; simp only at *; omega, hl2⟩
        | true =>
          cases st with
          | false =>
            repeat (first | refine Run.seq ?_ | refine Run.region ?_ | refine Ops.nil ?_ | refine Run.skip ?_ | refine Run.cond_f rfl ?_ | refine Ops.pure T rfl (by decide) rfl ?_ | refine Ops.load 1 rfl (by decide) rfl rfl (T.aggOk rfl) rfl ?_ | refine Ops.loadN 0 rfl (by decide) rfl rfl (T.aggOk rfl) (T.sizeOk rfl) rfl rfl ?_)
            refine Ops.buildL bd54 rfl (by decide) rfl rfl ?_
            repeat (first | refine Ops.nil ?_ | refine Ops.pure T rfl (by decide) rfl ?_ | refine Ops.store 2 rfl rfl rfl rfl rfl (T.sizeOk rfl) rfl (Nat.le_of_ble_eq_true rfl) rfl rfl ?_)
            refine Run.retCT T 2 (by rw [hCf]; exact Proofs.Tryz.func28) Proofs.Tryz.results28 rfl rfl rfl rfl rfl rfl rfl (hR _ _ _ ?_)
            refine ⟨rfl, some (r, s), rfl, (RepoAns.of2 hcut hans hpg).2.2 r rfl (by rw [himp]; rfl), fun x h => ?_⟩
            cases h
            exact ⟨(hlen r rfl).1, by have := (hlen r rfl).2; have := hl1; simp only at *; omega, hl2⟩
          | true =>
            repeat (first | refine Run.seq ?_ | refine Run.region ?_ | refine Ops.nil ?_ | refine Run.cond_t rfl ?_ | refine Ops.pure T rfl (by decide) rfl ?_ | refine Ops.load 1 rfl (by decide) rfl rfl (T.aggOk rfl) rfl ?_)
            refine Ops.buildL bd54 rfl (by decide) rfl rfl ?_
            refine Ops.call ((name_newErrBadName J5 _ _)) rfl (by decide) Proofs.Tryz.call44 rfl ?_
            rintro _ J6 l6 ⟨b5, rfl⟩
            repeat (first | refine Ops.nil ?_ | refine Ops.pure T rfl (by decide) rfl ?_ | refine Ops.store 2 rfl rfl rfl rfl rfl (T.sizeOk rfl) rfl (Nat.le_of_ble_eq_true rfl) rfl rfl ?_)
            refine Run.retCT T 2 (by rw [hCf]; exact Proofs.Tryz.func28) Proofs.Tryz.results28 rfl rfl rfl rfl rfl rfl rfl (hR _ _ _ ?_)
            exact ⟨rfl, none, ⟨b5, rfl⟩, (RepoAns.of2 hcut hans hpg).2.1 r rfl (by rw [himp]; rfl), fun x h => by cases h⟩
  | some k =>
    rw [show cut2 47 s = [s.take k, s.drop (k + 1)] by simp [cut2, hk]] at hS
    have hlt := ix_lt hk
    have hcut0 : hostCut s = if hosted (s.take k) then (s.take k, s.drop (k + 1)) else ([], s) := by simp [hostCut, hk]
    obtain ⟨A, c, e⟩ := hS.isSl
    subst e
    repeat (first | refine Run.seq ?_ | refine Run.region ?_ | refine Ops.nil ?_ | refine Ops.pure T rfl (by decide) rfl ?_)
    refine Ops.indexSl hS rfl (by decide) rfl rfl (T.undOk rfl) (T.sizeOk rfl) (by first | omega | (simp only [List.length_cons, List.length_nil] ; omega) | (simp; omega)) (by first | omega | (simp only [List.length_cons, List.length_nil] ; omega) | (simp; omega)) ?_
    rintro b_ off_ x cs_ hx hr_ hA_
    obtain rfl : cs_ = [_] := hr_
    refine Ops.loadI rfl (by decide) rfl hA_ (T.aggOk rfl) ?_
    obtain rfl : s.take k = x := by simpa using hx
    repeat (first | refine Run.seq ?_ | refine Run.region ?_ | refine Ops.nil ?_ | refine Ops.eql rfl (by decide) rfl rfl ?_ | refine Ops.eqlStr rfl (by decide) rfl rfl ?_ | refine Ops.pure T rfl (by decide) rfl ?_)
    cases h1 : decide (s.take k = [108, 111, 99, 97, 108, 104, 111, 115, 116]) with
    | true =>
      have h1' : decide (s.take k = localhostT) = true := h1
      have hcut : hostCut s = (s.take k, s.drop (k + 1)) := by rw [hcut0, if_pos (by simp [hosted, h1'])]
      repeat (first | refine Run.seq ?_ | refine Run.region ?_ | refine Ops.nil ?_ | refine Run.cond_t rfl ?_ | refine Ops.not rfl (by decide) ?_ | refine Ops.pure T rfl (by decide) rfl ?_)
      refine Ops.indexSl hS rfl (by decide) rfl rfl (T.undOk rfl) (T.sizeOk rfl) (by first | omega | (simp only [List.length_cons, List.length_nil] ; omega) | (simp; omega)) (by first | omega | (simp only [List.length_cons, List.length_nil] ; omega) | (simp; omega)) ?_
      rintro b_ off_ x cs_ hx hr_ hA_
      obtain rfl : cs_ = [_] := hr_
      refine Ops.loadI rfl (by decide) rfl hA_ (T.aggOk rfl) ?_
      obtain rfl : s.drop (k + 1) = x := by simpa using hx
      repeat (first | refine Run.seq ?_ | refine Run.region ?_ | refine Ops.nil ?_ | refine Ops.pure T rfl (by decide) rfl ?_)
      have hl1 : (s.take k).length ≤ s.length := by first | (simp; done) | (simp; omega) | omega
      have hl2 : (s.drop (k + 1)).length ≤ s.length := by first | (simp; done) | (simp; omega) | omega
      refine Ops.call ((name_checkRepository J2 (s.drop (k + 1)) (by omega))) rfl (by decide) Proofs.Tryz.call72 rfl ?_
      rintro w J3 l3 hw
      cases hpg : pathGood (s.drop (k + 1)) with
      | false =>
        rw [hpg] at hw
        obtain ⟨b3, rfl⟩ := hw.bad
        unfold errV
        repeat (first | refine Run.seq ?_ | refine Run.region ?_ | refine Ops.nil ?_ | refine Run.cond_t rfl ?_ | refine Ops.neqNil T rfl (by decide) rfl rfl rfl rfl rfl ?_ | refine Ops.pure T rfl (by decide) rfl ?_)
        refine Ops.buildL bd54 rfl (by decide) rfl rfl ?_
        repeat (first | refine Ops.nil ?_ | refine Ops.pure T rfl (by decide) rfl ?_ | refine Ops.store 1 rfl rfl rfl rfl rfl (T.sizeOk rfl) rfl (Nat.le_of_ble_eq_true rfl) rfl rfl ?_)
        refine Run.retCT T 1 (by rw [hCf]; exact Proofs.Tryz.func28) Proofs.Tryz.results28 rfl rfl rfl rfl rfl rfl rfl (hR _ _ _ ?_)
        exact ⟨rfl, none, ⟨b3, rfl⟩, RepoAns.bad (by rw [hcut]; exact hpg), fun x h => by cases h⟩
      | true =>
        rw [hpg] at hw
        obtain rfl := hw.good
        repeat (first | refine Run.seq ?_ | refine Run.region ?_ | refine Ops.nil ?_ | refine Run.skip ?_ | refine Run.cond_f rfl ?_ | refine Ops.neqNil T rfl (by decide) rfl rfl rfl rfl rfl ?_ | refine Ops.pure T rfl (by decide) rfl ?_)
        refine Ops.call ((name_NewRegistry J3 (s.take k) v ⟨st, ins, reg, tag⟩ (ho2.mono l3) (by omega))) rfl (by decide) Proofs.Tryz.call26 rfl ?_
        rintro w J4 l4 ⟨a, hres, hans, hlen⟩
        cases a with
        | none =>
          obtain ⟨b3, rfl⟩ := hres
          unfold errV
          repeat (first | refine Ops.pure T rfl (by decide) rfl ?_)
          refine Ops.alloc rfl (by decide) (T.zeroOk rfl) rfl (fun b4 => ?_)
          repeat (first | refine Run.seq ?_ | refine Run.region ?_ | refine Ops.nil ?_ | refine Run.cond_t rfl ?_ | refine Ops.neqNil T rfl (by decide) rfl rfl rfl rfl rfl ?_ | refine Ops.pure T rfl (by decide) rfl ?_ | refine Ops.store 0 rfl rfl rfl rfl rfl (T.sizeOk rfl) rfl (Nat.le_of_ble_eq_true rfl) rfl rfl ?_)
          refine Ops.buildL bd54 rfl (by decide) rfl rfl ?_
          repeat (first | refine Ops.nil ?_ | refine Ops.pure T rfl (by decide) rfl ?_ | refine Ops.store 2 rfl rfl rfl rfl rfl (T.sizeOk rfl) rfl (Nat.le_of_ble_eq_true rfl) rfl rfl ?_)
          refine Run.retCT T 2 (by rw [hCf]; exact Proofs.Tryz.func28) Proofs.Tryz.results28 rfl rfl rfl rfl rfl rfl rfl (hR _ _ _ ?_)
          exact ⟨rfl, none, ⟨b3, rfl⟩, (RepoAns.of2 hcut hans hpg).1 rfl, fun x h => by cases h⟩
        | some r =>
          have hres2 : w = _ := hres
          subst hres2
          repeat (first | refine Ops.pure T rfl (by decide) rfl ?_)
          refine Ops.alloc rfl (by decide) (T.zeroOk rfl) rfl (fun b4 => ?_)
          repeat (first | refine Run.seq ?_ | refine Run.region ?_ | refine Ops.nil ?_ | refine Run.skip ?_ | refine Run.cond_f rfl ?_ | refine Ops.neqNil T rfl (by decide) rfl rfl rfl rfl rfl ?_ | refine Ops.pure T rfl (by decide) rfl ?_ | refine Ops.loadN 0 rfl (by decide) rfl rfl (T.aggOk rfl) (T.sizeOk rfl) rfl rfl ?_ | refine Ops.store 0 rfl rfl rfl rfl rfl (T.sizeOk rfl) rfl (Nat.le_of_ble_eq_true rfl) rfl rfl ?_)
          refine Ops.call ((name_hasImplicit J4 (s.drop (k + 1)) r ins (by omega))) rfl (by decide) Proofs.Tryz.call73 rfl ?_
          rintro _ J5 l5 rfl
          cases himp : implNs r (s.drop (k + 1)) with
          | false =>
            cases st with
            | true =>
              repeat (first | refine Run.seq ?_ | refine Run.region ?_ | refine Ops.nil ?_ | refine Run.skip ?_ | refine Run.cond_f rfl ?_ | refine Ops.not rfl (by decide) ?_ | refine Ops.pure T rfl (by decide) rfl ?_ | refine Ops.loadN 0 rfl (by decide) rfl rfl (T.aggOk rfl) (T.sizeOk rfl) rfl rfl ?_)
              refine Ops.buildL bd54 rfl (by decide) rfl rfl ?_
              repeat (first | refine Ops.nil ?_ | refine Ops.pure T rfl (by decide) rfl ?_ | refine Ops.store 2 rfl rfl rfl rfl rfl (T.sizeOk rfl) rfl (Nat.le_of_ble_eq_true rfl) rfl rfl ?_)
              refine Run.retCT T 2 (by rw [hCf]; exact Proofs.Tryz.func28) Proofs.Tryz.results28 rfl rfl rfl rfl rfl rfl rfl (hR _ _ _ ?_)
              refine ⟨rfl, some (r, s.drop (k + 1)), rfl, (RepoAns.of2 hcut hans hpg).2.2 r rfl (by rw [himp]; rfl), fun x h => ?_⟩
              cases h
              exact ⟨(hlen r rfl).1, by have := (hlen r rfl).2; have := hl1; simp only at *; omega, hl2⟩
            | false =>
              repeat (first | refine Run.seq ?_ | refine Run.region ?_ | refine Ops.nil ?_ | refine Run.skip ?_ | refine Run.cond_f rfl ?_ | refine Ops.not rfl (by decide) ?_ | refine Ops.pure T rfl (by decide) rfl ?_ | refine Ops.loadN 0 rfl (by decide) rfl rfl (T.aggOk rfl) (T.sizeOk rfl) rfl rfl ?_)
              refine Ops.buildL bd54 rfl (by decide) rfl rfl ?_
              repeat (first | refine Ops.nil ?_ | refine Ops.pure T rfl (by decide) rfl ?_ | refine Ops.store 2 rfl rfl rfl rfl rfl (T.sizeOk rfl) rfl (Nat.le_of_ble_eq_true rfl) rfl rfl ?_)
              refine Run.retCT T 2 (by rw [hCf]; exact Proofs.Tryz.func28) Proofs.Tryz.results28 rfl rfl rfl rfl rfl rfl rfl (hR _ _ _ ?_)
              refine ⟨rfl, some (r, s.drop (k + 1)), rfl, (RepoAns.of2 hcut hans hpg).2.2 r rfl (by rw [himp]; rfl), fun x h => ?_⟩
              cases h
              exact ⟨(hlen r rfl).1, by have := (hlen r rfl).2; have := hl1; simp only at *; omega, hl2⟩
          | true =>
            cases st with
            | false =>
              repeat (first | refine Run.seq ?_ | refine Run.region ?_ | refine Ops.nil ?_ | refine Run.skip ?_ | refine Run.cond_f rfl ?_ | refine Ops.pure T rfl (by decide) rfl ?_ | refine Ops.load 1 rfl (by decide) rfl rfl (T.aggOk rfl) rfl ?_ | refine Ops.loadN 0 rfl (by decide) rfl rfl (T.aggOk rfl) (T.sizeOk rfl) rfl rfl ?_)
              refine Ops.buildL bd54 rfl (by decide) rfl rfl ?_
              repeat (first | refine Ops.nil ?_ | refine Ops.pure T rfl (by decide) rfl ?_ | refine Ops.store 2 rfl rfl rfl rfl rfl (T.sizeOk rfl) rfl (Nat.le_of_ble_eq_true rfl) rfl rfl ?_)
              refine Run.retCT T 2 (by rw [hCf]; exact Proofs.Tryz.func28) Proofs.Tryz.results28 rfl rfl rfl rfl rfl rfl rfl (hR _ _ _ ?_)
              refine ⟨rfl, some (r, s.drop (k + 1)), rfl, (RepoAns.of2 hcut hans hpg).2.2 r rfl (by rw [himp]; rfl), fun x h => ?_⟩
              cases h
              exact ⟨(hlen r rfl).1, by have := (hlen r rfl).2; have := hl1; simp only at *; omega, hl2⟩
            | true =>
              repeat (first | refine Run.seq ?_ | refine Run.region ?_ | refine Ops.nil ?_ | refine Run.cond_t rfl ?_ | refine Ops.pure T rfl (by decide) rfl ?_ | refine Ops.load 1 rfl (by decide) rfl rfl (T.aggOk rfl) rfl ?_)
              refine Ops.buildL bd54 rfl (by decide) rfl rfl ?_
              refine Ops.call ((name_newErrBadName J5 _ _)) rfl (by decide) Proofs.Tryz.call44 rfl ?_
              rintro _ J6 l6 ⟨b5, rfl⟩
              repeat (first | refine Ops.nil ?_ | refine Ops.pure T rfl (by decide) rfl ?_ | refine Ops.store 2 rfl rfl rfl rfl rfl (T.sizeOk rfl) rfl (Nat.le_of_ble_eq_true rfl) rfl rfl ?_)
              refine Run.retCT T 2 (by rw [hCf]; exact Proofs.Tryz.func28) Proofs.Tryz.results28 rfl rfl rfl rfl rfl rfl rfl (hR _ _ _ ?_)
              exact ⟨rfl, none, ⟨b5, rfl⟩, (RepoAns.of2 hcut hans hpg).2.1 r rfl (by rw [himp]; rfl), fun x h => by cases h⟩
    | false =>
      have h1' : decide (s.take k = localhostT) = false := h1
      repeat (first | refine Ops.pure T rfl (by decide) rfl ?_)
      refine Ops.call ((name_zzContainsAny J2 (s.take k) [46, 58] (by simp; omega) (by decide))) rfl (by decide) Proofs.Tryz.call71 rfl ?_
      rintro _ J2' l2' rfl
      rw [anyR (by unfold ascii; decide)]
      have ho3 := ho2.mono l2'
      replace hS := hS.mono l2'
      have hany : ([46, 58] : Tx).any (fun c => hasB c (s.take k)) = hosted (s.take k) := by simp [hosted, h1']
      rw [hany]
      cases h2 : hosted (s.take k) with
      | true =>
        have hcut : hostCut s = (s.take k, s.drop (k + 1)) := by rw [hcut0, if_pos h2]
        repeat (first | refine Run.seq ?_ | refine Run.region ?_ | refine Ops.nil ?_ | refine Run.cond_t rfl ?_ | refine Ops.pure T rfl (by decide) rfl ?_)
        refine Ops.indexSl hS rfl (by decide) rfl rfl (T.undOk rfl) (T.sizeOk rfl) (by first | omega | (simp only [List.length_cons, List.length_nil] ; omega) | (simp; omega)) (by first | omega | (simp only [List.length_cons, List.length_nil] ; omega) | (simp; omega)) ?_
        rintro b_ off_ x cs_ hx hr_ hA_
        obtain rfl : cs_ = [_] := hr_
        refine Ops.loadI rfl (by decide) rfl hA_ (T.aggOk rfl) ?_
        obtain rfl : s.drop (k + 1) = x := by simpa using hx
        repeat (first | refine Run.seq ?_ | refine Run.region ?_ | refine Ops.nil ?_ | refine Ops.pure T rfl (by decide) rfl ?_)
        have hl1 : (s.take k).length ≤ s.length := by first | (simp; done) | (simp; omega) | omega
        have hl2 : (s.drop (k + 1)).length ≤ s.length := by first | (simp; done) | (simp; omega) | omega
        refine Ops.call ((name_checkRepository J2' (s.drop (k + 1)) (by omega))) rfl (by decide) Proofs.Tryz.call72 rfl ?_
        rintro w J3 l3 hw
        cases hpg : pathGood (s.drop (k + 1)) with
        | false =>
          rw [hpg] at hw
          obtain ⟨b3, rfl⟩ := hw.bad
          unfold errV
          repeat (first | refine Run.seq ?_ | refine Run.region ?_ | refine Ops.nil ?_ | refine Run.cond_t rfl ?_ | refine Ops.neqNil T rfl (by decide) rfl rfl rfl rfl rfl ?_ | refine Ops.pure T rfl (by decide) rfl ?_)
          refine Ops.buildL bd54 rfl (by decide) rfl rfl ?_
          repeat (first | refine Ops.nil ?_ | refine Ops.pure T rfl (by decide) rfl ?_ | refine Ops.store 1 rfl rfl rfl rfl rfl (T.sizeOk rfl) rfl (Nat.le_of_ble_eq_true rfl) rfl rfl ?_)
          refine Run.retCT T 1 (by rw [hCf]; exact Proofs.Tryz.func28) Proofs.Tryz.results28 rfl rfl rfl rfl rfl rfl rfl (hR _ _ _ ?_)
          exact ⟨rfl, none, ⟨b3, rfl⟩, RepoAns.bad (by rw [hcut]; exact hpg), fun x h => by cases h⟩
        | true =>
          rw [hpg] at hw
          obtain rfl := hw.good
          repeat (first | refine Run.seq ?_ | refine Run.region ?_ | refine Ops.nil ?_ | refine Run.skip ?_ | refine Run.cond_f rfl ?_ | refine Ops.neqNil T rfl (by decide) rfl rfl rfl rfl rfl ?_ | refine Ops.pure T rfl (by decide) rfl ?_)
          refine Ops.call ((name_NewRegistry J3 (s.take k) v ⟨st, ins, reg, tag⟩ (ho3.mono l3) (by omega))) rfl (by decide) Proofs.Tryz.call26 rfl ?_
          rintro w J4 l4 ⟨a, hres, hans, hlen⟩
          cases a with
          | none =>
            obtain ⟨b3, rfl⟩ := hres
            unfold errV
            repeat (first | refine Ops.pure T rfl (by decide) rfl ?_)
            refine Ops.alloc rfl (by decide) (T.zeroOk rfl) rfl (fun b4 => ?_)
            repeat (first | refine Run.seq ?_ | refine Run.region ?_ | refine Ops.nil ?_ | refine Run.cond_t rfl ?_ | refine Ops.neqNil T rfl (by decide) rfl rfl rfl rfl rfl ?_ | refine Ops.pure T rfl (by decide) rfl ?_ | refine Ops.store 0 rfl rfl rfl rfl rfl (T.sizeOk rfl) rfl (Nat.le_of_ble_eq_true rfl) rfl rfl ?_)
            refine Ops.buildL bd54 rfl (by decide) rfl rfl ?_
            repeat (first | refine Ops.nil ?_ | refine Ops.pure T rfl (by decide) rfl ?_ | refine Ops.store 2 rfl rfl rfl rfl rfl (T.sizeOk rfl) rfl (Nat.le_of_ble_eq_true rfl) rfl rfl ?_)
            refine Run.retCT T 2 (by rw [hCf]; exact Proofs.Tryz.func28) Proofs.Tryz.results28 rfl rfl rfl rfl rfl rfl rfl (hR _ _ _ ?_)
            exact ⟨rfl, none, ⟨b3, rfl⟩, (RepoAns.of2 hcut hans hpg).1 rfl, fun x h => by cases h⟩
          | some r =>
            have hres2 : w = _ := hres
            subst hres2
            repeat (first | refine Ops.pure T rfl (by decide) rfl ?_)
            refine Ops.alloc rfl (by decide) (T.zeroOk rfl) rfl (fun b4 => ?_)
            repeat (first | refine Run.seq ?_ | refine Run.region ?_ | refine Ops.nil ?_ | refine Run.skip ?_ | refine Run.cond_f rfl ?_ | refine Ops.neqNil T rfl (by decide) rfl rfl rfl rfl rfl ?_ | refine Ops.pure T rfl (by decide) rfl ?_ | refine Ops.loadN 0 rfl (by decide) rfl rfl (T.aggOk rfl) (T.sizeOk rfl) rfl rfl ?_ | refine Ops.store 0 rfl rfl rfl rfl rfl (T.sizeOk rfl) rfl (Nat.le_of_ble_eq_true rfl) rfl rfl ?_)
            refine Ops.call ((name_hasImplicit J4 (s.drop (k + 1)) r ins (by omega))) rfl (by decide) Proofs.Tryz.call73 rfl ?_
            rintro _ J5 l5 rfl
            cases himp : implNs r (s.drop (k + 1)) with
            | false =>
              cases st with
              | true =>
                repeat (first | refine Run.seq ?_ | refine Run.region ?_ | refine Ops.nil ?_ | refine Run.skip ?_ | refine Run.cond_f rfl ?_ | refine Ops.not rfl (by decide) ?_ | refine Ops.pure T rfl (by decide) rfl ?_ | refine Ops.loadN 0 rfl (by decide) rfl rfl (T.aggOk rfl) (T.sizeOk rfl) rfl rfl ?_)
                refine Ops.buildL bd54 rfl (by decide) rfl rfl ?_
                repeat (first | refine Ops.nil ?_ | refine Ops.pure T rfl (by decide) rfl ?_ | refine Ops.store 2 rfl rfl rfl rfl rfl (T.sizeOk rfl) rfl (Nat.le_of_ble_eq_true rfl) rfl rfl ?_)
                refine Run.retCT T 2 (by rw [hCf]; exact Proofs.Tryz.func28) Proofs.Tryz.results28 rfl rfl rfl rfl rfl rfl rfl (hR _ _ _ ?_)
                refine ⟨rfl, some (r, s.drop (k + 1)), rfl, (RepoAns.of2 hcut hans hpg).2.2 r rfl (by rw [himp]; rfl), fun x h => ?_⟩
                cases h
                exact ⟨(hlen r rfl).1, by have := (hlen r rfl).2; have := hl1; simp only at *; omega, hl2⟩
              | false =>
                repeat (first | refine Run.seq ?_ | refine Run.region ?_ | refine Ops.nil ?_ | refine Run.skip ?_ | refine Run.cond_f rfl ?_ | refine Ops.not rfl (by decide) ?_ | refine Ops.pure T rfl (by decide) rfl ?_ | refine Ops.loadN 0 rfl (by decide) rfl rfl (T.aggOk rfl) (T.sizeOk rfl) rfl rfl ?_)
                refine Ops.buildL bd54 rfl (by decide) rfl rfl ?_
                repeat (first | refine Ops.nil ?_ | refine Ops.pure T rfl (by decide) rfl ?_ | refine Ops.store 2 rfl rfl rfl rfl rfl (T.sizeOk rfl) rfl (Nat.le_of_ble_eq_true rfl) rfl rfl ?_)
                refine Run.retCT T 2 (by rw [hCf]; exact Proofs.Tryz.func28) Proofs.Tryz.results28 rfl rfl rfl rfl rfl rfl rfl (hR _ _ _ ?_)
                refine ⟨rfl, some (r, s.drop (k + 1)), rfl, (RepoAns.of2 hcut hans hpg).2.2 r rfl (by rw [himp]; rfl), fun x h => ?_⟩
                cases h
                exact ⟨(hlen r rfl).1, by have := (hlen r rfl).2; have := hl1; simp only at *; omega, hl2⟩
            | true =>
              cases st with
              | false =>
                repeat (first | refine Run.seq ?_ | refine Run.region ?_ | refine Ops.nil ?_ | refine Run.skip ?_ | refine Run.cond_f rfl ?_ | refine Ops.pure T rfl (by decide) rfl ?_ | refine Ops.load 1 rfl (by decide) rfl rfl (T.aggOk rfl) rfl ?_ | refine Ops.loadN 0 rfl (by decide) rfl rfl (T.aggOk rfl) (T.sizeOk rfl) rfl rfl ?_)
                refine Ops.buildL bd54 rfl (by decide) rfl rfl ?_
                repeat (first | refine Ops.nil ?_ | refine Ops.pure T rfl (by decide) rfl ?_ | refine Ops.store 2 rfl rfl rfl rfl rfl (T.sizeOk rfl) rfl (Nat.le_of_ble_eq_true rfl) rfl rfl ?_)
                refine Run.retCT T 2 (by rw [hCf]; exact Proofs.Tryz.func28) Proofs.Tryz.results28 rfl rfl rfl rfl rfl rfl rfl (hR _ _ _ ?_)
                refine ⟨rfl, some (r, s.drop (k + 1)), rfl, (RepoAns.of2 hcut hans hpg).2.2 r rfl (by rw [himp]; rfl), fun x h => ?_⟩
                cases h
                exact ⟨(hlen r rfl).1, by have := (hlen r rfl).2; have := hl1; simp only at *; omega, hl2⟩
              | true =>
                repeat (first | refine Run.seq ?_ | refine Run.region ?_ | refine Ops.nil ?_ | refine Run.cond_t rfl ?_ | refine Ops.pure T rfl (by decide) rfl ?_ | refine Ops.load 1 rfl (by decide) rfl rfl (T.aggOk rfl) rfl ?_)
                refine Ops.buildL bd54 rfl (by decide) rfl rfl ?_
                refine Ops.call ((name_newErrBadName J5 _ _)) rfl (by decide) Proofs.Tryz.call44 rfl ?_
                rintro _ J6 l6 ⟨b5, rfl⟩
                repeat (first | refine Ops.nil ?_ | refine Ops.pure T rfl (by decide) rfl ?_ | refine Ops.store 2 rfl rfl rfl rfl rfl (T.sizeOk rfl) rfl (Nat.le_of_ble_eq_true rfl) rfl rfl ?_)
                refine Run.retCT T 2 (by rw [hCf]; exact Proofs.Tryz.func28) Proofs.Tryz.results28 rfl rfl rfl rfl rfl rfl rfl (hR _ _ _ ?_)
                exact ⟨rfl, none, ⟨b5, rfl⟩, (RepoAns.of2 hcut hans hpg).2.1 r rfl (by rw [himp]; rfl), fun x h => by cases h⟩
      | false =>
        have hcut : hostCut s = ([], s) := by rw [hcut0, h2]; rfl
        repeat (first | refine Run.seq ?_ | refine Run.region ?_ | refine Ops.nil ?_ | refine Run.skip ?_ | refine Run.cond_f rfl ?_ | refine Ops.pure T rfl (by decide) rfl ?_)
        have hl1 : (([] : Tx)).length ≤ s.length := by first | (simp; done) | (simp; omega) | omega
        have hl2 : (s).length ≤ s.length := by first | (simp; done) | (simp; omega) | omega
        refine Ops.call ((name_checkRepository J2' (s) (by omega))) rfl (by decide) Proofs.Tryz.call72 rfl ?_
        rintro w J3 l3 hw
        cases hpg : pathGood (s) with
        | false =>
          rw [hpg] at hw
          obtain ⟨b3, rfl⟩ := hw.bad
          unfold errV
          repeat (first | refine Run.seq ?_ | refine Run.region ?_ | refine Ops.nil ?_ | refine Run.cond_t rfl ?_ | refine Ops.neqNil T rfl (by decide) rfl rfl rfl rfl rfl ?_ | refine Ops.pure T rfl (by decide) rfl ?_)
          refine Ops.buildL bd54 rfl (by decide) rfl rfl ?_
          repeat (first | refine Ops.nil ?_ | refine Ops.pure T rfl (by decide) rfl ?_ | refine Ops.store 1 rfl rfl rfl rfl rfl (T.sizeOk rfl) rfl (Nat.le_of_ble_eq_true rfl) rfl rfl ?_)
          refine Run.retCT T 1 (by rw [hCf]; exact Proofs.Tryz.func28) Proofs.Tryz.results28 rfl rfl rfl rfl rfl rfl rfl (hR _ _ _ ?_)
          exact ⟨rfl, none, ⟨b3, rfl⟩, RepoAns.bad (by rw [hcut]; exact hpg), fun x h => by cases h⟩
        | true =>
          rw [hpg] at hw
          obtain rfl := hw.good
          repeat (first | refine Run.seq ?_ | refine Run.region ?_ | refine Ops.nil ?_ | refine Run.skip ?_ | refine Run.cond_f rfl ?_ | refine Ops.neqNil T rfl (by decide) rfl rfl rfl rfl rfl ?_ | refine Ops.pure T rfl (by decide) rfl ?_)
          refine Ops.call ((name_NewRegistry J3 (([] : Tx)) v ⟨st, ins, reg, tag⟩ (ho3.mono l3) (by omega))) rfl (by decide) Proofs.Tryz.call26 rfl ?_
          rintro w J4 l4 ⟨a, hres, hans, hlen⟩
          cases a with
          | none =>
            obtain ⟨b3, rfl⟩ := hres
            unfold errV
            repeat (first | refine Ops.pure T rfl (by decide) rfl ?_)
            refine Ops.alloc rfl (by decide) (T.zeroOk rfl) rfl (fun b4 => ?_)
            repeat (first | refine Run.seq ?_ | refine Run.region ?_ | refine Ops.nil ?_ | refine Run.cond_t rfl ?_ | refine Ops.neqNil T rfl (by decide) rfl rfl rfl rfl rfl ?_ | refine Ops.pure T rfl (by decide) rfl ?_ | refine Ops.store 0 rfl rfl rfl rfl rfl (T.sizeOk rfl) rfl (Nat.le_of_ble_eq_true rfl) rfl rfl ?_)
            refine Ops.buildL bd54 rfl (by decide) rfl rfl ?_
            repeat (first | refine Ops.nil ?_ | refine Ops.pure T rfl (by decide) rfl ?_ | refine Ops.store 2 rfl rfl rfl rfl rfl (T.sizeOk rfl) rfl (Nat.le_of_ble_eq_true rfl) rfl rfl ?_)
            refine Run.retCT T 2 (by rw [hCf]; exact Proofs.Tryz.func28) Proofs.Tryz.results28 rfl rfl rfl rfl rfl rfl rfl (hR _ _ _ ?_)
            exact ⟨rfl, none, ⟨b3, rfl⟩, (RepoAns.of2 hcut hans hpg).1 rfl, fun x h => by cases h⟩
          | some r =>
            have hres2 : w = _ := hres
            subst hres2
            repeat (first | refine Ops.pure T rfl (by decide) rfl ?_)
            refine Ops.alloc rfl (by decide) (T.zeroOk rfl) rfl (fun b4 => ?_)
            repeat (first | refine Run.seq ?_ | refine Run.region ?_ | refine Ops.nil ?_ | refine Run.skip ?_ | refine Run.cond_f rfl ?_ | refine Ops.neqNil T rfl (by decide) rfl rfl rfl rfl rfl ?_ | refine Ops.pure T rfl (by decide) rfl ?_ | refine Ops.loadN 0 rfl (by decide) rfl rfl (T.aggOk rfl) (T.sizeOk rfl) rfl rfl ?_ | refine Ops.store 0 rfl rfl rfl rfl rfl (T.sizeOk rfl) rfl (Nat.le_of_ble_eq_true rfl) rfl rfl ?_)
            refine Ops.call ((name_hasImplicit J4 (s) r ins (by omega))) rfl (by decide) Proofs.Tryz.call73 rfl ?_
            rintro _ J5 l5 rfl
            cases himp : implNs r (s) with
            | false =>
              cases st with
              | true =>
                repeat (first | refine Run.seq ?_ | refine Run.region ?_ | refine Ops.nil ?_ | refine Run.skip ?_ | refine Run.cond_f rfl ?_ | refine Ops.not rfl (by decide) ?_ | refine Ops.pure T rfl (by decide) rfl ?_ | refine Ops.loadN 0 rfl (by decide) rfl rfl (T.aggOk rfl) (T.sizeOk rfl) rfl rfl ?_)
                refine Ops.buildL bd54 rfl (by decide) rfl rfl ?_
                repeat (first | refine Ops.nil ?_ | refine Ops.pure T rfl (by decide) rfl ?_ | refine Ops.store 2 rfl rfl rfl rfl rfl (T.sizeOk rfl) rfl (Nat.le_of_ble_eq_true rfl) rfl rfl ?_)
                refine Run.retCT T 2 (by rw [hCf]; exact Proofs.Tryz.func28) Proofs.Tryz.results28 rfl rfl rfl rfl rfl rfl rfl (hR _ _ _ ?_)
                refine ⟨rfl, some (r, s), rfl, (RepoAns.of2 hcut hans hpg).2.2 r rfl (by rw [himp]; rfl), fun x h => ?_⟩
                cases h
                exact ⟨(hlen r rfl).1, by have := (hlen r rfl).2; have := hl1; simp only at *; omega, hl2⟩
              | false =>
                repeat (first | refine Run.seq ?_ | refine Run.region ?_ | refine Ops.nil ?_ | refine Run.skip ?_ | refine Run.cond_f rfl ?_ | refine Ops.not rfl (by decide) ?_ | refine Ops.pure T rfl (by decide) rfl ?_ | refine Ops.loadN 0 rfl (by decide) rfl rfl (T.aggOk rfl) (T.sizeOk rfl) rfl rfl ?_)
                refine Ops.buildL bd54 rfl (by decide) rfl rfl ?_
                repeat (first | refine Ops.nil ?_ | refine Ops.pure T rfl (by decide) rfl ?_ | refine Ops.store 2 rfl rfl rfl rfl rfl (T.sizeOk rfl) rfl (Nat.le_of_ble_eq_true rfl) rfl rfl ?_)
                refine Run.retCT T 2 (by rw [hCf]; exact Proofs.Tryz.func28) Proofs.Tryz.results28 rfl rfl rfl rfl rfl rfl rfl (hR _ _ _ ?_)
                refine ⟨rfl, some (r, s), rfl, (RepoAns.of2 hcut hans hpg).2.2 r rfl (by rw [himp]; rfl), fun x h => ?_⟩
                cases h
                exact ⟨(hlen r rfl).1, by have := (hlen r rfl).2; have := hl1; simp only at *; omega, hl2⟩
            | true =>
              cases st with
              | false =>
                repeat (first | refine Run.seq ?_ | refine Run.region ?_ | refine Ops.nil ?_ | refine Run.skip ?_ | refine Run.cond_f rfl ?_ | refine Ops.pure T rfl (by decide) rfl ?_ | refine Ops.load 1 rfl (by decide) rfl rfl (T.aggOk rfl) rfl ?_ | refine Ops.loadN 0 rfl (by decide) rfl rfl (T.aggOk rfl) (T.sizeOk rfl) rfl rfl ?_)
                refine Ops.buildL bd54 rfl (by decide) rfl rfl ?_
                repeat (first | refine Ops.nil ?_ | refine Ops.pure T rfl (by decide) rfl ?_ | refine Ops.store 2 rfl rfl rfl rfl rfl (T.sizeOk rfl) rfl (Nat.le_of_ble_eq_true rfl) rfl rfl ?_)
                refine Run.retCT T 2 (by rw [hCf]; exact Proofs.Tryz.func28) Proofs.Tryz.results28 rfl rfl rfl rfl rfl rfl rfl (hR _ _ _ ?_)
                refine ⟨rfl, some (r, s), rfl, (RepoAns.of2 hcut hans hpg).2.2 r rfl (by rw [himp]; rfl), fun x h => ?_⟩
                cases h
                exact ⟨(hlen r rfl).1, by have := (hlen r rfl).2; have := hl1; simp only at *; omega, hl2⟩
              | true =>
                repeat (first | refine Run.seq ?_ | refine Run.region ?_ | refine Ops.nil ?_ | refine Run.cond_t rfl ?_ | refine Ops.pure T rfl (by decide) rfl ?_ | refine Ops.load 1 rfl (by decide) rfl rfl (T.aggOk rfl) rfl ?_)
                refine Ops.buildL bd54 rfl (by decide) rfl rfl ?_
                refine Ops.call ((name_newErrBadName J5 _ _)) rfl (by decide) Proofs.Tryz.call44 rfl ?_
                rintro _ J6 l6 ⟨b5, rfl⟩
                repeat (first | refine Ops.nil ?_ | refine Ops.pure T rfl (by decide) rfl ?_ | refine Ops.store 2 rfl rfl rfl rfl rfl (T.sizeOk rfl) rfl (Nat.le_of_ble_eq_true rfl) rfl rfl ?_)
                refine Run.retCT T 2 (by rw [hCf]; exact Proofs.Tryz.func28) Proofs.Tryz.results28 rfl rfl rfl rfl rfl rfl rfl (hR _ _ _ ?_)
                exact ⟨rfl, none, ⟨b5, rfl⟩, (RepoAns.of2 hcut hans hpg).2.1 r rfl (by rw [himp]; rfl), fun x h => by cases h⟩
theorem Repository_RepositoryStr (I : Imm) (ins : Bool) (r p : Tx) (hp : p.length ≤ 1099511627776) : Pure Proofs.Tryz.prog 52 [.agg [.bool ins, str r, str p].toArray] I fun w J => w = str (fullP r p) := by
  refine Spec.enter 13 [(0, _)] Proofs.Tryz.func52 rfl Proofs.Tryz.ntmps52 (by simp) rfl ?_
  intro C hCf hR hCI
  repeat (first | refine Run.seq ?_ | refine Run.region ?_)
  refine Ops.box rfl (by decide) rfl rfl (fun b => ?_)
  repeat (first | refine Run.seq ?_ | refine Run.region ?_ | refine Ops.nil ?_ | refine Ops.pure T rfl (by decide) rfl ?_ | refine Ops.load 0 rfl (by decide) rfl rfl (T.aggOk rfl) rfl ?_ | refine Ops.loadN 0 rfl (by decide) rfl rfl (T.aggOk rfl) (T.sizeOk rfl) rfl rfl ?_)
  refine Ops.call ((name_hasImplicit I p r ins hp)) rfl (by decide) Proofs.Tryz.call73 rfl ?_
  rintro _ J1 l1 rfl
  cases h : implNs r p with
  | true =>
    repeat (first | refine Run.seq ?_ | refine Run.region ?_ | refine Ops.nil ?_ | refine Run.cond_t rfl ?_ | refine Ops.cat rfl (by decide) rfl rfl (by first | omega | (simp only [List.length_cons, List.length_nil] ; omega) | (simp; omega)) ?_ | refine Ops.pure T rfl (by decide) rfl ?_ | refine Ops.load 0 rfl (by decide) rfl rfl (T.aggOk rfl) rfl ?_)
    refine Run.fin (Run.ret1 (by rw [hCf]; exact Proofs.Tryz.func52) Proofs.Tryz.results52 rfl (hR _ _ _ ?_))
    exact ⟨rfl, congrArg str (show libT ++ p = fullP r p from (if_pos h).symm)⟩
  | false =>
    repeat (first | refine Run.seq ?_ | refine Run.region ?_ | refine Ops.nil ?_ | refine Run.skip ?_ | refine Run.cond_f rfl ?_ | refine Ops.pure T rfl (by decide) rfl ?_ | refine Ops.load 0 rfl (by decide) rfl rfl (T.aggOk rfl) rfl ?_)
    refine Run.fin (Run.ret1 (by rw [hCf]; exact Proofs.Tryz.func52) Proofs.Tryz.results52 rfl (hR _ _ _ ?_))
    exact ⟨rfl, congrArg str (show p = fullP r p from (if_neg (fun hh => by rw [show implNs r p = true from hh] at h; cases h)).symm)⟩
theorem fullP_len (r p : Tx) : (fullP r p).length ≤ p.length + 8 := by
  unfold fullP; split
  · first | (simp [libT]; done) | (simp [libT]; omega)
  · omega
theorem Repository_Name (I : Imm) (ins : Bool) (r p : Tx) (hr : r.length ≤ 1099511627776) (hp : p.length ≤ 1099511627776) (hne : r ≠ []) : Pure Proofs.Tryz.prog 58 [.agg [.bool ins, str r, str p].toArray] I fun w J => w = str (repoT r (fullP r p)) := by
  have hfl := fullP_len r p
  refine Spec.enter 16 [(0, _)] Proofs.Tryz.func58 rfl Proofs.Tryz.ntmps58 (by simp) rfl ?_
  intro C hCf hR hCI
  repeat (first | refine Run.seq ?_ | refine Run.region ?_)
  refine Ops.box rfl (by decide) rfl rfl (fun b => ?_)
  repeat (first | refine Run.seq ?_ | refine Run.region ?_ | refine Ops.nil ?_ | refine Ops.pure T rfl (by decide) rfl ?_ | refine Ops.loadN 0 rfl (by decide) rfl rfl (T.aggOk rfl) (T.sizeOk rfl) rfl rfl ?_)
  refine Ops.call ((Registry_Name I ins r)) rfl (by decide) Proofs.Tryz.call60 rfl ?_
  rintro _ J1 l1 rfl
  repeat (first | refine Run.seq ?_ | refine Run.region ?_ | refine Ops.nil ?_ | refine Ops.neqStr rfl (by decide) rfl rfl ?_ | refine Ops.pure T rfl (by decide) rfl ?_)
  rw [decide_eq_false hne]
  repeat (first | refine Run.seq ?_ | refine Run.region ?_ | refine Run.cond_t rfl ?_ | refine Ops.cat rfl (by decide) rfl rfl (by first | omega | (simp only [List.length_cons, List.length_nil] ; omega) | (simp; omega)) ?_ | refine Ops.pure T rfl (by decide) rfl ?_ | refine Ops.loadN 0 rfl (by decide) rfl rfl (T.aggOk rfl) (T.sizeOk rfl) rfl rfl ?_)
  refine Ops.call ((Repository_RepositoryStr J1 ins r p hp)) rfl (by decide) Proofs.Tryz.call52 rfl ?_
  rintro _ J2 l2 rfl
  repeat (first | refine Ops.nil ?_ | refine Ops.cat rfl (by decide) rfl rfl (by first | omega | (simp only [List.length_cons, List.length_nil] ; omega) | (simp; omega)) ?_ | refine Ops.pure T rfl (by decide) rfl ?_)
  refine Run.fin (Run.ret1 (by rw [hCf]; exact Proofs.Tryz.func58) Proofs.Tryz.results58 rfl (hR _ _ _ ?_))
  exact ⟨rfl, rfl⟩
theorem Repository_String (I : Imm) (ins : Bool) (r p : Tx) (hr : r.length ≤ 1099511627776) (hp : p.length ≤ 1099511627776) (hne : r ≠ []) : Pure Proofs.Tryz.prog 59 [.agg [.bool ins, str r, str p].toArray] I fun w J => w = str (repoT r (fullP r p)) := by
  refine Spec.enter 5 [(0, _)] Proofs.Tryz.func59 rfl Proofs.Tryz.ntmps59 (by simp) rfl ?_
  intro C hCf hR hCI
  repeat (first | refine Run.seq ?_ | refine Run.region ?_)
  refine Ops.box rfl (by decide) rfl rfl (fun b => ?_)
  repeat (first | refine Run.seq ?_ | refine Run.region ?_ | refine Ops.nil ?_ | refine Ops.pure T rfl (by decide) rfl ?_ | refine Ops.loadN 0 rfl (by decide) rfl rfl (T.aggOk rfl) (T.sizeOk rfl) rfl rfl ?_)
  refine Ops.call ((Repository_Name I ins r p hr hp hne)) rfl (by decide) Proofs.Tryz.call58 rfl ?_
  rintro _ J1 l1 rfl
  repeat (first | refine Ops.nil ?_ | refine Ops.pure T rfl (by decide) rfl ?_)
  refine Run.fin (Run.ret1 (by rw [hCf]; exact Proofs.Tryz.func59) Proofs.Tryz.results59 rfl (hR _ _ _ ?_))
  exact ⟨rfl, rfl⟩
theorem Repository_Scope (I : Imm) (ins : Bool) (r p : Tx) (hp : p.length ≤ 1099511627776) : Pure Proofs.Tryz.prog 65 [.agg [.bool ins, str r, str p].toArray, str [112, 117, 108, 108]] I fun w J => w = str (scopeT (fullP r p)) := by
  have hfl := fullP_len r p
  refine Spec.enter 11 [(0, _), (1, _)] Proofs.Tryz.func65 rfl Proofs.Tryz.ntmps65 (by simp) rfl ?_
  intro C hCf hR hCI
  repeat (first | refine Run.seq ?_ | refine Run.region ?_)
  refine Ops.box rfl (by decide) rfl rfl (fun b => ?_)
  repeat (first | refine Run.seq ?_ | refine Run.region ?_ | refine Ops.nil ?_ | refine Ops.pure T rfl (by decide) rfl ?_ | refine Ops.loadN 0 rfl (by decide) rfl rfl (T.aggOk rfl) (T.sizeOk rfl) rfl rfl ?_)
  refine Ops.call ((Repository_RepositoryStr I ins r p hp)) rfl (by decide) Proofs.Tryz.call52 rfl ?_
  rintro _ J1 l1 rfl
  repeat (first | refine Ops.nil ?_ | refine Ops.cat rfl (by decide) rfl rfl (by first | omega | (simp only [List.length_cons, List.length_nil] ; omega) | (simp; omega)) ?_ | refine Ops.pure T rfl (by decide) rfl ?_)
  refine Run.fin (Run.ret1 (by rw [hCf]; exact Proofs.Tryz.func65) Proofs.Tryz.results65 rfl (hR _ _ _ ?_))
  exact ⟨rfl, by simp [scopeT]⟩
end Go.V
/-
  Tags made of names; what they tell.
-/
namespace Go.V
open Go.RowKit
set_option linter.unusedVariables false
set_option linter.unusedSimpArgs false
set_option maxRecDepth 10000
attribute [local irreducible] Run Ops
def tagRes (ins : Bool) (s : Tx) (a : Option (Tx × Tx × Tx)) (w : Value) : Prop := match a with
  | some x => w = .tuple #[.agg #[.bool ins, str x.1, str x.2.1, str x.2.2, str s], .nilIface]
  | none => ∃ b, w = .tuple #[.agg #[.bool false, str [], str [], str [], str []], errV b]
theorem tagOr_len (t : Tx) : (tagOr t).length ≤ t.length + 6 := by
  unfold tagOr; split
  · rename_i h; subst h; decide
  · omega
theorem cutTag_lx {s : Tx} {k : Nat} (h : lx 58 s = some k) : cutTag s = if hasB 47 (s.drop (k + 1)) then none else some (s.take k, s.drop (k + 1)) := by
  unfold cutTag
  rw [h]
  simp only
  obtain ⟨h1, h2, _⟩ := lx_split h
  have e : s.drop k = 58 :: s.drop (k + 1) := by
    conv => lhs; rw [h2]
    rw [List.drop_append_of_le_length (by simp; omega)]
    simp
  rw [e, hasB_cons]
  rfl
set_option maxHeartbeats 8000000 in
theorem name_NewTag (I : Imm) (s : Tx) (v : Value) (o : NOpt) (ho : OptsAre I v o) (hs : s.length ≤ 1099511627776) : Pure Proofs.Tryz.prog 30 [str s, v] I fun w J =>
    ∃ a, tagRes o.ins s a w ∧ TagAns o s a ∧ ∀ x, a = some x → x.1 ≠ [] ∧ x.1.length ≤ s.length + o.reg.length + 30 ∧ x.2.1.length ≤ s.length ∧ x.2.2.length ≤ s.length + o.tag.length + 6 := by
  obtain ⟨st, ins, reg, tag⟩ := o
  refine Spec.enter 81 [(0, _), (1, _)] Proofs.Tryz.func30 rfl Proofs.Tryz.ntmps30 (by simp) rfl ?_
  intro C hCf hR hCI
  repeat (first | refine Run.seq ?_ | refine Run.region ?_)
  refine Ops.alloc rfl (by decide) (T.zeroOk rfl) rfl (fun b => ?_)
  repeat (first | refine Run.seq ?_ | refine Run.region ?_ | refine Ops.nil ?_ | refine Ops.pure T rfl (by decide) rfl ?_)
  refine Ops.call ((makeOptions_are I v _ ho)) rfl (by decide) Proofs.Tryz.call66 rfl ?_
  rintro _ J1 l1 rfl
  refine Ops.alloc rfl (by decide) (T.zeroOk rfl) rfl (fun b2 => ?_)
  repeat (first | refine Run.seq ?_ | refine Run.region ?_ | refine Ops.nil ?_ | refine Ops.pure T rfl (by decide) rfl ?_ | refine Ops.store 0 rfl rfl rfl rfl rfl (T.sizeOk rfl) rfl (Nat.le_of_ble_eq_true rfl) rfl rfl ?_)
  refine Ops.callN ((name_zzSplit s 58 J1 hs)) rfl (by decide) Proofs.Tryz.call74 rfl ?_
  rintro w J2 M l2 hG
  refine Ops.keepG (N := [_, _]) hG rfl fun J3 l3 hS => ?_
  have ho3 := ho.mono ((l1.trans l2).trans l3)
  clear hG l1 l2 l3
  have hsl := spl_len 58 s
  obtain ⟨A, c, e⟩ := hS.isSl
  subst e
  cases hk : lx 58 s with
  | none =>
    rw [spl_no hk] at hS
    rw [spl_no hk]
    repeat (first | refine Run.seq ?_ | refine Run.region ?_ | refine Ops.nil ?_ | refine Run.skip ?_ | refine Run.cond_f rfl ?_ | refine Ops.not rfl (by decide) ?_ | refine Ops.gtr rfl (by decide) rfl rfl ?_ | refine Ops.neqStr rfl (by decide) rfl rfl ?_ | refine Ops.pure T rfl (by decide) rfl ?_ | refine Ops.load 0 rfl (by decide) rfl rfl (T.aggOk rfl) rfl ?_)
    have hcut : cutTag s = none := (by simp [cutTag, hk])
    cases st with
    | true =>
      repeat (first | refine Run.seq ?_ | refine Run.region ?_ | refine Run.cond_t rfl ?_ | refine Ops.pure T rfl (by decide) rfl ?_)
      refine Ops.call ((name_checkTag J3 [] (by decide))) rfl (by decide) Proofs.Tryz.call77 rfl ?_
      rintro w J4 l4 hw
      obtain ⟨b3, rfl⟩ := ErrIs.bad (w := w) hw
      try unfold errV
      repeat (first | refine Run.seq ?_ | refine Run.region ?_ | refine Ops.nil ?_ | refine Run.cond_t rfl ?_ | refine Ops.neqNil T rfl (by decide) rfl rfl rfl rfl rfl ?_ | refine Ops.pure T rfl (by decide) rfl ?_)
      refine Ops.buildL bd56 rfl (by decide) rfl rfl ?_
      repeat (first | refine Ops.nil ?_ | refine Ops.pure T rfl (by decide) rfl ?_ | refine Ops.store 1 rfl rfl rfl rfl rfl (T.sizeOk rfl) rfl (Nat.le_of_ble_eq_true rfl) rfl rfl ?_)
      refine Run.retCT T 1 (by rw [hCf]; exact Proofs.Tryz.func30) Proofs.Tryz.results30 rfl rfl rfl rfl rfl rfl rfl (hR _ _ _ ?_)
      exact ⟨rfl, none, ⟨b3, rfl⟩, TagAns.strict hcut rfl, fun x h => by cases h⟩
    | false =>
      repeat (first | refine Run.seq ?_ | refine Run.region ?_ | refine Ops.nil ?_ | refine Run.skip ?_ | refine Run.cond_t rfl ?_ | refine Run.cond_f rfl ?_ | refine Ops.eqlStr rfl (by decide) rfl rfl ?_ | refine Ops.pure T rfl (by decide) rfl ?_ | refine Ops.load 0 rfl (by decide) rfl rfl (T.aggOk rfl) rfl ?_)
      have hbl : (s : Tx).length ≤ s.length := by first | (simp; done) | (simp; omega) | omega
      refine Ops.call ((name_NewRepository J3 (s) v ⟨false, ins, reg, tag⟩ (ho3) (by omega))) rfl (by decide) Proofs.Tryz.call28 rfl ?_
      rintro w J5 l5 ⟨a, hres, hans, hlen⟩
      cases a with
      | none =>
        obtain ⟨b5, rfl⟩ := hres
        unfold errV
        repeat (first | refine Ops.pure T rfl (by decide) rfl ?_)
        refine Ops.alloc rfl (by decide) (T.zeroOk rfl) rfl (fun b6 => ?_)
        try unfold errV
        repeat (first | refine Run.seq ?_ | refine Run.region ?_ | refine Ops.nil ?_ | refine Run.cond_t rfl ?_ | refine Ops.neqNil T rfl (by decide) rfl rfl rfl rfl rfl ?_ | refine Ops.pure T rfl (by decide) rfl ?_ | refine Ops.store 0 rfl rfl rfl rfl rfl (T.sizeOk rfl) rfl (Nat.le_of_ble_eq_true rfl) rfl rfl ?_)
        refine Ops.buildL bd56 rfl (by decide) rfl rfl ?_
        repeat (first | refine Ops.nil ?_ | refine Ops.pure T rfl (by decide) rfl ?_ | refine Ops.store 2 rfl rfl rfl rfl rfl (T.sizeOk rfl) rfl (Nat.le_of_ble_eq_true rfl) rfl rfl ?_)
        refine Run.retCT T 2 (by rw [hCf]; exact Proofs.Tryz.func30) Proofs.Tryz.results30 rfl rfl rfl rfl rfl rfl rfl (hR _ _ _ ?_)
        exact ⟨rfl, none, ⟨b5, rfl⟩, TagAns.weak hcut rfl hans, fun x h => by cases h⟩
      | some x =>
        have hres2 : w = _ := hres
        subst hres2
        repeat (first | refine Ops.pure T rfl (by decide) rfl ?_)
        refine Ops.alloc rfl (by decide) (T.zeroOk rfl) rfl (fun b6 => ?_)
        repeat (first | refine Run.seq ?_ | refine Run.region ?_ | refine Ops.nil ?_ | refine Run.skip ?_ | refine Run.cond_f rfl ?_ | refine Ops.neqNil T rfl (by decide) rfl rfl rfl rfl rfl ?_ | refine Ops.pure T rfl (by decide) rfl ?_ | refine Ops.loadN 0 rfl (by decide) rfl rfl (T.aggOk rfl) (T.sizeOk rfl) rfl rfl ?_ | refine Ops.store 0 rfl rfl rfl rfl rfl (T.sizeOk rfl) rfl (Nat.le_of_ble_eq_true rfl) rfl rfl ?_)
        refine Ops.buildL bd56 rfl (by decide) rfl rfl ?_
        repeat (first | refine Ops.nil ?_ | refine Ops.pure T rfl (by decide) rfl ?_ | refine Ops.store 2 rfl rfl rfl rfl rfl (T.sizeOk rfl) rfl (Nat.le_of_ble_eq_true rfl) rfl rfl ?_)
        refine Run.retCT T 2 (by rw [hCf]; exact Proofs.Tryz.func30) Proofs.Tryz.results30 rfl rfl rfl rfl rfl rfl rfl (hR _ _ _ ?_)
        refine ⟨rfl, some (x.1, x.2, tagOr tag), rfl, TagAns.weak hcut rfl hans, fun y h => ?_⟩
        cases h
        obtain ⟨q1, q2, q3⟩ := hlen x rfl
        have q4 := tagOr_len tag
        refine ⟨q1, ?_, ?_, ?_⟩ <;> simp only at * <;> first | omega | (simp; omega)
  | some k =>
    obtain ⟨hlt, _, _⟩ := lx_split hk
    obtain ⟨hsp, hjoin⟩ := spl_last hk
    have hpos := List.length_pos_iff.2 (spl_pos 58 (s.take k))
    generalize hpre : spl 58 (s.take k) = pre at *
    have hle : (spl 58 s).length = pre.length + 1 := by rw [hsp]; simp
    rw [hle] at hS ⊢
    rw [hsp] at hS
    have hct := cutTag_lx hk
    repeat (first | refine Run.seq ?_ | refine Run.region ?_ | refine Ops.nil ?_ | refine Ops.gtr rfl (by decide) rfl rfl ?_ | refine Ops.pure T rfl (by decide) rfl ?_)
    rw [decide_eq_true (show (1 : Int) < ((pre.length + 1 : Nat) : Int) by omega)]
    repeat (first | refine Ops.sub rfl (by decide) rfl rfl (wI (by first | omega | (simp only [List.length_cons, List.length_nil] ; omega) | (simp; omega)) (by first | omega | (simp only [List.length_cons, List.length_nil] ; omega) | (simp; omega))) ?_ | refine Ops.pure T rfl (by decide) rfl ?_)
    have ej : (((pre.length + 1 : Nat) : Int) - 1).toNat = pre.length := by omega
    refine Ops.indexSl hS rfl (by decide) rfl rfl (T.undOk rfl) (T.sizeOk rfl) (by omega) (by simp; omega) ?_
    rintro b_ off_ x cs_ hx hr_ hA_
    obtain rfl : cs_ = [_] := hr_
    rw [ej] at hx
    obtain rfl : s.drop (k + 1) = x := by simpa using hx
    refine Ops.loadI rfl (by decide) rfl hA_ (T.aggOk rfl) ?_
    have htl : (s.drop (k + 1)).length ≤ s.length := by simp
    refine Ops.call ((name_zzContains (s.drop (k + 1)) 47 J3 (by omega))) rfl (by decide) Proofs.Tryz.call75 rfl ?_
    rintro _ J4 l4 rfl
    have ho4 := ho3.mono l4
    replace hS := hS.mono l4
    cases h47 : hasB 47 (s.drop (k + 1)) with
    | true =>
      rw [h47] at hct
      repeat (first | refine Run.seq ?_ | refine Run.region ?_ | refine Ops.nil ?_ | refine Run.skip ?_ | refine Run.cond_f rfl ?_ | refine Ops.neqStr rfl (by decide) rfl rfl ?_ | refine Ops.pure T rfl (by decide) rfl ?_ | refine Ops.load 0 rfl (by decide) rfl rfl (T.aggOk rfl) rfl ?_)
      have hcut : cutTag s = none := hct
      cases st with
      | true =>
        repeat (first | refine Run.seq ?_ | refine Run.region ?_ | refine Run.cond_t rfl ?_ | refine Ops.pure T rfl (by decide) rfl ?_)
        refine Ops.call ((name_checkTag J4 [] (by decide))) rfl (by decide) Proofs.Tryz.call77 rfl ?_
        rintro w J4 l4 hw
        obtain ⟨b3, rfl⟩ := ErrIs.bad (w := w) hw
        try unfold errV
        repeat (first | refine Run.seq ?_ | refine Run.region ?_ | refine Ops.nil ?_ | refine Run.cond_t rfl ?_ | refine Ops.neqNil T rfl (by decide) rfl rfl rfl rfl rfl ?_ | refine Ops.pure T rfl (by decide) rfl ?_)
        refine Ops.buildL bd56 rfl (by decide) rfl rfl ?_
        repeat (first | refine Ops.nil ?_ | refine Ops.pure T rfl (by decide) rfl ?_ | refine Ops.store 1 rfl rfl rfl rfl rfl (T.sizeOk rfl) rfl (Nat.le_of_ble_eq_true rfl) rfl rfl ?_)
        refine Run.retCT T 1 (by rw [hCf]; exact Proofs.Tryz.func30) Proofs.Tryz.results30 rfl rfl rfl rfl rfl rfl rfl (hR _ _ _ ?_)
        exact ⟨rfl, none, ⟨b3, rfl⟩, TagAns.strict hcut rfl, fun x h => by cases h⟩
      | false =>
        repeat (first | refine Run.seq ?_ | refine Run.region ?_ | refine Ops.nil ?_ | refine Run.skip ?_ | refine Run.cond_t rfl ?_ | refine Run.cond_f rfl ?_ | refine Ops.eqlStr rfl (by decide) rfl rfl ?_ | refine Ops.pure T rfl (by decide) rfl ?_ | refine Ops.load 0 rfl (by decide) rfl rfl (T.aggOk rfl) rfl ?_)
        have hbl : (s : Tx).length ≤ s.length := by first | (simp; done) | (simp; omega) | omega
        refine Ops.call ((name_NewRepository J4 (s) v ⟨false, ins, reg, tag⟩ (ho4) (by omega))) rfl (by decide) Proofs.Tryz.call28 rfl ?_
        rintro w J5 l5 ⟨a, hres, hans, hlen⟩
        cases a with
        | none =>
          obtain ⟨b5, rfl⟩ := hres
          unfold errV
          repeat (first | refine Ops.pure T rfl (by decide) rfl ?_)
          refine Ops.alloc rfl (by decide) (T.zeroOk rfl) rfl (fun b6 => ?_)
          try unfold errV
          repeat (first | refine Run.seq ?_ | refine Run.region ?_ | refine Ops.nil ?_ | refine Run.cond_t rfl ?_ | refine Ops.neqNil T rfl (by decide) rfl rfl rfl rfl rfl ?_ | refine Ops.pure T rfl (by decide) rfl ?_ | refine Ops.store 0 rfl rfl rfl rfl rfl (T.sizeOk rfl) rfl (Nat.le_of_ble_eq_true rfl) rfl rfl ?_)
          refine Ops.buildL bd56 rfl (by decide) rfl rfl ?_
          repeat (first | refine Ops.nil ?_ | refine Ops.pure T rfl (by decide) rfl ?_ | refine Ops.store 2 rfl rfl rfl rfl rfl (T.sizeOk rfl) rfl (Nat.le_of_ble_eq_true rfl) rfl rfl ?_)
          refine Run.retCT T 2 (by rw [hCf]; exact Proofs.Tryz.func30) Proofs.Tryz.results30 rfl rfl rfl rfl rfl rfl rfl (hR _ _ _ ?_)
          exact ⟨rfl, none, ⟨b5, rfl⟩, TagAns.weak hcut rfl hans, fun x h => by cases h⟩
        | some x =>
          have hres2 : w = _ := hres
          subst hres2
          repeat (first | refine Ops.pure T rfl (by decide) rfl ?_)
          refine Ops.alloc rfl (by decide) (T.zeroOk rfl) rfl (fun b6 => ?_)
          repeat (first | refine Run.seq ?_ | refine Run.region ?_ | refine Ops.nil ?_ | refine Run.skip ?_ | refine Run.cond_f rfl ?_ | refine Ops.neqNil T rfl (by decide) rfl rfl rfl rfl rfl ?_ | refine Ops.pure T rfl (by decide) rfl ?_ | refine Ops.loadN 0 rfl (by decide) rfl rfl (T.aggOk rfl) (T.sizeOk rfl) rfl rfl ?_ | refine Ops.store 0 rfl rfl rfl rfl rfl (T.sizeOk rfl) rfl (Nat.le_of_ble_eq_true rfl) rfl rfl ?_)
          refine Ops.buildL bd56 rfl (by decide) rfl rfl ?_
          repeat (first | refine Ops.nil ?_ | refine Ops.pure T rfl (by decide) rfl ?_ | refine Ops.store 2 rfl rfl rfl rfl rfl (T.sizeOk rfl) rfl (Nat.le_of_ble_eq_true rfl) rfl rfl ?_)
          refine Run.retCT T 2 (by rw [hCf]; exact Proofs.Tryz.func30) Proofs.Tryz.results30 rfl rfl rfl rfl rfl rfl rfl (hR _ _ _ ?_)
          refine ⟨rfl, some (x.1, x.2, tagOr tag), rfl, TagAns.weak hcut rfl hans, fun y h => ?_⟩
          cases h
          obtain ⟨q1, q2, q3⟩ := hlen x rfl
          have q4 := tagOr_len tag
          refine ⟨q1, ?_, ?_, ?_⟩ <;> simp only at * <;> first | omega | (simp; omega)
    | false =>
      rw [h47] at hct
      simp only [Bool.false_eq_true, if_false] at hct
      repeat (first | refine Run.seq ?_ | refine Run.region ?_ | refine Ops.nil ?_ | refine Run.cond_t rfl ?_ | refine Ops.sub rfl (by decide) rfl rfl (wI (by first | omega | (simp only [List.length_cons, List.length_nil] ; omega) | (simp; omega)) (by first | omega | (simp only [List.length_cons, List.length_nil] ; omega) | (simp; omega))) ?_ | refine Ops.pure T rfl (by decide) rfl ?_)
      refine Ops.sliceSl (l' := 0) (h' := pre.length) (kd := .i64) (kd' := .i64) hS rfl (by decide) rfl (.inr ⟨_, rfl, by show some (Value.int .i64 (((pre.length + 1 : Nat) : Int) - 1)) = _; congr 2; omega⟩) (.inl ⟨rfl, rfl⟩) (Nat.zero_le _) (by simp) (T.undOk rfl) (T.sizeOk rfl) ?_
      intro v' hS'
      have e2 : (((pre ++ [s.drop (k + 1)]).take pre.length).drop 0) = pre := by simp
      rw [e2] at hS'
      refine Ops.call ((strings_Join J4 pre [58] v' hS' (by omega) (by rw [hjoin]; simp; omega))) rfl (by decide) Proofs.Tryz.call76 rfl ?_
      rintro _ J5 l5 ⟨rfl, rfl⟩
      rw [hjoin]
      repeat (first | refine Run.seq ?_ | refine Run.region ?_ | refine Ops.nil ?_ | refine Ops.sub rfl (by decide) rfl rfl (wI (by first | omega | (simp only [List.length_cons, List.length_nil] ; omega) | (simp; omega)) (by first | omega | (simp only [List.length_cons, List.length_nil] ; omega) | (simp; omega))) ?_ | refine Ops.pure T rfl (by decide) rfl ?_)
      refine Ops.indexSl hS rfl (by decide) rfl rfl (T.undOk rfl) (T.sizeOk rfl) (by omega) (by simp; omega) ?_
      rintro b_ off_ x cs_ hx hr_ hA_
      obtain rfl : cs_ = [_] := hr_
      rw [ej] at hx
      obtain rfl : s.drop (k + 1) = x := by simpa using hx
      refine Ops.loadI rfl (by decide) rfl hA_ (T.aggOk rfl) ?_
      generalize hd : s.drop (k + 1) = t at *
      repeat (first | refine Run.seq ?_ | refine Run.region ?_ | refine Ops.nil ?_ | refine Ops.eqlStr rfl (by decide) rfl rfl ?_ | refine Ops.pure T rfl (by decide) rfl ?_)
      cases ht0 : decide (t = []) with
      | true =>
        have ht0' := of_decide_eq_true ht0
        repeat (first | refine Run.seq ?_ | refine Run.region ?_ | refine Run.cond_t rfl ?_)
        refine Ops.buildL bd56 rfl (by decide) rfl rfl ?_
        repeat (first | refine Ops.pure T rfl (by decide) rfl ?_)
        refine Ops.lit T rfl rfl rfl (by decide) rfl (by decide) (by decide) rfl rfl rfl rfl rfl (fun b3 => ?_)
        refine Ops.call ((name_newErrBadName _ _ _)) rfl (by decide) Proofs.Tryz.call44 rfl ?_
        rintro _ J6 l6 ⟨b4, rfl⟩
        repeat (first | refine Ops.nil ?_ | refine Ops.pure T rfl (by decide) rfl ?_ | refine Ops.store 2 rfl rfl rfl rfl rfl (T.sizeOk rfl) rfl (Nat.le_of_ble_eq_true rfl) rfl rfl ?_)
        refine Run.retCT T 2 (by rw [hCf]; exact Proofs.Tryz.func30) Proofs.Tryz.results30 rfl rfl rfl rfl rfl rfl rfl (hR _ _ _ ?_)
        exact ⟨rfl, none, ⟨b4, rfl⟩, TagAns.no hct (by rw [ht0']; decide), fun x h => by cases h⟩
      | false =>
        repeat (first | refine Run.seq ?_ | refine Run.region ?_ | refine Run.skip ?_ | refine Run.cond_f rfl ?_ | refine Ops.neqStr rfl (by decide) rfl rfl ?_ | refine Ops.pure T rfl (by decide) rfl ?_)
        rw [ht0]
        repeat (first | refine Run.seq ?_ | refine Run.region ?_ | refine Ops.nil ?_ | refine Run.cond_t rfl ?_ | refine Ops.not rfl (by decide) ?_ | refine Ops.pure T rfl (by decide) rfl ?_)
        refine Ops.call ((name_checkTag _ t (by omega))) rfl (by decide) Proofs.Tryz.call77 rfl ?_
        rintro w J6 l6 hw
        cases htg : tagGood t with
        | false =>
          rw [htg] at hw
          obtain ⟨b3, rfl⟩ := hw.bad
          try unfold errV
          repeat (first | refine Run.seq ?_ | refine Run.region ?_ | refine Ops.nil ?_ | refine Run.cond_t rfl ?_ | refine Ops.neqNil T rfl (by decide) rfl rfl rfl rfl rfl ?_ | refine Ops.pure T rfl (by decide) rfl ?_)
          refine Ops.buildL bd56 rfl (by decide) rfl rfl ?_
          repeat (first | refine Ops.nil ?_ | refine Ops.pure T rfl (by decide) rfl ?_ | refine Ops.store 1 rfl rfl rfl rfl rfl (T.sizeOk rfl) rfl (Nat.le_of_ble_eq_true rfl) rfl rfl ?_)
          refine Run.retCT T 1 (by rw [hCf]; exact Proofs.Tryz.func30) Proofs.Tryz.results30 rfl rfl rfl rfl rfl rfl rfl (hR _ _ _ ?_)
          exact ⟨rfl, none, ⟨b3, rfl⟩, TagAns.no hct htg, fun x h => by cases h⟩
        | true =>
          rw [htg] at hw
          obtain rfl := hw.good
          repeat (first | refine Run.seq ?_ | refine Run.region ?_ | refine Ops.nil ?_ | refine Run.skip ?_ | refine Run.cond_f rfl ?_ | refine Ops.eqlStr rfl (by decide) rfl rfl ?_ | refine Ops.neqNil T rfl (by decide) rfl rfl rfl rfl rfl ?_ | refine Ops.pure T rfl (by decide) rfl ?_)
          rw [ht0]
          repeat (first | refine Run.seq ?_ | refine Run.region ?_ | refine Run.skip ?_ | refine Run.cond_f rfl ?_ | refine Ops.pure T rfl (by decide) rfl ?_)
          have hbl : (s.take k : Tx).length ≤ s.length := by first | (simp; done) | (simp; omega) | omega
          refine Ops.call ((name_NewRepository J6 (s.take k) v ⟨st, ins, reg, tag⟩ (ho4.mono l6) (by omega))) rfl (by decide) Proofs.Tryz.call28 rfl ?_
          rintro w J5 l5 ⟨a, hres, hans, hlen⟩
          cases a with
          | none =>
            obtain ⟨b5, rfl⟩ := hres
            unfold errV
            repeat (first | refine Ops.pure T rfl (by decide) rfl ?_)
            refine Ops.alloc rfl (by decide) (T.zeroOk rfl) rfl (fun b6 => ?_)
            try unfold errV
            repeat (first | refine Run.seq ?_ | refine Run.region ?_ | refine Ops.nil ?_ | refine Run.cond_t rfl ?_ | refine Ops.neqNil T rfl (by decide) rfl rfl rfl rfl rfl ?_ | refine Ops.pure T rfl (by decide) rfl ?_ | refine Ops.store 0 rfl rfl rfl rfl rfl (T.sizeOk rfl) rfl (Nat.le_of_ble_eq_true rfl) rfl rfl ?_)
            refine Ops.buildL bd56 rfl (by decide) rfl rfl ?_
            repeat (first | refine Ops.nil ?_ | refine Ops.pure T rfl (by decide) rfl ?_ | refine Ops.store 2 rfl rfl rfl rfl rfl (T.sizeOk rfl) rfl (Nat.le_of_ble_eq_true rfl) rfl rfl ?_)
            refine Run.retCT T 2 (by rw [hCf]; exact Proofs.Tryz.func30) Proofs.Tryz.results30 rfl rfl rfl rfl rfl rfl rfl (hR _ _ _ ?_)
            exact ⟨rfl, none, ⟨b5, rfl⟩, TagAns.of hct htg hans, fun x h => by cases h⟩
          | some x =>
            have hres2 : w = _ := hres
            subst hres2
            repeat (first | refine Ops.pure T rfl (by decide) rfl ?_)
            refine Ops.alloc rfl (by decide) (T.zeroOk rfl) rfl (fun b6 => ?_)
            repeat (first | refine Run.seq ?_ | refine Run.region ?_ | refine Ops.nil ?_ | refine Run.skip ?_ | refine Run.cond_f rfl ?_ | refine Ops.neqNil T rfl (by decide) rfl rfl rfl rfl rfl ?_ | refine Ops.pure T rfl (by decide) rfl ?_ | refine Ops.loadN 0 rfl (by decide) rfl rfl (T.aggOk rfl) (T.sizeOk rfl) rfl rfl ?_ | refine Ops.store 0 rfl rfl rfl rfl rfl (T.sizeOk rfl) rfl (Nat.le_of_ble_eq_true rfl) rfl rfl ?_)
            refine Ops.buildL bd56 rfl (by decide) rfl rfl ?_
            repeat (first | refine Ops.nil ?_ | refine Ops.pure T rfl (by decide) rfl ?_ | refine Ops.store 2 rfl rfl rfl rfl rfl (T.sizeOk rfl) rfl (Nat.le_of_ble_eq_true rfl) rfl rfl ?_)
            refine Run.retCT T 2 (by rw [hCf]; exact Proofs.Tryz.func30) Proofs.Tryz.results30 rfl rfl rfl rfl rfl rfl rfl (hR _ _ _ ?_)
            refine ⟨rfl, some (x.1, x.2, t), rfl, TagAns.of hct htg hans, fun y h => ?_⟩
            cases h
            obtain ⟨q1, q2, q3⟩ := hlen x rfl
            have q4 := tagOr_len tag
            refine ⟨q1, ?_, ?_, ?_⟩ <;> simp only at * <;> first | omega | (simp; omega)
end Go.V
/-
  References: a tag, or else a digest; texts with a scheme are none. Plain Lean.
-/
namespace Go.V
set_option linter.unusedVariables false
set_option linter.unusedSimpArgs false
set_option maxRecDepth 10000
def RefAns (o : NOpt) (s : Tx) (a : Option (Bool × Tx × Tx × Tx)) : Prop := ∀ k r p t ok, sParts o 0 s = (k, r, p, t, ok, false) → match a with
  | some x => ok = true ∧ k = (if x.1 then 4 else 3) ∧ x.2.1 = r ∧ fullP r x.2.2.1 = p ∧ x.2.2.2 = t
  | none => ok = false
theorem parts0 {o : NOpt} {s : Tx} {k : Int} {r p t : Tx} {ok : Bool} (h : sParts o 0 s = (k, r, p, t, ok, false)) :
    (k = 3 ∧ ok = true ∧ sTag o s = (r, p, t, true, false)) ∨ (k = 4 ∧ (∃ r' p' t', sTag o s = (r', p', t', false, false)) ∧ sDig o s = (r, p, t, ok, false)) := by
  unfold sParts at h
  simp only [show ¬ (0 : Int) = 1 by decide, show ¬ (0 : Int) = 2 by decide, show ¬ (0 : Int) = 3 by decide, show ¬ (0 : Int) = 4 by decide, if_false] at h
  split at h
  · rename_i hc
    simp only [Bool.and_eq_true, Bool.not_eq_true'] at hc
    simp only [Prod.mk.injEq] at h
    obtain ⟨h0, h1, h2, h3, h4, h5⟩ := h
    exact .inr ⟨h0.symm, ⟨_, _, _, Prod.ext rfl (Prod.ext rfl (Prod.ext rfl (Prod.ext hc.1 hc.2)))⟩, Prod.ext h1 (Prod.ext h2 (Prod.ext h3 (Prod.ext h4 h5)))⟩
  · rename_i hc
    simp only [Prod.mk.injEq] at h
    obtain ⟨h0, h1, h2, h3, h4, h5⟩ := h
    have hok : (sTag o s).2.2.2.1 = true := by
      cases hh : (sTag o s).2.2.2.1 with
      | true => rfl
      | false => rw [hh, h5] at hc; simp at hc
    exact .inl ⟨h0.symm, by rw [← h4, hok], Prod.ext h1 (Prod.ext h2 (Prod.ext h3 (Prod.ext hok h5)))⟩
theorem RefAns.tag {o : NOpt} {s : Tx} {x : Tx × Tx × Tx} (ht : TagAns o s (some x)) : RefAns o s (some (false, x)) := by
  intro k r p t ok h
  rcases parts0 h with ⟨h1, h2, h3⟩ | ⟨h1, ⟨r', p', t', h2⟩, h3⟩
  · have := ht _ _ _ _ h3
    exact ⟨h2, h1, this.2⟩
  · have := ht _ _ _ _ h2
    exact absurd this.1 (by decide)
theorem RefAns.dig {o : NOpt} {s : Tx} {x : Tx × Tx × Tx} (ht : TagAns o s none) (hd : DigAns o s (some x)) : RefAns o s (some (true, x)) := by
  intro k r p t ok h
  rcases parts0 h with ⟨h1, h2, h3⟩ | ⟨h1, _, h3⟩
  · have : true = false := ht _ _ _ _ h3
    cases this
  · have := hd _ _ _ _ h3
    exact ⟨this.1, h1, this.2⟩
theorem RefAns.no {o : NOpt} {s : Tx} (ht : TagAns o s none) (hd : DigAns o s none) : RefAns o s none := by
  intro k r p t ok h
  rcases parts0 h with ⟨h1, h2, h3⟩ | ⟨h1, _, h3⟩
  · have : true = false := ht _ _ _ _ h3
    cases this
  · exact hd _ _ _ _ h3
/-- a scheme ahead -/
def hasPre (s : Tx) : Prop := ∃ h y, (h = [104, 116, 116, 112, 58] ∨ h = [104, 116, 116, 112, 115, 58]) ∧ s = h ++ 47 :: 47 :: y
theorem hasPre_cut {s : Tx} (h : hasPre s) : (hostCut s).1 = [104, 116, 116, 112, 58] ∨ (hostCut s).1 = [104, 116, 116, 112, 115, 58] := by
  obtain ⟨h0, y, h1 | h1, rfl⟩ := h
  · subst h1
    have : ix 47 ([104, 116, 116, 112, 58] ++ 47 :: 47 :: y) = some 5 := ix_app (x := [104, 116, 116, 112, 58]) (by decide)
    exact .inl (by unfold hostCut; rw [this]; rfl)
  · subst h1
    have : ix 47 ([104, 116, 116, 112, 115, 58] ++ 47 :: 47 :: y) = some 6 := ix_app (x := [104, 116, 116, 112, 115, 58]) (by decide)
    exact .inr (by unfold hostCut; rw [this]; rfl)
theorem hasPre_open {s r p : Tx} {b ok : Bool} {reg : Tx} (h : hasPre s) : sRepo b reg s ≠ (r, p, ok, false) := by
  intro hs
  have hop : (sReg false reg (hostCut s).1).2.2 = true := by
    rcases hasPre_cut h with e | e <;> (rw [e]; unfold sReg; rfl)
  unfold sRepo at hs
  simp only at hs
  split at hs
  · simp [hop] at hs
  · split at hs
    · simp [hop] at hs
    · simp [hop] at hs
theorem pre_left {h x y t : Tx} {c : UInt8} (he : h ++ 47 :: 47 :: y = x ++ c :: t) (hx : h.length + 2 ≤ x.length) : ∃ z, x = h ++ 47 :: 47 :: z := by
  have h1 : (h ++ 47 :: 47 :: y).take (h.length + 2) = h ++ [47, 47] := by
    rw [List.take_append, List.take_of_length_le (by omega)]
    simp
  rw [he, List.take_append_of_le_length (by omega)] at h1
  refine ⟨x.drop (h.length + 2), ?_⟩
  conv => lhs; rw [← List.take_append_drop (h.length + 2) x, h1]
  simp
theorem hasPre_tag {x t : Tx} (h : hasPre (x ++ 58 :: t)) (ht : hasB 47 t = false) : hasPre x := by
  obtain ⟨h0, y, h1, he⟩ := h
  rcases Nat.lt_or_ge x.length (h0.length + 2) with hl | hl
  · exfalso
    have hge : x.length < h0.length := by
      rcases Nat.lt_or_ge x.length h0.length with h | h
      · exact h
      · exfalso
        have hx : (x ++ 58 :: t)[x.length]? = some 58 := by simp
        rw [he, List.getElem?_append_right h] at hx
        have : x.length - h0.length = 0 ∨ x.length - h0.length = 1 := by omega
        rcases this with e | e <;> (rw [e] at hx; revert hx; simp)
    have h2 : (x ++ 58 :: t).drop (x.length + 1) = t := by simp
    have h3 : (h0 ++ 47 :: 47 :: y).drop (x.length + 1) = t := by rw [← he]; exact h2
    have h4 : (47 : UInt8) ∈ (h0 ++ 47 :: 47 :: y).drop (x.length + 1) := by
      have e : h0 ++ 47 :: 47 :: y = (h0 ++ [47]) ++ 47 :: y := by simp
      rw [e, List.drop_append]
      refine List.mem_append_right _ ?_
      have : x.length + 1 - (h0 ++ [47]).length = 0 := by simp; omega
      rw [this]
      exact List.mem_cons_self
    rw [h3] at h4
    exact hasB_false.1 ht _ h4 rfl
  · obtain ⟨z, hz⟩ := pre_left he.symm hl
    exact ⟨h0, z, h1, hz⟩
theorem hasPre_at {x t : Tx} (h : hasPre (x ++ 64 :: t)) : hasPre x := by
  obtain ⟨h0, y, h1, he⟩ := h
  have hl0 : h0.length = 5 ∨ h0.length = 6 := by rcases h1 with rfl | rfl <;> decide
  rcases Nat.lt_or_ge x.length (h0.length + 2) with hl | hl
  · exfalso
    have hx : (x ++ 64 :: t)[x.length]? = some 64 := by simp
    rw [he] at hx
    have : ∀ b ∈ h0 ++ [47, 47], b ≠ 64 := by rcases h1 with rfl | rfl <;> decide
    have e : h0 ++ 47 :: 47 :: y = (h0 ++ [47, 47]) ++ y := by simp
    rw [e, List.getElem?_append_left (by simp; omega)] at hx
    exact this 64 (List.mem_of_getElem? hx) rfl
  · obtain ⟨z, hz⟩ := pre_left he.symm hl
    exact ⟨h0, z, h1, hz⟩
theorem hasPre_sTag {o : NOpt} {s r p t : Tx} (h : hasPre s) : sTag o s ≠ (r, p, t, true, false) := by
  intro hs
  unfold sTag at hs
  split at hs
  · rename_i x y hc
    split at hs
    · simp only [Prod.mk.injEq] at hs
      obtain ⟨h1, h2, _, h4, h5⟩ := hs
      obtain ⟨he, _, h47⟩ := cutTag_eq hc
      rw [he] at h
      exact hasPre_open (hasPre_tag h h47) (Prod.ext h1 (Prod.ext h2 (Prod.ext h4 h5)))
    · simp at hs
  · split at hs
    · simp at hs
    · simp only [Prod.mk.injEq] at hs
      obtain ⟨h1, h2, _, h4, h5⟩ := hs
      exact hasPre_open h (Prod.ext h1 (Prod.ext h2 (Prod.ext h4 h5)))
theorem hasPre_off {s : Tx} (h : hasPre s) : hasPre (offTag s) := by
  unfold offTag
  split
  · rename_i x y hc
    split
    · obtain ⟨he, _, h47⟩ := cutTag_eq hc
      rw [he] at h
      exact hasPre_tag h h47
    · exact h
  · exact h
theorem hasPre_sDig {o : NOpt} {s r p t : Tx} (h : hasPre s) : sDig o s ≠ (r, p, t, true, false) := by
  intro hs
  unfold sDig at hs
  split at hs
  · simp at hs
  · rename_i k hk
    split at hs
    · split at hs
      · simp only [Prod.mk.injEq, Bool.or_eq_false_iff] at hs
        obtain ⟨h1, h2, _, h4, h5, _⟩ := hs
        obtain ⟨he, _⟩ := ix_split hk
        have h' := h
        rw [he] at h'
        exact hasPre_open (hasPre_off (hasPre_at h')) (Prod.ext h1 (Prod.ext h2 (Prod.ext h4 h5)))
      · simp at hs
    · simp at hs
theorem starts_pre {s : Tx} (h : starts [104, 116, 116, 112, 58, 47, 47] s = true ∨ starts [104, 116, 116, 112, 115, 58, 47, 47] s = true) : hasPre s := by
  rcases h with h | h <;> simp only [starts, Bool.and_eq_true, decide_eq_true_eq] at h
  · refine ⟨[104, 116, 116, 112, 58], s.drop 7, .inl rfl, ?_⟩
    conv => lhs; rw [← List.take_append_drop 7 s]
    rw [show s.take 7 = _ from h.2]; rfl
  · refine ⟨[104, 116, 116, 112, 115, 58], s.drop 8, .inr rfl, ?_⟩
    conv => lhs; rw [← List.take_append_drop 8 s]
    rw [show s.take 8 = _ from h.2]; rfl
theorem RefAns.http {o : NOpt} {s : Tx} (h : hasPre s) : RefAns o s none := by
  intro k r p t ok hs
  rcases parts0 hs with ⟨_, _, h3⟩ | ⟨_, _, h3⟩
  · exact absurd h3 (hasPre_sTag h)
  · cases ok with
    | false => rfl
    | true => exact absurd h3 (hasPre_sDig h)
theorem DigAns.other {o : NOpt} {s : Tx} {k : Nat} {a : Option (Tx × Tx × Tx)} (h1 : ix 64 s = some k) (h2 : lx 64 s = some k) (h3 : digGood (s.drop (k + 1)) = false) (h4 : otherDig (s.drop (k + 1)) = true) : DigAns o s a := by
  intro r p t ok hs
  unfold sDig at hs
  rw [h1] at hs
  simp [h2, h3, h4] at hs
theorem sDig_yes {o : NOpt} {s r p t : Tx} (h : sDig o s = (r, p, t, true, false)) : ∃ k, ix 64 s = some k ∧ lx 64 s = some k ∧ digGood (s.drop (k + 1)) = true := by
  unfold sDig at h
  split at h
  · simp at h
  · rename_i k hk
    split at h
    · rename_i hl
      split at h
      · rename_i hd
        exact ⟨k, hk, hl, hd⟩
      · simp at h
    · simp at h
end Go.V
