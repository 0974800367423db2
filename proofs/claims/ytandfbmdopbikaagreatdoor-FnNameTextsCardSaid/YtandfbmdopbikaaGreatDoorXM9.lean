import Derived.Test.YtandfbmdopbikaaGreatDoorXM8
import Derived.Test.YtandfbmdopbikaaGreatDoorXM3
namespace Go.V
open Go.Proofs.Tryz
open Go.RowKit
set_option linter.unusedVariables false
set_option linter.unusedSimpArgs false
set_option maxRecDepth 10000
attribute [local irreducible] Run Ops
def repRes (ins : Bool) (a : Option (Tx × Tx)) (w : Value) : Prop := match a with
  | some x => w = .tuple #[.agg #[.bool ins, str x.1, str x.2], .nilIface]
  | none => ∃ b, w = .tuple #[.agg #[.bool false, str [], str []], errV b]
theorem RegAns.ex (b : Bool) (reg s : Tx) : RegAns b reg s (if (sReg b reg s).2.1 then some (sReg b reg s).1 else none) := by
  intro r ok h
  rw [h]
theorem RepoAns.nil (b : Bool) (reg : Tx) : RepoAns b reg [] none := by
  intro r p ok h
  simp [sRepo, show hostCut [] = ([], []) from rfl, show pathGood [] = false by decide] at h
  exact h.2.2.1
theorem RepoAns.bad {b : Bool} {reg s : Tx} (hp : pathGood (hostCut s).2 = false) : RepoAns b reg s none := by
  have := RepoAns.of (b := b) (reg := reg) (s := s) (RegAns.ex b reg (hostCut s).1)
  rw [hp] at this
  exact this
theorem anyR {s cs : Tx} (hc : ascii cs) : ((runesW s 0).any fun r => inR r cs) = cs.any fun c => hasB c s := by
  rw [← any_eq hc]
  rw [Bool.eq_iff_iff, List.any_eq_true, decide_eq_true_eq]
  constructor
  · rintro ⟨r, h1, h2⟩
    exact ⟨r, h1, of_decide_eq_true h2⟩
  · rintro ⟨r, h1, h2⟩
    exact ⟨r, h1, decide_eq_true h2⟩
theorem RepoAns.of2 {b : Bool} {reg s h p : Tx} {a : Option Tx} (hcut : hostCut s = (h, p)) (hans : RegAns b reg h a) (hpg : pathGood p = true) :
    (a = none → RepoAns b reg s none) ∧ (∀ r, a = some r → (implNs r p && b) = true → RepoAns b reg s none) ∧ (∀ r, a = some r → (implNs r p && b) = false → RepoAns b reg s (some (r, p))) := by
  have e1 : (hostCut s).1 = h := by rw [hcut]
  have e2 : (hostCut s).2 = p := by rw [hcut]
  have := RepoAns.of (s := s) (a := a) (by rw [e1]; exact hans)
  simp only [e2, hpg, if_true] at this
  refine ⟨?_, ?_, ?_⟩
  · rintro rfl; exact this
  · rintro r rfl h; simp only [h, if_true] at this; exact this
  · rintro r rfl h; simp only [h, Bool.false_eq_true, if_false] at this; exact this
set_option maxHeartbeats 8000000 in
theorem name_NewRepository (I : Imm) (s : Tx) (v : Value) (o : NOpt) (ho : OptsAre I v o) (hs : s.length ≤ 1099511627776) : Pure prog 23 [str s, v] I fun w J =>
    ∃ a, repRes o.ins a w ∧ RepoAns o.strict o.reg s a ∧ ∀ x, a = some x → x.1 ≠ [] ∧ x.1.length ≤ s.length + o.reg.length + 30 ∧ x.2.length ≤ s.length := by
  obtain ⟨st, ins, reg, tag⟩ := o
  refine Spec.enter 72 [(0, _), (1, _)] func23 rfl ntmps23 (by simp) rfl ?_
  intro C hCf hR hCI
  repeat (first | refine Run.seq ?_ | refine Run.region ?_)
  refine Ops.alloc rfl (by decide) (T.zeroOk rfl) rfl (fun b => ?_)
  repeat (first | refine Run.seq ?_ | refine Run.region ?_ | refine Ops.nil ?_ | refine Ops.pure T rfl (by decide) rfl ?_)
  refine Ops.call ((makeOptions_are I v _ ho)) rfl (by decide) call57 rfl ?_
  rintro _ J1 l1 rfl
  refine Ops.alloc rfl (by decide) (T.zeroOk rfl) rfl (fun b2 => ?_)
  repeat (first | refine Run.seq ?_ | refine Run.region ?_ | refine Ops.nil ?_ | refine Ops.eql rfl (by decide) rfl rfl ?_ | refine Ops.pure T rfl (by decide) rfl ?_ | refine Ops.lenS T rfl (by decide) rfl rfl ?_ | refine Ops.store 0 rfl rfl rfl rfl rfl (T.sizeOk rfl) rfl (Nat.le_of_ble_eq_true rfl) rfl rfl ?_)
  cases h0 : decide ((s.length : Int) = 0) with
  | true =>
    repeat (first | refine Run.seq ?_ | refine Run.region ?_ | refine Run.cond_t rfl ?_)
    refine Ops.buildL bd57 rfl (by decide) rfl rfl ?_
    refine Ops.call ((name_newErrBadName J1 _ _)) rfl (by decide) call58 rfl ?_
    rintro _ J2 l2 ⟨b3, rfl⟩
    repeat (first | refine Ops.nil ?_ | refine Ops.pure T rfl (by decide) rfl ?_ | refine Ops.store 1 rfl rfl rfl rfl rfl (T.sizeOk rfl) rfl (Nat.le_of_ble_eq_true rfl) rfl rfl ?_)
    refine Run.retCT T 1 (by rw [hCf]; exact func23) results23 rfl rfl rfl rfl rfl rfl rfl (hR _ _ _ ?_)
    have e : s = [] := List.eq_nil_of_length_eq_zero (by have := of_decide_eq_true h0; omega)
    subst e
    exact ⟨rfl, none, ⟨b3, rfl⟩, RepoAns.nil _ _, fun r h => by cases h⟩
  | false =>
  repeat (first | refine Run.seq ?_ | refine Run.region ?_ | refine Ops.nil ?_ | refine Run.skip ?_ | refine Run.cond_f rfl ?_ | refine Ops.pure T rfl (by decide) rfl ?_)
  refine Ops.call ((name_zzSplit2 J1 s 47 hs)) rfl (by decide) call62 rfl ?_
  rintro w J2 l2 hS
  have ho2 := ho.mono (l1.trans l2)
  cases hk : ix 47 s with
  | none =>
    rw [show cut2 47 s = [s] by simp [cut2, hk]] at hS
    have hcut : hostCut s = ([], s) := by simp [hostCut, hk]
    obtain ⟨A, c, e⟩ := hS.isSl
    subst e
    repeat (first | refine Run.seq ?_ | refine Run.region ?_ | refine Ops.nil ?_ | refine Ops.pure T rfl (by decide) rfl ?_)
    refine Ops.indexSl hS rfl (by decide) rfl rfl (T.undOk rfl) (T.sizeOk rfl) (by first | omega | (simp only [List.length_cons, List.length_nil] ; omega) | (simp; omega)) (by first | omega | (simp only [List.length_cons, List.length_nil] ; omega) | (simp; omega)) ?_
    rintro b_ off_ x cs_ hx hr_ hA_
    obtain rfl : cs_ = [_] := hr_
    refine Ops.loadI rfl (by decide) rfl hA_ (T.aggOk rfl) ?_
    obtain rfl : s = x := by simpa using hx
    repeat (first | refine Run.seq ?_ | refine Run.region ?_ | refine Ops.nil ?_ | refine Run.skip ?_ | refine Run.cond_f rfl ?_ | refine Ops.not rfl (by decide) ?_ | refine Ops.notU rfl (by decide) ?_ | refine Ops.eql rfl (by decide) rfl rfl ?_ | refine Ops.pure T rfl (by decide) rfl ?_)
    have hl1 : (([] : Tx)).length ≤ s.length := by first | (simp; done) | (simp; omega) | omega
    have hl2 : (s).length ≤ s.length := by first | (simp; done) | (simp; omega) | omega
    refine Ops.call ((name_checkRepository J2 (s) (by omega))) rfl (by decide) call64 rfl ?_
    rintro w J3 l3 hw
    cases hpg : pathGood (s) with
    | false =>
      rw [hpg] at hw
      obtain ⟨b3, rfl⟩ := hw.bad
      unfold errV
      repeat (first | refine Run.seq ?_ | refine Run.region ?_ | refine Ops.nil ?_ | refine Run.cond_t rfl ?_ | refine Ops.neqNil T rfl (by decide) rfl rfl rfl rfl rfl ?_ | refine Ops.pure T rfl (by decide) rfl ?_)
      refine Ops.buildL bd57 rfl (by decide) rfl rfl ?_
      repeat (first | refine Ops.nil ?_ | refine Ops.pure T rfl (by decide) rfl ?_ | refine Ops.store 1 rfl rfl rfl rfl rfl (T.sizeOk rfl) rfl (Nat.le_of_ble_eq_true rfl) rfl rfl ?_)
      refine Run.retCT T 1 (by rw [hCf]; exact func23) results23 rfl rfl rfl rfl rfl rfl rfl (hR _ _ _ ?_)
      exact ⟨rfl, none, ⟨b3, rfl⟩, RepoAns.bad (by rw [hcut]; exact hpg), fun x h => by cases h⟩
    | true =>
      rw [hpg] at hw
      obtain rfl := hw.good
      repeat (first | refine Run.seq ?_ | refine Run.region ?_ | refine Ops.nil ?_ | refine Run.skip ?_ | refine Run.cond_f rfl ?_ | refine Ops.neqNil T rfl (by decide) rfl rfl rfl rfl rfl ?_ | refine Ops.pure T rfl (by decide) rfl ?_)
      refine Ops.call ((name_NewRegistry J3 (([] : Tx)) v ⟨st, ins, reg, tag⟩ (ho2.mono l3) (by omega))) rfl (by decide) call19 rfl ?_
      rintro w J4 l4 ⟨a, hres, hans, hlen⟩
      cases a with
      | none =>
        obtain ⟨b3, rfl⟩ := hres
        unfold errV
        repeat (first | refine Ops.pure T rfl (by decide) rfl ?_)
        refine Ops.alloc rfl (by decide) (T.zeroOk rfl) rfl (fun b4 => ?_)
        repeat (first | refine Run.seq ?_ | refine Run.region ?_ | refine Ops.nil ?_ | refine Run.cond_t rfl ?_ | refine Ops.neqNil T rfl (by decide) rfl rfl rfl rfl rfl ?_ | refine Ops.pure T rfl (by decide) rfl ?_ | refine Ops.store 0 rfl rfl rfl rfl rfl (T.sizeOk rfl) rfl (Nat.le_of_ble_eq_true rfl) rfl rfl ?_)
        refine Ops.buildL bd57 rfl (by decide) rfl rfl ?_
        repeat (first | refine Ops.nil ?_ | refine Ops.pure T rfl (by decide) rfl ?_ | refine Ops.store 2 rfl rfl rfl rfl rfl (T.sizeOk rfl) rfl (Nat.le_of_ble_eq_true rfl) rfl rfl ?_)
        refine Run.retCT T 2 (by rw [hCf]; exact func23) results23 rfl rfl rfl rfl rfl rfl rfl (hR _ _ _ ?_)
        exact ⟨rfl, none, ⟨b3, rfl⟩, (RepoAns.of2 hcut hans hpg).1 rfl, fun x h => by cases h⟩
      | some r =>
        have hres2 : w = _ := hres
        subst hres2
        repeat (first | refine Ops.pure T rfl (by decide) rfl ?_)
        refine Ops.alloc rfl (by decide) (T.zeroOk rfl) rfl (fun b4 => ?_)
        repeat (first | refine Run.seq ?_ | refine Run.region ?_ | refine Ops.nil ?_ | refine Run.skip ?_ | refine Run.cond_f rfl ?_ | refine Ops.neqNil T rfl (by decide) rfl rfl rfl rfl rfl ?_ | refine Ops.pure T rfl (by decide) rfl ?_ | refine Ops.loadN 0 rfl (by decide) rfl rfl (T.aggOk rfl) (T.sizeOk rfl) rfl rfl ?_ | refine Ops.store 0 rfl rfl rfl rfl rfl (T.sizeOk rfl) rfl (Nat.le_of_ble_eq_true rfl) rfl rfl ?_)
        refine Ops.call ((name_hasImplicit J4 (s) r ins (by omega))) rfl (by decide) call65 rfl ?_
        rintro _ J5 l5 rfl
        cases himp : implNs r (s) with
        | false =>
          cases st with
          | true =>
            repeat (first | refine Run.seq ?_ | refine Run.region ?_ | refine Ops.nil ?_ | refine Run.skip ?_ | refine Run.cond_f rfl ?_ | refine Ops.not rfl (by decide) ?_ | refine Ops.pure T rfl (by decide) rfl ?_ | refine Ops.loadN 0 rfl (by decide) rfl rfl (T.aggOk rfl) (T.sizeOk rfl) rfl rfl ?_)
            refine Ops.buildL bd57 rfl (by decide) rfl rfl ?_
            repeat (first | refine Ops.nil ?_ | refine Ops.pure T rfl (by decide) rfl ?_ | refine Ops.store 2 rfl rfl rfl rfl rfl (T.sizeOk rfl) rfl (Nat.le_of_ble_eq_true rfl) rfl rfl ?_)
            refine Run.retCT T 2 (by rw [hCf]; exact func23) results23 rfl rfl rfl rfl rfl rfl rfl (hR _ _ _ ?_)
            refine ⟨rfl, some (r, s), rfl, (RepoAns.of2 hcut hans hpg).2.2 r rfl (by rw [himp]; rfl), fun x h => ?_⟩
            cases h
            exact ⟨(hlen r rfl).1, by have := (hlen r rfl).2; have := hl1; simp only at *; omega, hl2⟩
          | false =>
            repeat (first | refine Run.seq ?_ | refine Run.region ?_ | refine Ops.nil ?_ | refine Run.skip ?_ | refine Run.cond_f rfl ?_ | refine Ops.not rfl (by decide) ?_ | refine Ops.pure T rfl (by decide) rfl ?_ | refine Ops.loadN 0 rfl (by decide) rfl rfl (T.aggOk rfl) (T.sizeOk rfl) rfl rfl ?_)
            refine Ops.buildL bd57 rfl (by decide) rfl rfl ?_
            repeat (first | refine Ops.nil ?_ | refine Ops.pure T rfl (by decide) rfl ?_ | refine Ops.store 2 rfl rfl rfl rfl rfl (T.sizeOk rfl) rfl (Nat.le_of_ble_eq_true rfl) rfl rfl ?_)
            refine Run.retCT T 2 (by rw [hCf]; exact func23) results23 rfl rfl rfl rfl rfl rfl rfl (hR _ _ _ ?_)
            refine ⟨rfl, some (r, s), rfl, (RepoAns.of2 hcut hans hpg).2.2 r rfl (by rw [himp]; rfl), fun x h => ?_⟩
            cases h
            exact ⟨(hlen r rfl).1, by have := (hlen r rfl).2; have := hl1; simp only at *; omega, hl2⟩
        | true =>
          cases st with
          | false =>
            repeat (first | refine Run.seq ?_ | refine Run.region ?_ | refine Ops.nil ?_ | refine Run.skip ?_ | refine Run.cond_f rfl ?_ | refine Ops.pure T rfl (by decide) rfl ?_ | refine Ops.load 1 rfl (by decide) rfl rfl (T.aggOk rfl) rfl ?_ | refine Ops.loadN 0 rfl (by decide) rfl rfl (T.aggOk rfl) (T.sizeOk rfl) rfl rfl ?_)
            refine Ops.buildL bd57 rfl (by decide) rfl rfl ?_
            repeat (first | refine Ops.nil ?_ | refine Ops.pure T rfl (by decide) rfl ?_ | refine Ops.store 2 rfl rfl rfl rfl rfl (T.sizeOk rfl) rfl (Nat.le_of_ble_eq_true rfl) rfl rfl ?_)
            refine Run.retCT T 2 (by rw [hCf]; exact func23) results23 rfl rfl rfl rfl rfl rfl rfl (hR _ _ _ ?_)
            refine ⟨rfl, some (r, s), rfl, (RepoAns.of2 hcut hans hpg).2.2 r rfl (by rw [himp]; rfl), fun x h => ?_⟩
            cases h
            exact ⟨(hlen r rfl).1, by have := (hlen r rfl).2; have := hl1; simp only at *; omega, hl2⟩
          | true =>
            repeat (first | refine Run.seq ?_ | refine Run.region ?_ | refine Ops.nil ?_ | refine Run.cond_t rfl ?_ | refine Ops.pure T rfl (by decide) rfl ?_ | refine Ops.load 1 rfl (by decide) rfl rfl (T.aggOk rfl) rfl ?_)
            refine Ops.buildL bd57 rfl (by decide) rfl rfl ?_
            refine Ops.call ((name_newErrBadName J5 _ _)) rfl (by decide) call58 rfl ?_
            rintro _ J6 l6 ⟨b5, rfl⟩
            repeat (first | refine Ops.nil ?_ | refine Ops.pure T rfl (by decide) rfl ?_ | refine Ops.store 2 rfl rfl rfl rfl rfl (T.sizeOk rfl) rfl (Nat.le_of_ble_eq_true rfl) rfl rfl ?_)
            refine Run.retCT T 2 (by rw [hCf]; exact func23) results23 rfl rfl rfl rfl rfl rfl rfl (hR _ _ _ ?_)
            exact ⟨rfl, none, ⟨b5, rfl⟩, (RepoAns.of2 hcut hans hpg).2.1 r rfl (by rw [himp]; rfl), fun x h => by cases h⟩
  | some k =>
    rw [show cut2 47 s = [s.take k, s.drop (k + 1)] by simp [cut2, hk]] at hS
    have hlt := ix_lt hk
    have hcut0 : hostCut s = if hosted (s.take k) then (s.take k, s.drop (k + 1)) else ([], s) := by simp [hostCut, hk]
    obtain ⟨A, c, e⟩ := hS.isSl
    subst e
    repeat (first | refine Run.seq ?_ | refine Run.region ?_ | refine Ops.nil ?_ | refine Ops.pure T rfl (by decide) rfl ?_)
    refine Ops.indexSl hS rfl (by decide) rfl rfl (T.undOk rfl) (T.sizeOk rfl) (by first | omega | (simp only [List.length_cons, List.length_nil] ; omega) | (simp; omega)) (by first | omega | (simp only [List.length_cons, List.length_nil] ; omega) | (simp; omega)) ?_
    rintro b_ off_ x cs_ hx hr_ hA_
    obtain rfl : cs_ = [_] := hr_
    refine Ops.loadI rfl (by decide) rfl hA_ (T.aggOk rfl) ?_
    obtain rfl : s.take k = x := by simpa using hx
    repeat (first | refine Run.seq ?_ | refine Run.region ?_ | refine Ops.nil ?_ | refine Ops.eql rfl (by decide) rfl rfl ?_ | refine Ops.eqlStr rfl (by decide) rfl rfl ?_ | refine Ops.pure T rfl (by decide) rfl ?_)
    cases h1 : decide (s.take k = [108, 111, 99, 97, 108, 104, 111, 115, 116]) with
    | true =>
      have h1' : decide (s.take k = localhostT) = true := h1
      have hcut : hostCut s = (s.take k, s.drop (k + 1)) := by rw [hcut0, if_pos (by simp [hosted, h1'])]
      repeat (first | refine Run.seq ?_ | refine Run.region ?_ | refine Ops.nil ?_ | refine Run.cond_t rfl ?_ | refine Ops.not rfl (by decide) ?_ | refine Ops.pure T rfl (by decide) rfl ?_)
      refine Ops.indexSl hS rfl (by decide) rfl rfl (T.undOk rfl) (T.sizeOk rfl) (by first | omega | (simp only [List.length_cons, List.length_nil] ; omega) | (simp; omega)) (by first | omega | (simp only [List.length_cons, List.length_nil] ; omega) | (simp; omega)) ?_
      rintro b_ off_ x cs_ hx hr_ hA_
      obtain rfl : cs_ = [_] := hr_
      refine Ops.loadI rfl (by decide) rfl hA_ (T.aggOk rfl) ?_
      obtain rfl : s.drop (k + 1) = x := by simpa using hx
      repeat (first | refine Run.seq ?_ | refine Run.region ?_ | refine Ops.nil ?_ | refine Ops.pure T rfl (by decide) rfl ?_)
      have hl1 : (s.take k).length ≤ s.length := by first | (simp; done) | (simp; omega) | omega
      have hl2 : (s.drop (k + 1)).length ≤ s.length := by first | (simp; done) | (simp; omega) | omega
      refine Ops.call ((name_checkRepository J2 (s.drop (k + 1)) (by omega))) rfl (by decide) call64 rfl ?_
      rintro w J3 l3 hw
      cases hpg : pathGood (s.drop (k + 1)) with
      | false =>
        rw [hpg] at hw
        obtain ⟨b3, rfl⟩ := hw.bad
        unfold errV
        repeat (first | refine Run.seq ?_ | refine Run.region ?_ | refine Ops.nil ?_ | refine Run.cond_t rfl ?_ | refine Ops.neqNil T rfl (by decide) rfl rfl rfl rfl rfl ?_ | refine Ops.pure T rfl (by decide) rfl ?_)
        refine Ops.buildL bd57 rfl (by decide) rfl rfl ?_
        repeat (first | refine Ops.nil ?_ | refine Ops.pure T rfl (by decide) rfl ?_ | refine Ops.store 1 rfl rfl rfl rfl rfl (T.sizeOk rfl) rfl (Nat.le_of_ble_eq_true rfl) rfl rfl ?_)
        refine Run.retCT T 1 (by rw [hCf]; exact func23) results23 rfl rfl rfl rfl rfl rfl rfl (hR _ _ _ ?_)
        exact ⟨rfl, none, ⟨b3, rfl⟩, RepoAns.bad (by rw [hcut]; exact hpg), fun x h => by cases h⟩
      | true =>
        rw [hpg] at hw
        obtain rfl := hw.good
        repeat (first | refine Run.seq ?_ | refine Run.region ?_ | refine Ops.nil ?_ | refine Run.skip ?_ | refine Run.cond_f rfl ?_ | refine Ops.neqNil T rfl (by decide) rfl rfl rfl rfl rfl ?_ | refine Ops.pure T rfl (by decide) rfl ?_)
        refine Ops.call ((name_NewRegistry J3 (s.take k) v ⟨st, ins, reg, tag⟩ (ho2.mono l3) (by omega))) rfl (by decide) call19 rfl ?_
        rintro w J4 l4 ⟨a, hres, hans, hlen⟩
        cases a with
        | none =>
          obtain ⟨b3, rfl⟩ := hres
          unfold errV
          repeat (first | refine Ops.pure T rfl (by decide) rfl ?_)
          refine Ops.alloc rfl (by decide) (T.zeroOk rfl) rfl (fun b4 => ?_)
          repeat (first | refine Run.seq ?_ | refine Run.region ?_ | refine Ops.nil ?_ | refine Run.cond_t rfl ?_ | refine Ops.neqNil T rfl (by decide) rfl rfl rfl rfl rfl ?_ | refine Ops.pure T rfl (by decide) rfl ?_ | refine Ops.store 0 rfl rfl rfl rfl rfl (T.sizeOk rfl) rfl (Nat.le_of_ble_eq_true rfl) rfl rfl ?_)
          refine Ops.buildL bd57 rfl (by decide) rfl rfl ?_
          repeat (first | refine Ops.nil ?_ | refine Ops.pure T rfl (by decide) rfl ?_ | refine Ops.store 2 rfl rfl rfl rfl rfl (T.sizeOk rfl) rfl (Nat.le_of_ble_eq_true rfl) rfl rfl ?_)
          refine Run.retCT T 2 (by rw [hCf]; exact func23) results23 rfl rfl rfl rfl rfl rfl rfl (hR _ _ _ ?_)
          exact ⟨rfl, none, ⟨b3, rfl⟩, (RepoAns.of2 hcut hans hpg).1 rfl, fun x h => by cases h⟩
        | some r =>
          have hres2 : w = _ := hres
          subst hres2
          repeat (first | refine Ops.pure T rfl (by decide) rfl ?_)
          refine Ops.alloc rfl (by decide) (T.zeroOk rfl) rfl (fun b4 => ?_)
          repeat (first | refine Run.seq ?_ | refine Run.region ?_ | refine Ops.nil ?_ | refine Run.skip ?_ | refine Run.cond_f rfl ?_ | refine Ops.neqNil T rfl (by decide) rfl rfl rfl rfl rfl ?_ | refine Ops.pure T rfl (by decide) rfl ?_ | refine Ops.loadN 0 rfl (by decide) rfl rfl (T.aggOk rfl) (T.sizeOk rfl) rfl rfl ?_ | refine Ops.store 0 rfl rfl rfl rfl rfl (T.sizeOk rfl) rfl (Nat.le_of_ble_eq_true rfl) rfl rfl ?_)
          refine Ops.call ((name_hasImplicit J4 (s.drop (k + 1)) r ins (by omega))) rfl (by decide) call65 rfl ?_
          rintro _ J5 l5 rfl
          cases himp : implNs r (s.drop (k + 1)) with
          | false =>
            cases st with
            | true =>
              repeat (first | refine Run.seq ?_ | refine Run.region ?_ | refine Ops.nil ?_ | refine Run.skip ?_ | refine Run.cond_f rfl ?_ | refine Ops.not rfl (by decide) ?_ | refine Ops.pure T rfl (by decide) rfl ?_ | refine Ops.loadN 0 rfl (by decide) rfl rfl (T.aggOk rfl) (T.sizeOk rfl) rfl rfl ?_)
              refine Ops.buildL bd57 rfl (by decide) rfl rfl ?_
              repeat (first | refine Ops.nil ?_ | refine Ops.pure T rfl (by decide) rfl ?_ | refine Ops.store 2 rfl rfl rfl rfl rfl (T.sizeOk rfl) rfl (Nat.le_of_ble_eq_true rfl) rfl rfl ?_)
              refine Run.retCT T 2 (by rw [hCf]; exact func23) results23 rfl rfl rfl rfl rfl rfl rfl (hR _ _ _ ?_)
              refine ⟨rfl, some (r, s.drop (k + 1)), rfl, (RepoAns.of2 hcut hans hpg).2.2 r rfl (by rw [himp]; rfl), fun x h => ?_⟩
              cases h
              exact ⟨(hlen r rfl).1, by have := (hlen r rfl).2; have := hl1; simp only at *; omega, hl2⟩
            | false =>
              repeat (first | refine Run.seq ?_ | refine Run.region ?_ | refine Ops.nil ?_ | refine Run.skip ?_ | refine Run.cond_f rfl ?_ | refine Ops.not rfl (by decide) ?_ | refine Ops.pure T rfl (by decide) rfl ?_ | refine Ops.loadN 0 rfl (by decide) rfl rfl (T.aggOk rfl) (T.sizeOk rfl) rfl rfl ?_)
              refine Ops.buildL bd57 rfl (by decide) rfl rfl ?_
              repeat (first | refine Ops.nil ?_ | refine Ops.pure T rfl (by decide) rfl ?_ | refine Ops.store 2 rfl rfl rfl rfl rfl (T.sizeOk rfl) rfl (Nat.le_of_ble_eq_true rfl) rfl rfl ?_)
              refine Run.retCT T 2 (by rw [hCf]; exact func23) results23 rfl rfl rfl rfl rfl rfl rfl (hR _ _ _ ?_)
              refine ⟨rfl, some (r, s.drop (k + 1)), rfl, (RepoAns.of2 hcut hans hpg).2.2 r rfl (by rw [himp]; rfl), fun x h => ?_⟩
              cases h
              exact ⟨(hlen r rfl).1, by have := (hlen r rfl).2; have := hl1; simp only at *; omega, hl2⟩
          | true =>
            cases st with
            | false =>
              repeat (first | refine Run.seq ?_ | refine Run.region ?_ | refine Ops.nil ?_ | refine Run.skip ?_ | refine Run.cond_f rfl ?_ | refine Ops.pure T rfl (by decide) rfl ?_ | refine Ops.load 1 rfl (by decide) rfl rfl (T.aggOk rfl) rfl ?_ | refine Ops.loadN 0 rfl (by decide) rfl rfl (T.aggOk rfl) (T.sizeOk rfl) rfl rfl ?_)
              refine Ops.buildL bd57 rfl (by decide) rfl rfl ?_
              repeat (first | refine Ops.nil ?_ | refine Ops.pure T rfl (by decide) rfl ?_ | refine Ops.store 2 rfl rfl rfl rfl rfl (T.sizeOk rfl) rfl (Nat.le_of_ble_eq_true rfl) rfl rfl ?_)
              refine Run.retCT T 2 (by rw [hCf]; exact func23) results23 rfl rfl rfl rfl rfl rfl rfl (hR _ _ _ ?_)
              refine ⟨rfl, some (r, s.drop (k + 1)), rfl, (RepoAns.of2 hcut hans hpg).2.2 r rfl (by rw [himp]; rfl), fun x h => ?_⟩
              cases h
              exact ⟨(hlen r rfl).1, by have := (hlen r rfl).2; have := hl1; simp only at *; omega, hl2⟩
            | true =>
              repeat (first | refine Run.seq ?_ | refine Run.region ?_ | refine Ops.nil ?_ | refine Run.cond_t rfl ?_ | refine Ops.pure T rfl (by decide) rfl ?_ | refine Ops.load 1 rfl (by decide) rfl rfl (T.aggOk rfl) rfl ?_)
              refine Ops.buildL bd57 rfl (by decide) rfl rfl ?_
              refine Ops.call ((name_newErrBadName J5 _ _)) rfl (by decide) call58 rfl ?_
              rintro _ J6 l6 ⟨b5, rfl⟩
              repeat (first | refine Ops.nil ?_ | refine Ops.pure T rfl (by decide) rfl ?_ | refine Ops.store 2 rfl rfl rfl rfl rfl (T.sizeOk rfl) rfl (Nat.le_of_ble_eq_true rfl) rfl rfl ?_)
              refine Run.retCT T 2 (by rw [hCf]; exact func23) results23 rfl rfl rfl rfl rfl rfl rfl (hR _ _ _ ?_)
              exact ⟨rfl, none, ⟨b5, rfl⟩, (RepoAns.of2 hcut hans hpg).2.1 r rfl (by rw [himp]; rfl), fun x h => by cases h⟩
    | false =>
      have h1' : decide (s.take k = localhostT) = false := h1
      repeat (first | refine Ops.pure T rfl (by decide) rfl ?_)
      refine Ops.call ((name_zzContainsAny J2 (s.take k) [46, 58] (by simp; omega) (by decide))) rfl (by decide) call63 rfl ?_
      rintro _ J2' l2' rfl
      rw [anyR (by unfold ascii; decide)]
      have ho3 := ho2.mono l2'
      replace hS := hS.mono l2'
      have hany : ([46, 58] : Tx).any (fun c => hasB c (s.take k)) = hosted (s.take k) := by simp [hosted, h1']
      rw [hany]
      cases h2 : hosted (s.take k) with
      | true =>
        have hcut : hostCut s = (s.take k, s.drop (k + 1)) := by rw [hcut0, if_pos h2]
        repeat (first | refine Run.seq ?_ | refine Run.region ?_ | refine Ops.nil ?_ | refine Run.cond_t rfl ?_ | refine Ops.pure T rfl (by decide) rfl ?_)
        refine Ops.indexSl hS rfl (by decide) rfl rfl (T.undOk rfl) (T.sizeOk rfl) (by first | omega | (simp only [List.length_cons, List.length_nil] ; omega) | (simp; omega)) (by first | omega | (simp only [List.length_cons, List.length_nil] ; omega) | (simp; omega)) ?_
        rintro b_ off_ x cs_ hx hr_ hA_
        obtain rfl : cs_ = [_] := hr_
        refine Ops.loadI rfl (by decide) rfl hA_ (T.aggOk rfl) ?_
        obtain rfl : s.drop (k + 1) = x := by simpa using hx
        repeat (first | refine Run.seq ?_ | refine Run.region ?_ | refine Ops.nil ?_ | refine Ops.pure T rfl (by decide) rfl ?_)
        have hl1 : (s.take k).length ≤ s.length := by first | (simp; done) | (simp; omega) | omega
        have hl2 : (s.drop (k + 1)).length ≤ s.length := by first | (simp; done) | (simp; omega) | omega
        refine Ops.call ((name_checkRepository J2' (s.drop (k + 1)) (by omega))) rfl (by decide) call64 rfl ?_
        rintro w J3 l3 hw
        cases hpg : pathGood (s.drop (k + 1)) with
        | false =>
          rw [hpg] at hw
          obtain ⟨b3, rfl⟩ := hw.bad
          unfold errV
          repeat (first | refine Run.seq ?_ | refine Run.region ?_ | refine Ops.nil ?_ | refine Run.cond_t rfl ?_ | refine Ops.neqNil T rfl (by decide) rfl rfl rfl rfl rfl ?_ | refine Ops.pure T rfl (by decide) rfl ?_)
          refine Ops.buildL bd57 rfl (by decide) rfl rfl ?_
          repeat (first | refine Ops.nil ?_ | refine Ops.pure T rfl (by decide) rfl ?_ | refine Ops.store 1 rfl rfl rfl rfl rfl (T.sizeOk rfl) rfl (Nat.le_of_ble_eq_true rfl) rfl rfl ?_)
          refine Run.retCT T 1 (by rw [hCf]; exact func23) results23 rfl rfl rfl rfl rfl rfl rfl (hR _ _ _ ?_)
          exact ⟨rfl, none, ⟨b3, rfl⟩, RepoAns.bad (by rw [hcut]; exact hpg), fun x h => by cases h⟩
        | true =>
          rw [hpg] at hw
          obtain rfl := hw.good
          repeat (first | refine Run.seq ?_ | refine Run.region ?_ | refine Ops.nil ?_ | refine Run.skip ?_ | refine Run.cond_f rfl ?_ | refine Ops.neqNil T rfl (by decide) rfl rfl rfl rfl rfl ?_ | refine Ops.pure T rfl (by decide) rfl ?_)
          refine Ops.call ((name_NewRegistry J3 (s.take k) v ⟨st, ins, reg, tag⟩ (ho3.mono l3) (by omega))) rfl (by decide) call19 rfl ?_
          rintro w J4 l4 ⟨a, hres, hans, hlen⟩
          cases a with
          | none =>
            obtain ⟨b3, rfl⟩ := hres
            unfold errV
            repeat (first | refine Ops.pure T rfl (by decide) rfl ?_)
            refine Ops.alloc rfl (by decide) (T.zeroOk rfl) rfl (fun b4 => ?_)
            repeat (first | refine Run.seq ?_ | refine Run.region ?_ | refine Ops.nil ?_ | refine Run.cond_t rfl ?_ | refine Ops.neqNil T rfl (by decide) rfl rfl rfl rfl rfl ?_ | refine Ops.pure T rfl (by decide) rfl ?_ | refine Ops.store 0 rfl rfl rfl rfl rfl (T.sizeOk rfl) rfl (Nat.le_of_ble_eq_true rfl) rfl rfl ?_)
            refine Ops.buildL bd57 rfl (by decide) rfl rfl ?_
            repeat (first | refine Ops.nil ?_ | refine Ops.pure T rfl (by decide) rfl ?_ | refine Ops.store 2 rfl rfl rfl rfl rfl (T.sizeOk rfl) rfl (Nat.le_of_ble_eq_true rfl) rfl rfl ?_)
            refine Run.retCT T 2 (by rw [hCf]; exact func23) results23 rfl rfl rfl rfl rfl rfl rfl (hR _ _ _ ?_)
            exact ⟨rfl, none, ⟨b3, rfl⟩, (RepoAns.of2 hcut hans hpg).1 rfl, fun x h => by cases h⟩
          | some r =>
            have hres2 : w = _ := hres
            subst hres2
            repeat (first | refine Ops.pure T rfl (by decide) rfl ?_)
            refine Ops.alloc rfl (by decide) (T.zeroOk rfl) rfl (fun b4 => ?_)
            repeat (first | refine Run.seq ?_ | refine Run.region ?_ | refine Ops.nil ?_ | refine Run.skip ?_ | refine Run.cond_f rfl ?_ | refine Ops.neqNil T rfl (by decide) rfl rfl rfl rfl rfl ?_ | refine Ops.pure T rfl (by decide) rfl ?_ | refine Ops.loadN 0 rfl (by decide) rfl rfl (T.aggOk rfl) (T.sizeOk rfl) rfl rfl ?_ | refine Ops.store 0 rfl rfl rfl rfl rfl (T.sizeOk rfl) rfl (Nat.le_of_ble_eq_true rfl) rfl rfl ?_)
            refine Ops.call ((name_hasImplicit J4 (s.drop (k + 1)) r ins (by omega))) rfl (by decide) call65 rfl ?_
            rintro _ J5 l5 rfl
            cases himp : implNs r (s.drop (k + 1)) with
            | false =>
              cases st with
              | true =>
                repeat (first | refine Run.seq ?_ | refine Run.region ?_ | refine Ops.nil ?_ | refine Run.skip ?_ | refine Run.cond_f rfl ?_ | refine Ops.not rfl (by decide) ?_ | refine Ops.pure T rfl (by decide) rfl ?_ | refine Ops.loadN 0 rfl (by decide) rfl rfl (T.aggOk rfl) (T.sizeOk rfl) rfl rfl ?_)
                refine Ops.buildL bd57 rfl (by decide) rfl rfl ?_
                repeat (first | refine Ops.nil ?_ | refine Ops.pure T rfl (by decide) rfl ?_ | refine Ops.store 2 rfl rfl rfl rfl rfl (T.sizeOk rfl) rfl (Nat.le_of_ble_eq_true rfl) rfl rfl ?_)
                refine Run.retCT T 2 (by rw [hCf]; exact func23) results23 rfl rfl rfl rfl rfl rfl rfl (hR _ _ _ ?_)
                refine ⟨rfl, some (r, s.drop (k + 1)), rfl, (RepoAns.of2 hcut hans hpg).2.2 r rfl (by rw [himp]; rfl), fun x h => ?_⟩
                cases h
                exact ⟨(hlen r rfl).1, by have := (hlen r rfl).2; have := hl1; simp only at *; omega, hl2⟩
              | false =>
                repeat (first | refine Run.seq ?_ | refine Run.region ?_ | refine Ops.nil ?_ | refine Run.skip ?_ | refine Run.cond_f rfl ?_ | refine Ops.not rfl (by decide) ?_ | refine Ops.pure T rfl (by decide) rfl ?_ | refine Ops.loadN 0 rfl (by decide) rfl rfl (T.aggOk rfl) (T.sizeOk rfl) rfl rfl ?_)
                refine Ops.buildL bd57 rfl (by decide) rfl rfl ?_
                repeat (first | refine Ops.nil ?_ | refine Ops.pure T rfl (by decide) rfl ?_ | refine Ops.store 2 rfl rfl rfl rfl rfl (T.sizeOk rfl) rfl (Nat.le_of_ble_eq_true rfl) rfl rfl ?_)
                refine Run.retCT T 2 (by rw [hCf]; exact func23) results23 rfl rfl rfl rfl rfl rfl rfl (hR _ _ _ ?_)
                refine ⟨rfl, some (r, s.drop (k + 1)), rfl, (RepoAns.of2 hcut hans hpg).2.2 r rfl (by rw [himp]; rfl), fun x h => ?_⟩
                cases h
                exact ⟨(hlen r rfl).1, by have := (hlen r rfl).2; have := hl1; simp only at *; omega, hl2⟩
            | true =>
              cases st with
              | false =>
                repeat (first | refine Run.seq ?_ | refine Run.region ?_ | refine Ops.nil ?_ | refine Run.skip ?_ | refine Run.cond_f rfl ?_ | refine Ops.pure T rfl (by decide) rfl ?_ | refine Ops.load 1 rfl (by decide) rfl rfl (T.aggOk rfl) rfl ?_ | refine Ops.loadN 0 rfl (by decide) rfl rfl (T.aggOk rfl) (T.sizeOk rfl) rfl rfl ?_)
                refine Ops.buildL bd57 rfl (by decide) rfl rfl ?_
                repeat (first | refine Ops.nil ?_ | refine Ops.pure T rfl (by decide) rfl ?_ | refine Ops.store 2 rfl rfl rfl rfl rfl (T.sizeOk rfl) rfl (Nat.le_of_ble_eq_true rfl) rfl rfl ?_)
                refine Run.retCT T 2 (by rw [hCf]; exact func23) results23 rfl rfl rfl rfl rfl rfl rfl (hR _ _ _ ?_)
                refine ⟨rfl, some (r, s.drop (k + 1)), rfl, (RepoAns.of2 hcut hans hpg).2.2 r rfl (by rw [himp]; rfl), fun x h => ?_⟩
                cases h
                exact ⟨(hlen r rfl).1, by have := (hlen r rfl).2; have := hl1; simp only at *; omega, hl2⟩
              | true =>
                repeat (first | refine Run.seq ?_ | refine Run.region ?_ | refine Ops.nil ?_ | refine Run.cond_t rfl ?_ | refine Ops.pure T rfl (by decide) rfl ?_ | refine Ops.load 1 rfl (by decide) rfl rfl (T.aggOk rfl) rfl ?_)
                refine Ops.buildL bd57 rfl (by decide) rfl rfl ?_
                refine Ops.call ((name_newErrBadName J5 _ _)) rfl (by decide) call58 rfl ?_
                rintro _ J6 l6 ⟨b5, rfl⟩
                repeat (first | refine Ops.nil ?_ | refine Ops.pure T rfl (by decide) rfl ?_ | refine Ops.store 2 rfl rfl rfl rfl rfl (T.sizeOk rfl) rfl (Nat.le_of_ble_eq_true rfl) rfl rfl ?_)
                refine Run.retCT T 2 (by rw [hCf]; exact func23) results23 rfl rfl rfl rfl rfl rfl rfl (hR _ _ _ ?_)
                exact ⟨rfl, none, ⟨b5, rfl⟩, (RepoAns.of2 hcut hans hpg).2.1 r rfl (by rw [himp]; rfl), fun x h => by cases h⟩
      | false =>
        have hcut : hostCut s = ([], s) := by rw [hcut0, h2]; rfl
        repeat (first | refine Run.seq ?_ | refine Run.region ?_ | refine Ops.nil ?_ | refine Run.skip ?_ | refine Run.cond_f rfl ?_ | refine Ops.pure T rfl (by decide) rfl ?_)
        have hl1 : (([] : Tx)).length ≤ s.length := by first | (simp; done) | (simp; omega) | omega
        have hl2 : (s).length ≤ s.length := by first | (simp; done) | (simp; omega) | omega
        refine Ops.call ((name_checkRepository J2' (s) (by omega))) rfl (by decide) call64 rfl ?_
        rintro w J3 l3 hw
        cases hpg : pathGood (s) with
        | false =>
          rw [hpg] at hw
          obtain ⟨b3, rfl⟩ := hw.bad
          unfold errV
          repeat (first | refine Run.seq ?_ | refine Run.region ?_ | refine Ops.nil ?_ | refine Run.cond_t rfl ?_ | refine Ops.neqNil T rfl (by decide) rfl rfl rfl rfl rfl ?_ | refine Ops.pure T rfl (by decide) rfl ?_)
          refine Ops.buildL bd57 rfl (by decide) rfl rfl ?_
          repeat (first | refine Ops.nil ?_ | refine Ops.pure T rfl (by decide) rfl ?_ | refine Ops.store 1 rfl rfl rfl rfl rfl (T.sizeOk rfl) rfl (Nat.le_of_ble_eq_true rfl) rfl rfl ?_)
          refine Run.retCT T 1 (by rw [hCf]; exact func23) results23 rfl rfl rfl rfl rfl rfl rfl (hR _ _ _ ?_)
          exact ⟨rfl, none, ⟨b3, rfl⟩, RepoAns.bad (by rw [hcut]; exact hpg), fun x h => by cases h⟩
        | true =>
          rw [hpg] at hw
          obtain rfl := hw.good
          repeat (first | refine Run.seq ?_ | refine Run.region ?_ | refine Ops.nil ?_ | refine Run.skip ?_ | refine Run.cond_f rfl ?_ | refine Ops.neqNil T rfl (by decide) rfl rfl rfl rfl rfl ?_ | refine Ops.pure T rfl (by decide) rfl ?_)
          refine Ops.call ((name_NewRegistry J3 (([] : Tx)) v ⟨st, ins, reg, tag⟩ (ho3.mono l3) (by omega))) rfl (by decide) call19 rfl ?_
          rintro w J4 l4 ⟨a, hres, hans, hlen⟩
          cases a with
          | none =>
            obtain ⟨b3, rfl⟩ := hres
            unfold errV
            repeat (first | refine Ops.pure T rfl (by decide) rfl ?_)
            refine Ops.alloc rfl (by decide) (T.zeroOk rfl) rfl (fun b4 => ?_)
            repeat (first | refine Run.seq ?_ | refine Run.region ?_ | refine Ops.nil ?_ | refine Run.cond_t rfl ?_ | refine Ops.neqNil T rfl (by decide) rfl rfl rfl rfl rfl ?_ | refine Ops.pure T rfl (by decide) rfl ?_ | refine Ops.store 0 rfl rfl rfl rfl rfl (T.sizeOk rfl) rfl (Nat.le_of_ble_eq_true rfl) rfl rfl ?_)
            refine Ops.buildL bd57 rfl (by decide) rfl rfl ?_
            repeat (first | refine Ops.nil ?_ | refine Ops.pure T rfl (by decide) rfl ?_ | refine Ops.store 2 rfl rfl rfl rfl rfl (T.sizeOk rfl) rfl (Nat.le_of_ble_eq_true rfl) rfl rfl ?_)
            refine Run.retCT T 2 (by rw [hCf]; exact func23) results23 rfl rfl rfl rfl rfl rfl rfl (hR _ _ _ ?_)
            exact ⟨rfl, none, ⟨b3, rfl⟩, (RepoAns.of2 hcut hans hpg).1 rfl, fun x h => by cases h⟩
          | some r =>
            have hres2 : w = _ := hres
            subst hres2
            repeat (first | refine Ops.pure T rfl (by decide) rfl ?_)
            refine Ops.alloc rfl (by decide) (T.zeroOk rfl) rfl (fun b4 => ?_)
            repeat (first | refine Run.seq ?_ | refine Run.region ?_ | refine Ops.nil ?_ | refine Run.skip ?_ | refine Run.cond_f rfl ?_ | refine Ops.neqNil T rfl (by decide) rfl rfl rfl rfl rfl ?_ | refine Ops.pure T rfl (by decide) rfl ?_ | refine Ops.loadN 0 rfl (by decide) rfl rfl (T.aggOk rfl) (T.sizeOk rfl) rfl rfl ?_ | refine Ops.store 0 rfl rfl rfl rfl rfl (T.sizeOk rfl) rfl (Nat.le_of_ble_eq_true rfl) rfl rfl ?_)
            refine Ops.call ((name_hasImplicit J4 (s) r ins (by omega))) rfl (by decide) call65 rfl ?_
            rintro _ J5 l5 rfl
            cases himp : implNs r (s) with
            | false =>
              cases st with
              | true =>
                repeat (first | refine Run.seq ?_ | refine Run.region ?_ | refine Ops.nil ?_ | refine Run.skip ?_ | refine Run.cond_f rfl ?_ | refine Ops.not rfl (by decide) ?_ | refine Ops.pure T rfl (by decide) rfl ?_ | refine Ops.loadN 0 rfl (by decide) rfl rfl (T.aggOk rfl) (T.sizeOk rfl) rfl rfl ?_)
                refine Ops.buildL bd57 rfl (by decide) rfl rfl ?_
                repeat (first | refine Ops.nil ?_ | refine Ops.pure T rfl (by decide) rfl ?_ | refine Ops.store 2 rfl rfl rfl rfl rfl (T.sizeOk rfl) rfl (Nat.le_of_ble_eq_true rfl) rfl rfl ?_)
                refine Run.retCT T 2 (by rw [hCf]; exact func23) results23 rfl rfl rfl rfl rfl rfl rfl (hR _ _ _ ?_)
                refine ⟨rfl, some (r, s), rfl, (RepoAns.of2 hcut hans hpg).2.2 r rfl (by rw [himp]; rfl), fun x h => ?_⟩
                cases h
                exact ⟨(hlen r rfl).1, by have := (hlen r rfl).2; have := hl1; simp only at *; omega, hl2⟩
              | false =>
                repeat (first | refine Run.seq ?_ | refine Run.region ?_ | refine Ops.nil ?_ | refine Run.skip ?_ | refine Run.cond_f rfl ?_ | refine Ops.not rfl (by decide) ?_ | refine Ops.pure T rfl (by decide) rfl ?_ | refine Ops.loadN 0 rfl (by decide) rfl rfl (T.aggOk rfl) (T.sizeOk rfl) rfl rfl ?_)
                refine Ops.buildL bd57 rfl (by decide) rfl rfl ?_
                repeat (first | refine Ops.nil ?_ | refine Ops.pure T rfl (by decide) rfl ?_ | refine Ops.store 2 rfl rfl rfl rfl rfl (T.sizeOk rfl) rfl (Nat.le_of_ble_eq_true rfl) rfl rfl ?_)
                refine Run.retCT T 2 (by rw [hCf]; exact func23) results23 rfl rfl rfl rfl rfl rfl rfl (hR _ _ _ ?_)
                refine ⟨rfl, some (r, s), rfl, (RepoAns.of2 hcut hans hpg).2.2 r rfl (by rw [himp]; rfl), fun x h => ?_⟩
                cases h
                exact ⟨(hlen r rfl).1, by have := (hlen r rfl).2; have := hl1; simp only at *; omega, hl2⟩
            | true =>
              cases st with
              | false =>
                repeat (first | refine Run.seq ?_ | refine Run.region ?_ | refine Ops.nil ?_ | refine Run.skip ?_ | refine Run.cond_f rfl ?_ | refine Ops.pure T rfl (by decide) rfl ?_ | refine Ops.load 1 rfl (by decide) rfl rfl (T.aggOk rfl) rfl ?_ | refine Ops.loadN 0 rfl (by decide) rfl rfl (T.aggOk rfl) (T.sizeOk rfl) rfl rfl ?_)
                refine Ops.buildL bd57 rfl (by decide) rfl rfl ?_
                repeat (first | refine Ops.nil ?_ | refine Ops.pure T rfl (by decide) rfl ?_ | refine Ops.store 2 rfl rfl rfl rfl rfl (T.sizeOk rfl) rfl (Nat.le_of_ble_eq_true rfl) rfl rfl ?_)
                refine Run.retCT T 2 (by rw [hCf]; exact func23) results23 rfl rfl rfl rfl rfl rfl rfl (hR _ _ _ ?_)
                refine ⟨rfl, some (r, s), rfl, (RepoAns.of2 hcut hans hpg).2.2 r rfl (by rw [himp]; rfl), fun x h => ?_⟩
                cases h
                exact ⟨(hlen r rfl).1, by have := (hlen r rfl).2; have := hl1; simp only at *; omega, hl2⟩
              | true =>
                repeat (first | refine Run.seq ?_ | refine Run.region ?_ | refine Ops.nil ?_ | refine Run.cond_t rfl ?_ | refine Ops.pure T rfl (by decide) rfl ?_ | refine Ops.load 1 rfl (by decide) rfl rfl (T.aggOk rfl) rfl ?_)
                refine Ops.buildL bd57 rfl (by decide) rfl rfl ?_
                refine Ops.call ((name_newErrBadName J5 _ _)) rfl (by decide) call58 rfl ?_
                rintro _ J6 l6 ⟨b5, rfl⟩
                repeat (first | refine Ops.nil ?_ | refine Ops.pure T rfl (by decide) rfl ?_ | refine Ops.store 2 rfl rfl rfl rfl rfl (T.sizeOk rfl) rfl (Nat.le_of_ble_eq_true rfl) rfl rfl ?_)
                refine Run.retCT T 2 (by rw [hCf]; exact func23) results23 rfl rfl rfl rfl rfl rfl rfl (hR _ _ _ ?_)
                exact ⟨rfl, none, ⟨b5, rfl⟩, (RepoAns.of2 hcut hans hpg).2.1 r rfl (by rw [himp]; rfl), fun x h => by cases h⟩
theorem Repository_RepositoryStr (I : Imm) (ins : Bool) (r p : Tx) (hp : p.length ≤ 1099511627776) : Pure prog 80 [.agg [.bool ins, str r, str p].toArray] I fun w J => w = str (fullP r p) := by
  refine Spec.enter 13 [(0, _)] func80 rfl ntmps80 (by simp) rfl ?_
  intro C hCf hR hCI
  repeat (first | refine Run.seq ?_ | refine Run.region ?_)
  refine Ops.box rfl (by decide) rfl rfl (fun b => ?_)
  repeat (first | refine Run.seq ?_ | refine Run.region ?_ | refine Ops.nil ?_ | refine Ops.pure T rfl (by decide) rfl ?_ | refine Ops.load 0 rfl (by decide) rfl rfl (T.aggOk rfl) rfl ?_ | refine Ops.loadN 0 rfl (by decide) rfl rfl (T.aggOk rfl) (T.sizeOk rfl) rfl rfl ?_)
  refine Ops.call ((name_hasImplicit I p r ins hp)) rfl (by decide) call65 rfl ?_
  rintro _ J1 l1 rfl
  cases h : implNs r p with
  | true =>
    repeat (first | refine Run.seq ?_ | refine Run.region ?_ | refine Ops.nil ?_ | refine Run.cond_t rfl ?_ | refine Ops.cat rfl (by decide) rfl rfl (by first | omega | (simp only [List.length_cons, List.length_nil] ; omega) | (simp; omega)) ?_ | refine Ops.pure T rfl (by decide) rfl ?_ | refine Ops.load 0 rfl (by decide) rfl rfl (T.aggOk rfl) rfl ?_)
    refine Run.fin (Run.ret1 (by rw [hCf]; exact func80) results80 rfl (hR _ _ _ ?_))
    exact ⟨rfl, congrArg str (show libT ++ p = fullP r p from (if_pos h).symm)⟩
  | false =>
    repeat (first | refine Run.seq ?_ | refine Run.region ?_ | refine Ops.nil ?_ | refine Run.skip ?_ | refine Run.cond_f rfl ?_ | refine Ops.pure T rfl (by decide) rfl ?_ | refine Ops.load 0 rfl (by decide) rfl rfl (T.aggOk rfl) rfl ?_)
    refine Run.fin (Run.ret1 (by rw [hCf]; exact func80) results80 rfl (hR _ _ _ ?_))
    exact ⟨rfl, congrArg str (show p = fullP r p from (if_neg (fun hh => by rw [show implNs r p = true from hh] at h; cases h)).symm)⟩
theorem fullP_len (r p : Tx) : (fullP r p).length ≤ p.length + 8 := by
  unfold fullP; split
  · first | (simp [libT]; done) | (simp [libT]; omega)
  · omega
theorem Repository_Name (I : Imm) (ins : Bool) (r p : Tx) (hr : r.length ≤ 1099511627776) (hp : p.length ≤ 1099511627776) (hne : r ≠ []) : Pure prog 73 [.agg [.bool ins, str r, str p].toArray] I fun w J => w = str (repoT r (fullP r p)) := by
  have hfl := fullP_len r p
  refine Spec.enter 16 [(0, _)] func73 rfl ntmps73 (by simp) rfl ?_
  intro C hCf hR hCI
  repeat (first | refine Run.seq ?_ | refine Run.region ?_)
  refine Ops.box rfl (by decide) rfl rfl (fun b => ?_)
  repeat (first | refine Run.seq ?_ | refine Run.region ?_ | refine Ops.nil ?_ | refine Ops.pure T rfl (by decide) rfl ?_ | refine Ops.loadN 0 rfl (by decide) rfl rfl (T.aggOk rfl) (T.sizeOk rfl) rfl rfl ?_)
  refine Ops.call ((Registry_Name I ins r)) rfl (by decide) call77 rfl ?_
  rintro _ J1 l1 rfl
  repeat (first | refine Run.seq ?_ | refine Run.region ?_ | refine Ops.nil ?_ | refine Ops.neqStr rfl (by decide) rfl rfl ?_ | refine Ops.pure T rfl (by decide) rfl ?_)
  rw [decide_eq_false hne]
  repeat (first | refine Run.seq ?_ | refine Run.region ?_ | refine Run.cond_t rfl ?_ | refine Ops.cat rfl (by decide) rfl rfl (by first | omega | (simp only [List.length_cons, List.length_nil] ; omega) | (simp; omega)) ?_ | refine Ops.pure T rfl (by decide) rfl ?_ | refine Ops.loadN 0 rfl (by decide) rfl rfl (T.aggOk rfl) (T.sizeOk rfl) rfl rfl ?_)
  refine Ops.call ((Repository_RepositoryStr J1 ins r p hp)) rfl (by decide) call80 rfl ?_
  rintro _ J2 l2 rfl
  repeat (first | refine Ops.nil ?_ | refine Ops.cat rfl (by decide) rfl rfl (by first | omega | (simp only [List.length_cons, List.length_nil] ; omega) | (simp; omega)) ?_ | refine Ops.pure T rfl (by decide) rfl ?_)
  refine Run.fin (Run.ret1 (by rw [hCf]; exact func73) results73 rfl (hR _ _ _ ?_))
  exact ⟨rfl, rfl⟩
theorem Repository_String (I : Imm) (ins : Bool) (r p : Tx) (hr : r.length ≤ 1099511627776) (hp : p.length ≤ 1099511627776) (hne : r ≠ []) : Pure prog 66 [.agg [.bool ins, str r, str p].toArray] I fun w J => w = str (repoT r (fullP r p)) := by
  refine Spec.enter 5 [(0, _)] func66 rfl ntmps66 (by simp) rfl ?_
  intro C hCf hR hCI
  repeat (first | refine Run.seq ?_ | refine Run.region ?_)
  refine Ops.box rfl (by decide) rfl rfl (fun b => ?_)
  repeat (first | refine Run.seq ?_ | refine Run.region ?_ | refine Ops.nil ?_ | refine Ops.pure T rfl (by decide) rfl ?_ | refine Ops.loadN 0 rfl (by decide) rfl rfl (T.aggOk rfl) (T.sizeOk rfl) rfl rfl ?_)
  refine Ops.call ((Repository_Name I ins r p hr hp hne)) rfl (by decide) call73 rfl ?_
  rintro _ J1 l1 rfl
  repeat (first | refine Ops.nil ?_ | refine Ops.pure T rfl (by decide) rfl ?_)
  refine Run.fin (Run.ret1 (by rw [hCf]; exact func66) results66 rfl (hR _ _ _ ?_))
  exact ⟨rfl, rfl⟩
theorem Repository_Scope (I : Imm) (ins : Bool) (r p : Tx) (hp : p.length ≤ 1099511627776) : Pure prog 81 [.agg [.bool ins, str r, str p].toArray, str [112, 117, 108, 108]] I fun w J => w = str (scopeT (fullP r p)) := by
  have hfl := fullP_len r p
  refine Spec.enter 11 [(0, _), (1, _)] func81 rfl ntmps81 (by simp) rfl ?_
  intro C hCf hR hCI
  repeat (first | refine Run.seq ?_ | refine Run.region ?_)
  refine Ops.box rfl (by decide) rfl rfl (fun b => ?_)
  repeat (first | refine Run.seq ?_ | refine Run.region ?_ | refine Ops.nil ?_ | refine Ops.pure T rfl (by decide) rfl ?_ | refine Ops.loadN 0 rfl (by decide) rfl rfl (T.aggOk rfl) (T.sizeOk rfl) rfl rfl ?_)
  refine Ops.call ((Repository_RepositoryStr I ins r p hp)) rfl (by decide) call80 rfl ?_
  rintro _ J1 l1 rfl
  repeat (first | refine Ops.nil ?_ | refine Ops.cat rfl (by decide) rfl rfl (by first | omega | (simp only [List.length_cons, List.length_nil] ; omega) | (simp; omega)) ?_ | refine Ops.pure T rfl (by decide) rfl ?_)
  refine Run.fin (Run.ret1 (by rw [hCf]; exact func81) results81 rfl (hR _ _ _ ?_))
  exact ⟨rfl, by simp [scopeT]⟩
end Go.V
namespace Go.V
open Go.Proofs.Tryz
open Go.RowKit
set_option linter.unusedVariables false
set_option linter.unusedSimpArgs false
set_option maxRecDepth 10000
attribute [local irreducible] Run Ops
def tagRes (ins : Bool) (s : Tx) (a : Option (Tx × Tx × Tx)) (w : Value) : Prop := match a with
  | some x => w = .tuple #[.agg #[.bool ins, str x.1, str x.2.1, str x.2.2, str s], .nilIface]
  | none => ∃ b, w = .tuple #[.agg #[.bool false, str [], str [], str [], str []], errV b]
theorem tagOr_len (t : Tx) : (tagOr t).length ≤ t.length + 6 := by
  unfold tagOr; split
  · rename_i h; subst h; decide
  · omega
theorem cutTag_lx {s : Tx} {k : Nat} (h : lx 58 s = some k) : cutTag s = if hasB 47 (s.drop (k + 1)) then none else some (s.take k, s.drop (k + 1)) := by
  unfold cutTag
  rw [h]
  simp only
  obtain ⟨h1, h2, _⟩ := lx_split h
  have e : s.drop k = 58 :: s.drop (k + 1) := by
    conv => lhs; rw [h2]
    rw [List.drop_append_of_le_length (by simp; omega)]
    simp
  rw [e, hasB_cons]
  rfl
set_option maxHeartbeats 8000000 in
theorem name_NewTag (I : Imm) (s : Tx) (v : Value) (o : NOpt) (ho : OptsAre I v o) (hs : s.length ≤ 1099511627776) : Pure prog 26 [str s, v] I fun w J =>
    ∃ a, tagRes o.ins s a w ∧ TagAns o s a ∧ ∀ x, a = some x → x.1 ≠ [] ∧ x.1.length ≤ s.length + o.reg.length + 30 ∧ x.2.1.length ≤ s.length ∧ x.2.2.length ≤ s.length + o.tag.length + 6 := by
  obtain ⟨st, ins, reg, tag⟩ := o
  refine Spec.enter 81 [(0, _), (1, _)] func26 rfl ntmps26 (by simp) rfl ?_
  intro C hCf hR hCI
  repeat (first | refine Run.seq ?_ | refine Run.region ?_)
  refine Ops.alloc rfl (by decide) (T.zeroOk rfl) rfl (fun b => ?_)
  repeat (first | refine Run.seq ?_ | refine Run.region ?_ | refine Ops.nil ?_ | refine Ops.pure T rfl (by decide) rfl ?_)
  refine Ops.call ((makeOptions_are I v _ ho)) rfl (by decide) call57 rfl ?_
  rintro _ J1 l1 rfl
  refine Ops.alloc rfl (by decide) (T.zeroOk rfl) rfl (fun b2 => ?_)
  repeat (first | refine Run.seq ?_ | refine Run.region ?_ | refine Ops.nil ?_ | refine Ops.pure T rfl (by decide) rfl ?_ | refine Ops.store 0 rfl rfl rfl rfl rfl (T.sizeOk rfl) rfl (Nat.le_of_ble_eq_true rfl) rfl rfl ?_)
  refine Ops.callN ((name_zzSplit s 58 J1 hs)) rfl (by decide) call67 rfl ?_
  rintro w J2 M l2 hG
  refine Ops.keepG (N := [_, _]) hG rfl fun J3 l3 hS => ?_
  have ho3 := ho.mono ((l1.trans l2).trans l3)
  clear hG l1 l2 l3
  have hsl := spl_len 58 s
  obtain ⟨A, c, e⟩ := hS.isSl
  subst e
  cases hk : lx 58 s with
  | none =>
    rw [spl_no hk] at hS
    rw [spl_no hk]
    repeat (first | refine Run.seq ?_ | refine Run.region ?_ | refine Ops.nil ?_ | refine Run.skip ?_ | refine Run.cond_f rfl ?_ | refine Ops.not rfl (by decide) ?_ | refine Ops.gtr rfl (by decide) rfl rfl ?_ | refine Ops.neqStr rfl (by decide) rfl rfl ?_ | refine Ops.pure T rfl (by decide) rfl ?_ | refine Ops.load 0 rfl (by decide) rfl rfl (T.aggOk rfl) rfl ?_)
    have hcut : cutTag s = none := (by simp [cutTag, hk])
    cases st with
    | true =>
      repeat (first | refine Run.seq ?_ | refine Run.region ?_ | refine Run.cond_t rfl ?_ | refine Ops.pure T rfl (by decide) rfl ?_)
      refine Ops.call ((name_checkTag J3 [] (by decide))) rfl (by decide) call70 rfl ?_
      rintro w J4 l4 hw
      obtain ⟨b3, rfl⟩ := ErrIs.bad (w := w) hw
      try unfold errV
      repeat (first | refine Run.seq ?_ | refine Run.region ?_ | refine Ops.nil ?_ | refine Run.cond_t rfl ?_ | refine Ops.neqNil T rfl (by decide) rfl rfl rfl rfl rfl ?_ | refine Ops.pure T rfl (by decide) rfl ?_)
      refine Ops.buildL bd61 rfl (by decide) rfl rfl ?_
      repeat (first | refine Ops.nil ?_ | refine Ops.pure T rfl (by decide) rfl ?_ | refine Ops.store 1 rfl rfl rfl rfl rfl (T.sizeOk rfl) rfl (Nat.le_of_ble_eq_true rfl) rfl rfl ?_)
      refine Run.retCT T 1 (by rw [hCf]; exact func26) results26 rfl rfl rfl rfl rfl rfl rfl (hR _ _ _ ?_)
      exact ⟨rfl, none, ⟨b3, rfl⟩, TagAns.strict hcut rfl, fun x h => by cases h⟩
    | false =>
      repeat (first | refine Run.seq ?_ | refine Run.region ?_ | refine Ops.nil ?_ | refine Run.skip ?_ | refine Run.cond_t rfl ?_ | refine Run.cond_f rfl ?_ | refine Ops.eqlStr rfl (by decide) rfl rfl ?_ | refine Ops.pure T rfl (by decide) rfl ?_ | refine Ops.load 0 rfl (by decide) rfl rfl (T.aggOk rfl) rfl ?_)
      have hbl : (s : Tx).length ≤ s.length := by first | (simp; done) | (simp; omega) | omega
      refine Ops.call ((name_NewRepository J3 (s) v ⟨false, ins, reg, tag⟩ (ho3) (by omega))) rfl (by decide) call23 rfl ?_
      rintro w J5 l5 ⟨a, hres, hans, hlen⟩
      cases a with
      | none =>
        obtain ⟨b5, rfl⟩ := hres
        unfold errV
        repeat (first | refine Ops.pure T rfl (by decide) rfl ?_)
        refine Ops.alloc rfl (by decide) (T.zeroOk rfl) rfl (fun b6 => ?_)
        try unfold errV
        repeat (first | refine Run.seq ?_ | refine Run.region ?_ | refine Ops.nil ?_ | refine Run.cond_t rfl ?_ | refine Ops.neqNil T rfl (by decide) rfl rfl rfl rfl rfl ?_ | refine Ops.pure T rfl (by decide) rfl ?_ | refine Ops.store 0 rfl rfl rfl rfl rfl (T.sizeOk rfl) rfl (Nat.le_of_ble_eq_true rfl) rfl rfl ?_)
        refine Ops.buildL bd61 rfl (by decide) rfl rfl ?_
        repeat (first | refine Ops.nil ?_ | refine Ops.pure T rfl (by decide) rfl ?_ | refine Ops.store 2 rfl rfl rfl rfl rfl (T.sizeOk rfl) rfl (Nat.le_of_ble_eq_true rfl) rfl rfl ?_)
        refine Run.retCT T 2 (by rw [hCf]; exact func26) results26 rfl rfl rfl rfl rfl rfl rfl (hR _ _ _ ?_)
        exact ⟨rfl, none, ⟨b5, rfl⟩, TagAns.weak hcut rfl hans, fun x h => by cases h⟩
      | some x =>
        have hres2 : w = _ := hres
        subst hres2
        repeat (first | refine Ops.pure T rfl (by decide) rfl ?_)
        refine Ops.alloc rfl (by decide) (T.zeroOk rfl) rfl (fun b6 => ?_)
        repeat (first | refine Run.seq ?_ | refine Run.region ?_ | refine Ops.nil ?_ | refine Run.skip ?_ | refine Run.cond_f rfl ?_ | refine Ops.neqNil T rfl (by decide) rfl rfl rfl rfl rfl ?_ | refine Ops.pure T rfl (by decide) rfl ?_ | refine Ops.loadN 0 rfl (by decide) rfl rfl (T.aggOk rfl) (T.sizeOk rfl) rfl rfl ?_ | refine Ops.store 0 rfl rfl rfl rfl rfl (T.sizeOk rfl) rfl (Nat.le_of_ble_eq_true rfl) rfl rfl ?_)
        refine Ops.buildL bd61 rfl (by decide) rfl rfl ?_
        repeat (first | refine Ops.nil ?_ | refine Ops.pure T rfl (by decide) rfl ?_ | refine Ops.store 2 rfl rfl rfl rfl rfl (T.sizeOk rfl) rfl (Nat.le_of_ble_eq_true rfl) rfl rfl ?_)
        refine Run.retCT T 2 (by rw [hCf]; exact func26) results26 rfl rfl rfl rfl rfl rfl rfl (hR _ _ _ ?_)
        refine ⟨rfl, some (x.1, x.2, tagOr tag), rfl, TagAns.weak hcut rfl hans, fun y h => ?_⟩
        cases h
        obtain ⟨q1, q2, q3⟩ := hlen x rfl
        have q4 := tagOr_len tag
        refine ⟨q1, ?_, ?_, ?_⟩ <;> simp only at * <;> first | omega | (simp; omega)
  | some k =>
    obtain ⟨hlt, _, _⟩ := lx_split hk
    obtain ⟨hsp, hjoin⟩ := spl_last hk
    have hpos := List.length_pos_iff.2 (spl_pos 58 (s.take k))
    generalize hpre : spl 58 (s.take k) = pre at *
    have hle : (spl 58 s).length = pre.length + 1 := by rw [hsp]; simp
    rw [hle] at hS ⊢
    rw [hsp] at hS
    have hct := cutTag_lx hk
    repeat (first | refine Run.seq ?_ | refine Run.region ?_ | refine Ops.nil ?_ | refine Ops.gtr rfl (by decide) rfl rfl ?_ | refine Ops.pure T rfl (by decide) rfl ?_)
    rw [decide_eq_true (show (1 : Int) < ((pre.length + 1 : Nat) : Int) by omega)]
    repeat (first | refine Ops.sub rfl (by decide) rfl rfl (wI (by first | omega | (simp only [List.length_cons, List.length_nil] ; omega) | (simp; omega)) (by first | omega | (simp only [List.length_cons, List.length_nil] ; omega) | (simp; omega))) ?_ | refine Ops.pure T rfl (by decide) rfl ?_)
    have ej : (((pre.length + 1 : Nat) : Int) - 1).toNat = pre.length := by omega
    refine Ops.indexSl hS rfl (by decide) rfl rfl (T.undOk rfl) (T.sizeOk rfl) (by omega) (by simp; omega) ?_
    rintro b_ off_ x cs_ hx hr_ hA_
    obtain rfl : cs_ = [_] := hr_
    rw [ej] at hx
    obtain rfl : s.drop (k + 1) = x := by simpa using hx
    refine Ops.loadI rfl (by decide) rfl hA_ (T.aggOk rfl) ?_
    have htl : (s.drop (k + 1)).length ≤ s.length := by simp
    refine Ops.call ((name_zzContains (s.drop (k + 1)) 47 J3 (by omega))) rfl (by decide) call68 rfl ?_
    rintro _ J4 l4 rfl
    have ho4 := ho3.mono l4
    replace hS := hS.mono l4
    cases h47 : hasB 47 (s.drop (k + 1)) with
    | true =>
      rw [h47] at hct
      repeat (first | refine Run.seq ?_ | refine Run.region ?_ | refine Ops.nil ?_ | refine Run.skip ?_ | refine Run.cond_f rfl ?_ | refine Ops.neqStr rfl (by decide) rfl rfl ?_ | refine Ops.pure T rfl (by decide) rfl ?_ | refine Ops.load 0 rfl (by decide) rfl rfl (T.aggOk rfl) rfl ?_)
      have hcut : cutTag s = none := hct
      cases st with
      | true =>
        repeat (first | refine Run.seq ?_ | refine Run.region ?_ | refine Run.cond_t rfl ?_ | refine Ops.pure T rfl (by decide) rfl ?_)
        refine Ops.call ((name_checkTag J4 [] (by decide))) rfl (by decide) call70 rfl ?_
        rintro w J4 l4 hw
        obtain ⟨b3, rfl⟩ := ErrIs.bad (w := w) hw
        try unfold errV
        repeat (first | refine Run.seq ?_ | refine Run.region ?_ | refine Ops.nil ?_ | refine Run.cond_t rfl ?_ | refine Ops.neqNil T rfl (by decide) rfl rfl rfl rfl rfl ?_ | refine Ops.pure T rfl (by decide) rfl ?_)
        refine Ops.buildL bd61 rfl (by decide) rfl rfl ?_
        repeat (first | refine Ops.nil ?_ | refine Ops.pure T rfl (by decide) rfl ?_ | refine Ops.store 1 rfl rfl rfl rfl rfl (T.sizeOk rfl) rfl (Nat.le_of_ble_eq_true rfl) rfl rfl ?_)
        refine Run.retCT T 1 (by rw [hCf]; exact func26) results26 rfl rfl rfl rfl rfl rfl rfl (hR _ _ _ ?_)
        exact ⟨rfl, none, ⟨b3, rfl⟩, TagAns.strict hcut rfl, fun x h => by cases h⟩
      | false =>
        repeat (first | refine Run.seq ?_ | refine Run.region ?_ | refine Ops.nil ?_ | refine Run.skip ?_ | refine Run.cond_t rfl ?_ | refine Run.cond_f rfl ?_ | refine Ops.eqlStr rfl (by decide) rfl rfl ?_ | refine Ops.pure T rfl (by decide) rfl ?_ | refine Ops.load 0 rfl (by decide) rfl rfl (T.aggOk rfl) rfl ?_)
        have hbl : (s : Tx).length ≤ s.length := by first | (simp; done) | (simp; omega) | omega
        refine Ops.call ((name_NewRepository J4 (s) v ⟨false, ins, reg, tag⟩ (ho4) (by omega))) rfl (by decide) call23 rfl ?_
        rintro w J5 l5 ⟨a, hres, hans, hlen⟩
        cases a with
        | none =>
          obtain ⟨b5, rfl⟩ := hres
          unfold errV
          repeat (first | refine Ops.pure T rfl (by decide) rfl ?_)
          refine Ops.alloc rfl (by decide) (T.zeroOk rfl) rfl (fun b6 => ?_)
          try unfold errV
          repeat (first | refine Run.seq ?_ | refine Run.region ?_ | refine Ops.nil ?_ | refine Run.cond_t rfl ?_ | refine Ops.neqNil T rfl (by decide) rfl rfl rfl rfl rfl ?_ | refine Ops.pure T rfl (by decide) rfl ?_ | refine Ops.store 0 rfl rfl rfl rfl rfl (T.sizeOk rfl) rfl (Nat.le_of_ble_eq_true rfl) rfl rfl ?_)
          refine Ops.buildL bd61 rfl (by decide) rfl rfl ?_
          repeat (first | refine Ops.nil ?_ | refine Ops.pure T rfl (by decide) rfl ?_ | refine Ops.store 2 rfl rfl rfl rfl rfl (T.sizeOk rfl) rfl (Nat.le_of_ble_eq_true rfl) rfl rfl ?_)
          refine Run.retCT T 2 (by rw [hCf]; exact func26) results26 rfl rfl rfl rfl rfl rfl rfl (hR _ _ _ ?_)
          exact ⟨rfl, none, ⟨b5, rfl⟩, TagAns.weak hcut rfl hans, fun x h => by cases h⟩
        | some x =>
          have hres2 : w = _ := hres
          subst hres2
          repeat (first | refine Ops.pure T rfl (by decide) rfl ?_)
          refine Ops.alloc rfl (by decide) (T.zeroOk rfl) rfl (fun b6 => ?_)
          repeat (first | refine Run.seq ?_ | refine Run.region ?_ | refine Ops.nil ?_ | refine Run.skip ?_ | refine Run.cond_f rfl ?_ | refine Ops.neqNil T rfl (by decide) rfl rfl rfl rfl rfl ?_ | refine Ops.pure T rfl (by decide) rfl ?_ | refine Ops.loadN 0 rfl (by decide) rfl rfl (T.aggOk rfl) (T.sizeOk rfl) rfl rfl ?_ | refine Ops.store 0 rfl rfl rfl rfl rfl (T.sizeOk rfl) rfl (Nat.le_of_ble_eq_true rfl) rfl rfl ?_)
          refine Ops.buildL bd61 rfl (by decide) rfl rfl ?_
          repeat (first | refine Ops.nil ?_ | refine Ops.pure T rfl (by decide) rfl ?_ | refine Ops.store 2 rfl rfl rfl rfl rfl (T.sizeOk rfl) rfl (Nat.le_of_ble_eq_true rfl) rfl rfl ?_)
          refine Run.retCT T 2 (by rw [hCf]; exact func26) results26 rfl rfl rfl rfl rfl rfl rfl (hR _ _ _ ?_)
          refine ⟨rfl, some (x.1, x.2, tagOr tag), rfl, TagAns.weak hcut rfl hans, fun y h => ?_⟩
          cases h
          obtain ⟨q1, q2, q3⟩ := hlen x rfl
          have q4 := tagOr_len tag
          refine ⟨q1, ?_, ?_, ?_⟩ <;> simp only at * <;> first | omega | (simp; omega)
    | false =>
      rw [h47] at hct
      simp only [Bool.false_eq_true, if_false] at hct
      repeat (first | refine Run.seq ?_ | refine Run.region ?_ | refine Ops.nil ?_ | refine Run.cond_t rfl ?_ | refine Ops.sub rfl (by decide) rfl rfl (wI (by first | omega | (simp only [List.length_cons, List.length_nil] ; omega) | (simp; omega)) (by first | omega | (simp only [List.length_cons, List.length_nil] ; omega) | (simp; omega))) ?_ | refine Ops.pure T rfl (by decide) rfl ?_)
      refine Ops.sliceSl (l' := 0) (h' := pre.length) (kd := .i64) (kd' := .i64) hS rfl (by decide) rfl (.inr ⟨_, rfl, by show some (Value.int .i64 (((pre.length + 1 : Nat) : Int) - 1)) = _; congr 2; omega⟩) (.inl ⟨rfl, rfl⟩) (Nat.zero_le _) (by simp) (T.undOk rfl) (T.sizeOk rfl) ?_
      intro v' hS'
      have e2 : (((pre ++ [s.drop (k + 1)]).take pre.length).drop 0) = pre := by simp
      rw [e2] at hS'
      refine Ops.call ((strings_Join J4 pre [58] v' hS' (by omega) (by rw [hjoin]; simp; omega))) rfl (by decide) call69 rfl ?_
      rintro _ J5 l5 ⟨rfl, rfl⟩
      rw [hjoin]
      repeat (first | refine Run.seq ?_ | refine Run.region ?_ | refine Ops.nil ?_ | refine Ops.sub rfl (by decide) rfl rfl (wI (by first | omega | (simp only [List.length_cons, List.length_nil] ; omega) | (simp; omega)) (by first | omega | (simp only [List.length_cons, List.length_nil] ; omega) | (simp; omega))) ?_ | refine Ops.pure T rfl (by decide) rfl ?_)
      refine Ops.indexSl hS rfl (by decide) rfl rfl (T.undOk rfl) (T.sizeOk rfl) (by omega) (by simp; omega) ?_
      rintro b_ off_ x cs_ hx hr_ hA_
      obtain rfl : cs_ = [_] := hr_
      rw [ej] at hx
      obtain rfl : s.drop (k + 1) = x := by simpa using hx
      refine Ops.loadI rfl (by decide) rfl hA_ (T.aggOk rfl) ?_
      generalize hd : s.drop (k + 1) = t at *
      repeat (first | refine Run.seq ?_ | refine Run.region ?_ | refine Ops.nil ?_ | refine Ops.eqlStr rfl (by decide) rfl rfl ?_ | refine Ops.pure T rfl (by decide) rfl ?_)
      cases ht0 : decide (t = []) with
      | true =>
        have ht0' := of_decide_eq_true ht0
        repeat (first | refine Run.seq ?_ | refine Run.region ?_ | refine Run.cond_t rfl ?_)
        refine Ops.buildL bd61 rfl (by decide) rfl rfl ?_
        repeat (first | refine Ops.pure T rfl (by decide) rfl ?_)
        refine Ops.lit T rfl rfl rfl (by decide) rfl (by decide) (by decide) rfl rfl rfl rfl rfl (fun b3 => ?_)
        refine Ops.call ((name_newErrBadName _ _ _)) rfl (by decide) call58 rfl ?_
        rintro _ J6 l6 ⟨b4, rfl⟩
        repeat (first | refine Ops.nil ?_ | refine Ops.pure T rfl (by decide) rfl ?_ | refine Ops.store 2 rfl rfl rfl rfl rfl (T.sizeOk rfl) rfl (Nat.le_of_ble_eq_true rfl) rfl rfl ?_)
        refine Run.retCT T 2 (by rw [hCf]; exact func26) results26 rfl rfl rfl rfl rfl rfl rfl (hR _ _ _ ?_)
        exact ⟨rfl, none, ⟨b4, rfl⟩, TagAns.no hct (by rw [ht0']; decide), fun x h => by cases h⟩
      | false =>
        repeat (first | refine Run.seq ?_ | refine Run.region ?_ | refine Run.skip ?_ | refine Run.cond_f rfl ?_ | refine Ops.neqStr rfl (by decide) rfl rfl ?_ | refine Ops.pure T rfl (by decide) rfl ?_)
        rw [ht0]
        repeat (first | refine Run.seq ?_ | refine Run.region ?_ | refine Ops.nil ?_ | refine Run.cond_t rfl ?_ | refine Ops.not rfl (by decide) ?_ | refine Ops.pure T rfl (by decide) rfl ?_)
        refine Ops.call ((name_checkTag _ t (by omega))) rfl (by decide) call70 rfl ?_
        rintro w J6 l6 hw
        cases htg : tagGood t with
        | false =>
          rw [htg] at hw
          obtain ⟨b3, rfl⟩ := hw.bad
          try unfold errV
          repeat (first | refine Run.seq ?_ | refine Run.region ?_ | refine Ops.nil ?_ | refine Run.cond_t rfl ?_ | refine Ops.neqNil T rfl (by decide) rfl rfl rfl rfl rfl ?_ | refine Ops.pure T rfl (by decide) rfl ?_)
          refine Ops.buildL bd61 rfl (by decide) rfl rfl ?_
          repeat (first | refine Ops.nil ?_ | refine Ops.pure T rfl (by decide) rfl ?_ | refine Ops.store 1 rfl rfl rfl rfl rfl (T.sizeOk rfl) rfl (Nat.le_of_ble_eq_true rfl) rfl rfl ?_)
          refine Run.retCT T 1 (by rw [hCf]; exact func26) results26 rfl rfl rfl rfl rfl rfl rfl (hR _ _ _ ?_)
          exact ⟨rfl, none, ⟨b3, rfl⟩, TagAns.no hct htg, fun x h => by cases h⟩
        | true =>
          rw [htg] at hw
          obtain rfl := hw.good
          repeat (first | refine Run.seq ?_ | refine Run.region ?_ | refine Ops.nil ?_ | refine Run.skip ?_ | refine Run.cond_f rfl ?_ | refine Ops.eqlStr rfl (by decide) rfl rfl ?_ | refine Ops.neqNil T rfl (by decide) rfl rfl rfl rfl rfl ?_ | refine Ops.pure T rfl (by decide) rfl ?_)
          rw [ht0]
          repeat (first | refine Run.seq ?_ | refine Run.region ?_ | refine Run.skip ?_ | refine Run.cond_f rfl ?_ | refine Ops.pure T rfl (by decide) rfl ?_)
          have hbl : (s.take k : Tx).length ≤ s.length := by first | (simp; done) | (simp; omega) | omega
          refine Ops.call ((name_NewRepository J6 (s.take k) v ⟨st, ins, reg, tag⟩ (ho4.mono l6) (by omega))) rfl (by decide) call23 rfl ?_
          rintro w J5 l5 ⟨a, hres, hans, hlen⟩
          cases a with
          | none =>
            obtain ⟨b5, rfl⟩ := hres
            unfold errV
            repeat (first | refine Ops.pure T rfl (by decide) rfl ?_)
            refine Ops.alloc rfl (by decide) (T.zeroOk rfl) rfl (fun b6 => ?_)
            try unfold errV
            repeat (first | refine Run.seq ?_ | refine Run.region ?_ | refine Ops.nil ?_ | refine Run.cond_t rfl ?_ | refine Ops.neqNil T rfl (by decide) rfl rfl rfl rfl rfl ?_ | refine Ops.pure T rfl (by decide) rfl ?_ | refine Ops.store 0 rfl rfl rfl rfl rfl (T.sizeOk rfl) rfl (Nat.le_of_ble_eq_true rfl) rfl rfl ?_)
            refine Ops.buildL bd61 rfl (by decide) rfl rfl ?_
            repeat (first | refine Ops.nil ?_ | refine Ops.pure T rfl (by decide) rfl ?_ | refine Ops.store 2 rfl rfl rfl rfl rfl (T.sizeOk rfl) rfl (Nat.le_of_ble_eq_true rfl) rfl rfl ?_)
            refine Run.retCT T 2 (by rw [hCf]; exact func26) results26 rfl rfl rfl rfl rfl rfl rfl (hR _ _ _ ?_)
            exact ⟨rfl, none, ⟨b5, rfl⟩, TagAns.of hct htg hans, fun x h => by cases h⟩
          | some x =>
            have hres2 : w = _ := hres
            subst hres2
            repeat (first | refine Ops.pure T rfl (by decide) rfl ?_)
            refine Ops.alloc rfl (by decide) (T.zeroOk rfl) rfl (fun b6 => ?_)
            repeat (first | refine Run.seq ?_ | refine Run.region ?_ | refine Ops.nil ?_ | refine Run.skip ?_ | refine Run.cond_f rfl ?_ | refine Ops.neqNil T rfl (by decide) rfl rfl rfl rfl rfl ?_ | refine Ops.pure T rfl (by decide) rfl ?_ | refine Ops.loadN 0 rfl (by decide) rfl rfl (T.aggOk rfl) (T.sizeOk rfl) rfl rfl ?_ | refine Ops.store 0 rfl rfl rfl rfl rfl (T.sizeOk rfl) rfl (Nat.le_of_ble_eq_true rfl) rfl rfl ?_)
            refine Ops.buildL bd61 rfl (by decide) rfl rfl ?_
            repeat (first | refine Ops.nil ?_ | refine Ops.pure T rfl (by decide) rfl ?_ | refine Ops.store 2 rfl rfl rfl rfl rfl (T.sizeOk rfl) rfl (Nat.le_of_ble_eq_true rfl) rfl rfl ?_)
            refine Run.retCT T 2 (by rw [hCf]; exact func26) results26 rfl rfl rfl rfl rfl rfl rfl (hR _ _ _ ?_)
            refine ⟨rfl, some (x.1, x.2, t), rfl, TagAns.of hct htg hans, fun y h => ?_⟩
            cases h
            obtain ⟨q1, q2, q3⟩ := hlen x rfl
            have q4 := tagOr_len tag
            refine ⟨q1, ?_, ?_, ?_⟩ <;> simp only at * <;> first | omega | (simp; omega)
end Go.V
namespace Go.V
set_option linter.unusedVariables false
set_option linter.unusedSimpArgs false
set_option maxRecDepth 10000
def RefAns (o : NOpt) (s : Tx) (a : Option (Bool × Tx × Tx × Tx)) : Prop := ∀ k r p t ok, sParts o 0 s = (k, r, p, t, ok, false) → match a with
  | some x => ok = true ∧ k = (if x.1 then 4 else 3) ∧ x.2.1 = r ∧ fullP r x.2.2.1 = p ∧ x.2.2.2 = t
  | none => ok = false
theorem parts0 {o : NOpt} {s : Tx} {k : Int} {r p t : Tx} {ok : Bool} (h : sParts o 0 s = (k, r, p, t, ok, false)) :
    (k = 3 ∧ ok = true ∧ sTag o s = (r, p, t, true, false)) ∨ (k = 4 ∧ (∃ r' p' t', sTag o s = (r', p', t', false, false)) ∧ sDig o s = (r, p, t, ok, false)) := by
  unfold sParts at h
  simp only [show ¬ (0 : Int) = 1 by decide, show ¬ (0 : Int) = 2 by decide, show ¬ (0 : Int) = 3 by decide, show ¬ (0 : Int) = 4 by decide, if_false] at h
  split at h
  · rename_i hc
    simp only [Bool.and_eq_true, Bool.not_eq_true'] at hc
    simp only [Prod.mk.injEq] at h
    obtain ⟨h0, h1, h2, h3, h4, h5⟩ := h
    exact .inr ⟨h0.symm, ⟨_, _, _, Prod.ext rfl (Prod.ext rfl (Prod.ext rfl (Prod.ext hc.1 hc.2)))⟩, Prod.ext h1 (Prod.ext h2 (Prod.ext h3 (Prod.ext h4 h5)))⟩
  · rename_i hc
    simp only [Prod.mk.injEq] at h
    obtain ⟨h0, h1, h2, h3, h4, h5⟩ := h
    have hok : (sTag o s).2.2.2.1 = true := by
      cases hh : (sTag o s).2.2.2.1 with
      | true => rfl
      | false => rw [hh, h5] at hc; simp at hc
    exact .inl ⟨h0.symm, by rw [← h4, hok], Prod.ext h1 (Prod.ext h2 (Prod.ext h3 (Prod.ext hok h5)))⟩
theorem RefAns.tag {o : NOpt} {s : Tx} {x : Tx × Tx × Tx} (ht : TagAns o s (some x)) : RefAns o s (some (false, x)) := by
  intro k r p t ok h
  rcases parts0 h with ⟨h1, h2, h3⟩ | ⟨h1, ⟨r', p', t', h2⟩, h3⟩
  · have := ht _ _ _ _ h3
    exact ⟨h2, h1, this.2⟩
  · have := ht _ _ _ _ h2
    exact absurd this.1 (by decide)
theorem RefAns.dig {o : NOpt} {s : Tx} {x : Tx × Tx × Tx} (ht : TagAns o s none) (hd : DigAns o s (some x)) : RefAns o s (some (true, x)) := by
  intro k r p t ok h
  rcases parts0 h with ⟨h1, h2, h3⟩ | ⟨h1, _, h3⟩
  · have : true = false := ht _ _ _ _ h3
    cases this
  · have := hd _ _ _ _ h3
    exact ⟨this.1, h1, this.2⟩
theorem RefAns.no {o : NOpt} {s : Tx} (ht : TagAns o s none) (hd : DigAns o s none) : RefAns o s none := by
  intro k r p t ok h
  rcases parts0 h with ⟨h1, h2, h3⟩ | ⟨h1, _, h3⟩
  · have : true = false := ht _ _ _ _ h3
    cases this
  · exact hd _ _ _ _ h3
def hasPre (s : Tx) : Prop := ∃ h y, (h = [104, 116, 116, 112, 58] ∨ h = [104, 116, 116, 112, 115, 58]) ∧ s = h ++ 47 :: 47 :: y
theorem hasPre_cut {s : Tx} (h : hasPre s) : (hostCut s).1 = [104, 116, 116, 112, 58] ∨ (hostCut s).1 = [104, 116, 116, 112, 115, 58] := by
  obtain ⟨h0, y, h1 | h1, rfl⟩ := h
  · subst h1
    have : ix 47 ([104, 116, 116, 112, 58] ++ 47 :: 47 :: y) = some 5 := ix_app (x := [104, 116, 116, 112, 58]) (by decide)
    exact .inl (by unfold hostCut; rw [this]; rfl)
  · subst h1
    have : ix 47 ([104, 116, 116, 112, 115, 58] ++ 47 :: 47 :: y) = some 6 := ix_app (x := [104, 116, 116, 112, 115, 58]) (by decide)
    exact .inr (by unfold hostCut; rw [this]; rfl)
theorem hasPre_open {s r p : Tx} {b ok : Bool} {reg : Tx} (h : hasPre s) : sRepo b reg s ≠ (r, p, ok, false) := by
  intro hs
  have hop : (sReg false reg (hostCut s).1).2.2 = true := by
    rcases hasPre_cut h with e | e <;> (rw [e]; unfold sReg; rfl)
  unfold sRepo at hs
  simp only at hs
  split at hs
  · simp [hop] at hs
  · split at hs
    · simp [hop] at hs
    · simp [hop] at hs
theorem pre_left {h x y t : Tx} {c : UInt8} (he : h ++ 47 :: 47 :: y = x ++ c :: t) (hx : h.length + 2 ≤ x.length) : ∃ z, x = h ++ 47 :: 47 :: z := by
  have h1 : (h ++ 47 :: 47 :: y).take (h.length + 2) = h ++ [47, 47] := by
    rw [List.take_append, List.take_of_length_le (by omega)]
    simp
  rw [he, List.take_append_of_le_length (by omega)] at h1
  refine ⟨x.drop (h.length + 2), ?_⟩
  conv => lhs; rw [← List.take_append_drop (h.length + 2) x, h1]
  simp
theorem hasPre_tag {x t : Tx} (h : hasPre (x ++ 58 :: t)) (ht : hasB 47 t = false) : hasPre x := by
  obtain ⟨h0, y, h1, he⟩ := h
  rcases Nat.lt_or_ge x.length (h0.length + 2) with hl | hl
  · exfalso
    have hge : x.length < h0.length := by
      rcases Nat.lt_or_ge x.length h0.length with h | h
      · exact h
      · exfalso
        have hx : (x ++ 58 :: t)[x.length]? = some 58 := by simp
        rw [he, List.getElem?_append_right h] at hx
        have : x.length - h0.length = 0 ∨ x.length - h0.length = 1 := by omega
        rcases this with e | e <;> (rw [e] at hx; revert hx; simp)
    have h2 : (x ++ 58 :: t).drop (x.length + 1) = t := by simp
    have h3 : (h0 ++ 47 :: 47 :: y).drop (x.length + 1) = t := by rw [← he]; exact h2
    have h4 : (47 : UInt8) ∈ (h0 ++ 47 :: 47 :: y).drop (x.length + 1) := by
      have e : h0 ++ 47 :: 47 :: y = (h0 ++ [47]) ++ 47 :: y := by simp
      rw [e, List.drop_append]
      refine List.mem_append_right _ ?_
      have : x.length + 1 - (h0 ++ [47]).length = 0 := by simp; omega
      rw [this]
      exact List.mem_cons_self
    rw [h3] at h4
    exact hasB_false.1 ht _ h4 rfl
  · obtain ⟨z, hz⟩ := pre_left he.symm hl
    exact ⟨h0, z, h1, hz⟩
theorem hasPre_at {x t : Tx} (h : hasPre (x ++ 64 :: t)) : hasPre x := by
  obtain ⟨h0, y, h1, he⟩ := h
  have hl0 : h0.length = 5 ∨ h0.length = 6 := by rcases h1 with rfl | rfl <;> decide
  rcases Nat.lt_or_ge x.length (h0.length + 2) with hl | hl
  · exfalso
    have hx : (x ++ 64 :: t)[x.length]? = some 64 := by simp
    rw [he] at hx
    have : ∀ b ∈ h0 ++ [47, 47], b ≠ 64 := by rcases h1 with rfl | rfl <;> decide
    have e : h0 ++ 47 :: 47 :: y = (h0 ++ [47, 47]) ++ y := by simp
    rw [e, List.getElem?_append_left (by simp; omega)] at hx
    exact this 64 (List.mem_of_getElem? hx) rfl
  · obtain ⟨z, hz⟩ := pre_left he.symm hl
    exact ⟨h0, z, h1, hz⟩
theorem hasPre_sTag {o : NOpt} {s r p t : Tx} (h : hasPre s) : sTag o s ≠ (r, p, t, true, false) := by
  intro hs
  unfold sTag at hs
  split at hs
  · rename_i x y hc
    split at hs
    · simp only [Prod.mk.injEq] at hs
      obtain ⟨h1, h2, _, h4, h5⟩ := hs
      obtain ⟨he, _, h47⟩ := cutTag_eq hc
      rw [he] at h
      exact hasPre_open (hasPre_tag h h47) (Prod.ext h1 (Prod.ext h2 (Prod.ext h4 h5)))
    · simp at hs
  · split at hs
    · simp at hs
    · simp only [Prod.mk.injEq] at hs
      obtain ⟨h1, h2, _, h4, h5⟩ := hs
      exact hasPre_open h (Prod.ext h1 (Prod.ext h2 (Prod.ext h4 h5)))
theorem hasPre_off {s : Tx} (h : hasPre s) : hasPre (offTag s) := by
  unfold offTag
  split
  · rename_i x y hc
    split
    · obtain ⟨he, _, h47⟩ := cutTag_eq hc
      rw [he] at h
      exact hasPre_tag h h47
    · exact h
  · exact h
theorem hasPre_sDig {o : NOpt} {s r p t : Tx} (h : hasPre s) : sDig o s ≠ (r, p, t, true, false) := by
  intro hs
  unfold sDig at hs
  split at hs
  · simp at hs
  · rename_i k hk
    split at hs
    · split at hs
      · simp only [Prod.mk.injEq, Bool.or_eq_false_iff] at hs
        obtain ⟨h1, h2, _, h4, h5, _⟩ := hs
        obtain ⟨he, _⟩ := ix_split hk
        have h' := h
        rw [he] at h'
        exact hasPre_open (hasPre_off (hasPre_at h')) (Prod.ext h1 (Prod.ext h2 (Prod.ext h4 h5)))
      · simp at hs
    · simp at hs
theorem starts_pre {s : Tx} (h : starts [104, 116, 116, 112, 58, 47, 47] s = true ∨ starts [104, 116, 116, 112, 115, 58, 47, 47] s = true) : hasPre s := by
  rcases h with h | h <;> simp only [starts, Bool.and_eq_true, decide_eq_true_eq] at h
  · refine ⟨[104, 116, 116, 112, 58], s.drop 7, .inl rfl, ?_⟩
    conv => lhs; rw [← List.take_append_drop 7 s]
    rw [show s.take 7 = _ from h.2]; rfl
  · refine ⟨[104, 116, 116, 112, 115, 58], s.drop 8, .inr rfl, ?_⟩
    conv => lhs; rw [← List.take_append_drop 8 s]
    rw [show s.take 8 = _ from h.2]; rfl
theorem RefAns.http {o : NOpt} {s : Tx} (h : hasPre s) : RefAns o s none := by
  intro k r p t ok hs
  rcases parts0 hs with ⟨_, _, h3⟩ | ⟨_, _, h3⟩
  · exact absurd h3 (hasPre_sTag h)
  · cases ok with
    | false => rfl
    | true => exact absurd h3 (hasPre_sDig h)
theorem DigAns.other {o : NOpt} {s : Tx} {k : Nat} {a : Option (Tx × Tx × Tx)} (h1 : ix 64 s = some k) (h2 : lx 64 s = some k) (h3 : digGood (s.drop (k + 1)) = false) (h4 : otherDig (s.drop (k + 1)) = true) : DigAns o s a := by
  intro r p t ok hs
  unfold sDig at hs
  rw [h1] at hs
  simp [h2, h3, h4] at hs
theorem sDig_yes {o : NOpt} {s r p t : Tx} (h : sDig o s = (r, p, t, true, false)) : ∃ k, ix 64 s = some k ∧ lx 64 s = some k ∧ digGood (s.drop (k + 1)) = true := by
  unfold sDig at h
  split at h
  · simp at h
  · rename_i k hk
    split at h
    · rename_i hl
      split at h
      · rename_i hd
        exact ⟨k, hk, hl, hd⟩
      · simp at h
    · simp at h
end Go.V
namespace Go.V
open Go.Proofs.Tryz
open Go.RowKit
set_option linter.unusedVariables false
set_option linter.unusedSimpArgs false
set_option maxRecDepth 10000
attribute [local irreducible] Run Ops
theorem allR_eq {s cs : Tx} (hc : ascii cs) : allR s cs = allIn cs s := by
  have := runes_all (s := s) hc s.length 0 (by omega)
  rw [List.drop_zero] at this
  exact this
theorem digGood_of {s : Tx} {k : Nat} (hk : ix 58 s = some k) (h1 : s.take k = [115, 104, 97, 50, 53, 54]) (h2 : s.length = k + 65) (h3 : allIn hexT (s.drop (k + 1)) = true) : digGood s = true := by
  have hlt := ix_lt hk
  have hk6 : k = 6 := by
    have : (s.take k).length = 6 := by rw [h1]; rfl
    simp at this; omega
  subst hk6
  obtain ⟨e, _⟩ := ix_split hk
  have h6 : s[6]? = some 58 := by
    conv => lhs; rw [e]
    rw [List.getElem?_append_right (by simp; omega)]
    simp [Nat.min_eq_left (show 6 ≤ s.length by omega)]
  have h7 : s.take 7 = [115, 104, 97, 50, 53, 54, 58] := by
    rw [show 7 = 6 + 1 from rfl, List.take_add_one, h6, h1]; rfl
  simp [digGood, h2, h7, sWithin, h3]
theorem dl {s : Tx} {k : Nat} (hk : ix 58 s = some k) (hg : digGood s = true) : k = 6 ∧ s.take k = [115, 104, 97, 50, 53, 54] ∧ s.length = 71 ∧ allIn hexT (s.drop (k + 1)) = true := by
  obtain ⟨g1, g2, g3, g4⟩ := digGood_ix hg
  rw [hk] at g1
  cases g1
  exact ⟨rfl, g2, g3, g4⟩
theorem dn {s : Tx} (hk : ix 58 s = none) (hg : digGood s = true) : False := by
  obtain ⟨g1, _⟩ := digGood_ix hg
  rw [hk] at g1; cases g1
set_option maxHeartbeats 4000000 in
theorem name_zzDigest (I : Imm) (s : Tx) (hs : s.length ≤ 1099511627776) : Pure prog 72 [str s] I fun w J => ∃ r : Bool, (if r then w = .nilIface else ∃ t v, w = .iface t v) ∧ (digGood s = true → r = true) ∧ (r = true → digGood s = true ∨ otherDig s = true) := by
  refine Spec.enter 42 [(0, _)] func72 rfl ntmps72 (by simp) rfl ?_
  intro C hCf hR hCI
  repeat (first | refine Run.seq ?_ | refine Run.region ?_ | refine Ops.nil ?_ | refine Ops.pure T rfl (by decide) rfl ?_)
  refine Ops.call ((name_zzIndex s 58 I (by omega))) rfl (by decide) call98 rfl ?_
  rintro _ J1 l1 rfl
  cases hk : ix 58 s with
  | none =>
    rw [ixI_none hk]
    repeat (first | refine Run.seq ?_ | refine Run.region ?_ | refine Ops.nil ?_ | refine Run.cond_t rfl ?_ | refine Ops.not rfl (by decide) ?_ | refine Ops.leq rfl (by decide) rfl rfl ?_ | refine Ops.pure T rfl (by decide) rfl ?_)
    refine Run.fin (Run.ret1 (by rw [hCf]; exact func72) results72 rfl (hR _ _ _ ?_))
    exact ⟨rfl, false, ⟨_, _, rfl⟩, (fun hg => ((dn hk hg) : False).elim), (fun h => by cases h)⟩
  | some k =>
  rw [ixI_eq hk]
  have hlt := ix_lt hk
  repeat (first | refine Run.seq ?_ | refine Run.region ?_ | refine Ops.nil ?_ | refine Ops.leq rfl (by decide) rfl rfl ?_ | refine Ops.pure T rfl (by decide) rfl ?_)
  cases h0 : decide ((k : Int) ≤ 0) with
  | true =>
    repeat (first | refine Run.seq ?_ | refine Run.region ?_ | refine Ops.nil ?_ | refine Run.cond_t rfl ?_ | refine Ops.not rfl (by decide) ?_ | refine Ops.pure T rfl (by decide) rfl ?_)
    refine Run.fin (Run.ret1 (by rw [hCf]; exact func72) results72 rfl (hR _ _ _ ?_))
    exact ⟨rfl, false, ⟨_, _, rfl⟩, (fun hg => ((by have := (dl hk hg).1; have := of_decide_eq_true h0; omega) : False).elim), (fun h => by cases h)⟩
  | false =>
  repeat (first | refine Ops.nil ?_ | refine Ops.add rfl (by decide) rfl rfl (wI (by first | omega | (simp only [List.length_cons, List.length_nil] ; omega) | (simp; omega)) (by first | omega | (simp only [List.length_cons, List.length_nil] ; omega) | (simp; omega))) ?_ | refine Ops.eql rfl (by decide) rfl rfl ?_ | refine Ops.pure T rfl (by decide) rfl ?_ | refine Ops.lenS T rfl (by decide) rfl rfl ?_)
  cases h1 : decide ((k : Int) + 1 = (s.length : Int)) with
  | true =>
    repeat (first | refine Run.seq ?_ | refine Run.region ?_ | refine Ops.nil ?_ | refine Run.cond_t rfl ?_ | refine Ops.pure T rfl (by decide) rfl ?_)
    refine Run.fin (Run.ret1 (by rw [hCf]; exact func72) results72 rfl (hR _ _ _ ?_))
    exact ⟨rfl, false, ⟨_, _, rfl⟩, (fun hg => ((by have := (dl hk hg).1; have := (dl hk hg).2.2.1; have := of_decide_eq_true h1; omega) : False).elim), (fun h => by cases h)⟩
  | false =>
  have h1' := of_decide_eq_false h1
  repeat (first | refine Run.seq ?_ | refine Run.region ?_ | refine Ops.nil ?_ | refine Run.skip ?_ | refine Run.block ?_ | refine Run.cond_f rfl ?_ | refine Ops.eqlStr rfl (by decide) rfl rfl ?_ | refine Ops.pure T rfl (by decide) rfl ?_ | refine Ops.sliceStrHi rfl (by decide) (T.undOk rfl) rfl rfl (by first | omega | (simp only [List.length_cons, List.length_nil] ; omega) | (simp; omega)) (by first | omega | (simp only [List.length_cons, List.length_nil] ; omega) | (simp; omega)) ?_)
  have ek : ((k : Int)).toNat = k := by omega
  rw [ek]
  cases a1 : decide (s.take k = [115, 104, 97, 50, 53, 54]) with
  | true =>
    have a1' := of_decide_eq_true a1
    repeat (first | refine Run.seq ?_ | refine Run.region ?_ | refine Ops.nil ?_ | refine Run.inBlock ?_ | refine Run.cond_t rfl ?_ | refine Ops.neq rfl (by decide) rfl rfl ?_ | refine Ops.sub rfl (by decide) rfl rfl (wI (by first | omega | (simp only [List.length_cons, List.length_nil] ; omega) | (simp; omega)) (by first | omega | (simp only [List.length_cons, List.length_nil] ; omega) | (simp; omega))) ?_ | refine Ops.pure T rfl (by decide) rfl ?_ | refine Ops.lenS T rfl (by decide) rfl rfl ?_)
    cases hn : decide ((s.length : Int) - (k : Int) - 1 = 64) with
    | false =>
      repeat (first | refine Run.seq ?_ | refine Run.region ?_ | refine Ops.nil ?_ | refine Run.cond_t rfl ?_ | refine Ops.pure T rfl (by decide) rfl ?_)
      refine Run.fin (Run.ret1 (by rw [hCf]; exact func72) results72 rfl (hR _ _ _ ?_))
      exact ⟨rfl, false, ⟨_, _, rfl⟩, (fun hg => ((((fun hg hne => by have := (dl hk hg).1; have := (dl hk hg).2.2.1; omega) : digGood s = true → ¬ ((s.length : Int) - (k : Int) - 1 = 64) → False) hg (of_decide_eq_false hn)) : False).elim), (fun h => by cases h)⟩
    | true =>
    have hn' := of_decide_eq_true hn
    repeat (first | refine Run.seq ?_ | refine Run.region ?_ | refine Run.skip ?_ | refine Run.cond_f rfl ?_ | refine Ops.add rfl (by decide) rfl rfl (wI (by first | omega | (simp only [List.length_cons, List.length_nil] ; omega) | (simp; omega)) (by first | omega | (simp only [List.length_cons, List.length_nil] ; omega) | (simp; omega))) ?_ | refine Ops.pure T rfl (by decide) rfl ?_ | refine Ops.sliceStrLo rfl (by decide) (T.undOk rfl) rfl rfl (by first | omega | (simp only [List.length_cons, List.length_nil] ; omega) | (simp; omega)) (by first | omega | (simp only [List.length_cons, List.length_nil] ; omega) | (simp; omega)) ?_)
    have ek1 : ((k : Int) + 1).toNat = k + 1 := by omega
    rw [ek1]
    refine Ops.call ((name_zzOnly J1 (s.drop (k + 1)) hexT (by simp; omega) (by decide))) rfl (by decide) call105 rfl ?_
    rintro _ J2 l2 rfl
    rw [allR_eq ascii_hex]
    cases hx : allIn hexT (s.drop (k + 1)) with
    | false =>
      repeat (first | refine Run.seq ?_ | refine Run.region ?_ | refine Ops.nil ?_ | refine Run.cond_t rfl ?_ | refine Ops.pure T rfl (by decide) rfl ?_)
      refine Run.fin (Run.ret1 (by rw [hCf]; exact func72) results72 rfl (hR _ _ _ ?_))
      exact ⟨rfl, false, ⟨_, _, rfl⟩, (fun hg => ((by rw [(dl hk hg).2.2.2] at hx; cases hx) : False).elim), (fun h => by cases h)⟩
    | true =>
      repeat (first | refine Run.seq ?_ | refine Run.region ?_ | refine Ops.nil ?_ | refine Run.skip ?_ | refine Run.cond_f rfl ?_ | refine Ops.pure T rfl (by decide) rfl ?_)
      refine Run.fin (Run.ret1 (by rw [hCf]; exact func72) results72 rfl (hR _ _ _ ?_))
      exact ⟨rfl, true, rfl, fun _ => rfl, fun _ => .inl (digGood_of hk a1' (by omega) hx)⟩
  | false =>
  have a1' := of_decide_eq_false a1
  repeat (first | refine Run.seq ?_ | refine Run.region ?_ | refine Ops.nil ?_ | refine Run.cond_f rfl ?_ | refine Ops.eqlStr rfl (by decide) rfl rfl ?_ | refine Ops.pure T rfl (by decide) rfl ?_)
  cases a2 : decide (s.take k = [115, 104, 97, 51, 56, 52]) with
  | true =>
    have a2' := of_decide_eq_true a2
    repeat (first | refine Run.seq ?_ | refine Run.region ?_ | refine Ops.nil ?_ | refine Run.inBlock ?_ | refine Run.cond_t rfl ?_ | refine Ops.neq rfl (by decide) rfl rfl ?_ | refine Ops.sub rfl (by decide) rfl rfl (wI (by first | omega | (simp only [List.length_cons, List.length_nil] ; omega) | (simp; omega)) (by first | omega | (simp only [List.length_cons, List.length_nil] ; omega) | (simp; omega))) ?_ | refine Ops.pure T rfl (by decide) rfl ?_ | refine Ops.lenS T rfl (by decide) rfl rfl ?_)
    cases hn : decide ((s.length : Int) - (k : Int) - 1 = 96) with
    | false =>
      repeat (first | refine Run.seq ?_ | refine Run.region ?_ | refine Ops.nil ?_ | refine Run.cond_t rfl ?_ | refine Ops.pure T rfl (by decide) rfl ?_)
      refine Run.fin (Run.ret1 (by rw [hCf]; exact func72) results72 rfl (hR _ _ _ ?_))
      exact ⟨rfl, false, ⟨_, _, rfl⟩, (fun hg => ((((fun hg hne => a1' (dl hk hg).2.1) : digGood s = true → ¬ ((s.length : Int) - (k : Int) - 1 = 96) → False) hg (of_decide_eq_false hn)) : False).elim), (fun h => by cases h)⟩
    | true =>
    have hn' := of_decide_eq_true hn
    repeat (first | refine Run.seq ?_ | refine Run.region ?_ | refine Run.skip ?_ | refine Run.cond_f rfl ?_ | refine Ops.add rfl (by decide) rfl rfl (wI (by first | omega | (simp only [List.length_cons, List.length_nil] ; omega) | (simp; omega)) (by first | omega | (simp only [List.length_cons, List.length_nil] ; omega) | (simp; omega))) ?_ | refine Ops.pure T rfl (by decide) rfl ?_ | refine Ops.sliceStrLo rfl (by decide) (T.undOk rfl) rfl rfl (by first | omega | (simp only [List.length_cons, List.length_nil] ; omega) | (simp; omega)) (by first | omega | (simp only [List.length_cons, List.length_nil] ; omega) | (simp; omega)) ?_)
    have ek1 : ((k : Int) + 1).toNat = k + 1 := by omega
    rw [ek1]
    refine Ops.call ((name_zzOnly J1 (s.drop (k + 1)) hexT (by simp; omega) (by decide))) rfl (by decide) call105 rfl ?_
    rintro _ J2 l2 rfl
    rw [allR_eq ascii_hex]
    cases hx : allIn hexT (s.drop (k + 1)) with
    | false =>
      repeat (first | refine Run.seq ?_ | refine Run.region ?_ | refine Ops.nil ?_ | refine Run.cond_t rfl ?_ | refine Ops.pure T rfl (by decide) rfl ?_)
      refine Run.fin (Run.ret1 (by rw [hCf]; exact func72) results72 rfl (hR _ _ _ ?_))
      exact ⟨rfl, false, ⟨_, _, rfl⟩, (fun hg => ((by rw [(dl hk hg).2.2.2] at hx; cases hx) : False).elim), (fun h => by cases h)⟩
    | true =>
      repeat (first | refine Run.seq ?_ | refine Run.region ?_ | refine Ops.nil ?_ | refine Run.skip ?_ | refine Run.cond_f rfl ?_ | refine Ops.pure T rfl (by decide) rfl ?_)
      refine Run.fin (Run.ret1 (by rw [hCf]; exact func72) results72 rfl (hR _ _ _ ?_))
      exact ⟨rfl, true, rfl, fun _ => rfl, fun _ => .inr (otherDig_of hk (.inl a2') (by omega))⟩
  | false =>
  repeat (first | refine Run.seq ?_ | refine Run.region ?_ | refine Ops.nil ?_ | refine Run.cond_f rfl ?_ | refine Ops.eqlStr rfl (by decide) rfl rfl ?_ | refine Ops.pure T rfl (by decide) rfl ?_)
  cases a3 : decide (s.take k = [115, 104, 97, 53, 49, 50]) with
  | true =>
    have a3' := of_decide_eq_true a3
    repeat (first | refine Run.seq ?_ | refine Run.region ?_ | refine Ops.nil ?_ | refine Run.inBlock ?_ | refine Run.cond_t rfl ?_ | refine Ops.neq rfl (by decide) rfl rfl ?_ | refine Ops.sub rfl (by decide) rfl rfl (wI (by first | omega | (simp only [List.length_cons, List.length_nil] ; omega) | (simp; omega)) (by first | omega | (simp only [List.length_cons, List.length_nil] ; omega) | (simp; omega))) ?_ | refine Ops.pure T rfl (by decide) rfl ?_ | refine Ops.lenS T rfl (by decide) rfl rfl ?_)
    cases hn : decide ((s.length : Int) - (k : Int) - 1 = 128) with
    | false =>
      repeat (first | refine Run.seq ?_ | refine Run.region ?_ | refine Ops.nil ?_ | refine Run.cond_t rfl ?_ | refine Ops.pure T rfl (by decide) rfl ?_)
      refine Run.fin (Run.ret1 (by rw [hCf]; exact func72) results72 rfl (hR _ _ _ ?_))
      exact ⟨rfl, false, ⟨_, _, rfl⟩, (fun hg => ((((fun hg hne => a1' (dl hk hg).2.1) : digGood s = true → ¬ ((s.length : Int) - (k : Int) - 1 = 128) → False) hg (of_decide_eq_false hn)) : False).elim), (fun h => by cases h)⟩
    | true =>
    have hn' := of_decide_eq_true hn
    repeat (first | refine Run.seq ?_ | refine Run.region ?_ | refine Run.skip ?_ | refine Run.cond_f rfl ?_ | refine Ops.add rfl (by decide) rfl rfl (wI (by first | omega | (simp only [List.length_cons, List.length_nil] ; omega) | (simp; omega)) (by first | omega | (simp only [List.length_cons, List.length_nil] ; omega) | (simp; omega))) ?_ | refine Ops.pure T rfl (by decide) rfl ?_ | refine Ops.sliceStrLo rfl (by decide) (T.undOk rfl) rfl rfl (by first | omega | (simp only [List.length_cons, List.length_nil] ; omega) | (simp; omega)) (by first | omega | (simp only [List.length_cons, List.length_nil] ; omega) | (simp; omega)) ?_)
    have ek1 : ((k : Int) + 1).toNat = k + 1 := by omega
    rw [ek1]
    refine Ops.call ((name_zzOnly J1 (s.drop (k + 1)) hexT (by simp; omega) (by decide))) rfl (by decide) call105 rfl ?_
    rintro _ J2 l2 rfl
    rw [allR_eq ascii_hex]
    cases hx : allIn hexT (s.drop (k + 1)) with
    | false =>
      repeat (first | refine Run.seq ?_ | refine Run.region ?_ | refine Ops.nil ?_ | refine Run.cond_t rfl ?_ | refine Ops.pure T rfl (by decide) rfl ?_)
      refine Run.fin (Run.ret1 (by rw [hCf]; exact func72) results72 rfl (hR _ _ _ ?_))
      exact ⟨rfl, false, ⟨_, _, rfl⟩, (fun hg => ((by rw [(dl hk hg).2.2.2] at hx; cases hx) : False).elim), (fun h => by cases h)⟩
    | true =>
      repeat (first | refine Run.seq ?_ | refine Run.region ?_ | refine Ops.nil ?_ | refine Run.skip ?_ | refine Run.cond_f rfl ?_ | refine Ops.pure T rfl (by decide) rfl ?_)
      refine Run.fin (Run.ret1 (by rw [hCf]; exact func72) results72 rfl (hR _ _ _ ?_))
      exact ⟨rfl, true, rfl, fun _ => rfl, fun _ => .inr (otherDig_of hk (.inr a3') (by omega))⟩
  | false =>
    repeat (first | refine Run.seq ?_ | refine Run.region ?_ | refine Ops.nil ?_ | refine Run.cond_f rfl ?_ | refine Ops.pure T rfl (by decide) rfl ?_)
    refine Run.fin (Run.ret1 (by rw [hCf]; exact func72) results72 rfl (hR _ _ _ ?_))
    exact ⟨rfl, false, ⟨_, _, rfl⟩, (fun hg => ((a1' (dl hk hg).2.1) : False).elim), (fun h => by cases h)⟩
def big (s : Tx) (o : NOpt) : Nat := 4 * (s.length + o.reg.length + o.tag.length) + 400
def partsOk (s : Tx) (o : NOpt) (x : Tx × Tx × Tx) : Prop := x.1 ≠ [] ∧ x.1.length ≤ big s o ∧ x.2.1.length ≤ big s o ∧ x.2.2.length ≤ big s o
set_option maxHeartbeats 8000000 in
theorem name_NewDigest (I : Imm) (s : Tx) (v : Value) (o : NOpt) (hro : regOk o.reg) (ho : OptsAre I v o) (hs : s.length ≤ 137438953472) (hrl : o.reg.length ≤ 4294967296) : Pure prog 29 [str s, v] I fun w J =>
    ∃ a, tagRes o.ins s a w ∧ DigAns o s a ∧ ∀ x, a = some x → partsOk s o x := by
  obtain ⟨st, ins, reg, tag⟩ := o
  replace hrl : reg.length ≤ 4294967296 := hrl
  refine Spec.enter 66 [(0, _), (1, _)] func29 rfl ntmps29 (by simp) rfl ?_
  intro C hCf hR hCI
  repeat (first | refine Run.seq ?_ | refine Run.region ?_)
  refine Ops.alloc rfl (by decide) (T.zeroOk rfl) rfl (fun b => ?_)
  repeat (first | refine Run.seq ?_ | refine Run.region ?_ | refine Ops.nil ?_ | refine Ops.pure T rfl (by decide) rfl ?_)
  refine Ops.callN ((name_zzSplit s 64 I (by omega))) rfl (by decide) call67 rfl ?_
  rintro w J2 M l2 hG
  refine Ops.keepG (N := [_]) hG rfl fun J3 l3 hS => ?_
  have ho3 := ho.mono (l2.trans l3)
  clear hG l2 l3
  obtain ⟨A, c, e⟩ := hS.isSl
  subst e
  repeat (first | refine Run.seq ?_ | refine Run.region ?_ | refine Ops.nil ?_ | refine Ops.neq rfl (by decide) rfl rfl ?_ | refine Ops.pure T rfl (by decide) rfl ?_)
  cases h2 : decide (((spl 64 s).length : Int) = 2) with
  | false =>
    repeat (first | refine Run.seq ?_ | refine Run.region ?_ | refine Run.cond_t rfl ?_)
    refine Ops.buildL bd65 rfl (by decide) rfl rfl ?_
    repeat (first | refine Ops.pure T rfl (by decide) rfl ?_)
    refine Ops.lit T rfl rfl rfl (by decide) rfl (by decide) (by decide) rfl rfl rfl rfl rfl (fun b3 => ?_)
    refine Ops.call ((name_newErrBadName _ _ _)) rfl (by decide) call58 rfl ?_
    rintro _ J6 l6 ⟨b4, rfl⟩
    repeat (first | refine Ops.nil ?_ | refine Ops.pure T rfl (by decide) rfl ?_ | refine Ops.store 1 rfl rfl rfl rfl rfl (T.sizeOk rfl) rfl (Nat.le_of_ble_eq_true rfl) rfl rfl ?_)
    refine Run.retCT T 1 (by rw [hCf]; exact func29) results29 rfl rfl rfl rfl rfl rfl rfl (hR _ _ _ ?_)
    refine ⟨rfl, none, ⟨b4, rfl⟩, DigAns.no fun r p t hd => ?_, fun x h => by cases h⟩
    obtain ⟨k, k1, k2, _⟩ := sDig_yes hd
    rw [spl_two k1 k2] at h2
    simp at h2
  | true =>
  obtain ⟨k, hk1, hk2⟩ := spl_len2 (c := 64) (s := s) (by have := of_decide_eq_true h2; omega)
  have hlt := ix_lt hk1
  rw [spl_two hk1 hk2] at hS ⊢
  repeat (first | refine Run.seq ?_ | refine Run.region ?_ | refine Run.skip ?_ | refine Run.cond_f rfl ?_ | refine Ops.pure T rfl (by decide) rfl ?_)
  refine Ops.indexSl hS rfl (by decide) rfl rfl (T.undOk rfl) (T.sizeOk rfl) (by first | omega | (simp only [List.length_cons, List.length_nil] ; omega) | (simp; omega)) (by first | omega | (simp only [List.length_cons, List.length_nil] ; omega) | (simp; omega)) ?_
  rintro b_ off_ x cs_ hx hr_ hA_
  obtain rfl : cs_ = [_] := hr_
  refine Ops.loadI rfl (by decide) rfl hA_ (T.aggOk rfl) ?_
  obtain rfl : s.take k = x := by simpa using hx
  repeat (first | refine Run.seq ?_ | refine Run.region ?_ | refine Ops.nil ?_ | refine Ops.pure T rfl (by decide) rfl ?_)
  refine Ops.indexSl hS rfl (by decide) rfl rfl (T.undOk rfl) (T.sizeOk rfl) (by first | omega | (simp only [List.length_cons, List.length_nil] ; omega) | (simp; omega)) (by first | omega | (simp only [List.length_cons, List.length_nil] ; omega) | (simp; omega)) ?_
  rintro b_ off_ x cs_ hx hr_ hA_
  obtain rfl : cs_ = [_] := hr_
  refine Ops.loadI rfl (by decide) rfl hA_ (T.aggOk rfl) ?_
  obtain rfl : s.drop (k + 1) = x := by simpa using hx
  repeat (first | refine Run.seq ?_ | refine Run.region ?_ | refine Ops.nil ?_ | refine Ops.pure T rfl (by decide) rfl ?_)
  refine Ops.call ((name_zzDigest J3 (s.drop (k + 1)) (by simp; omega))) rfl (by decide) call72 rfl ?_
  rintro w J4 l4 ⟨r, hw, hr1, hr2⟩
  have ho4 := ho3.mono l4
  cases r with
  | false =>
    obtain ⟨t0, v0, rfl⟩ : ∃ t v, w = .iface t v := hw
    repeat (first | refine Run.seq ?_ | refine Run.region ?_ | refine Ops.nil ?_ | refine Run.cond_t rfl ?_ | refine Ops.neqNil T rfl (by decide) rfl rfl rfl rfl rfl ?_ | refine Ops.pure T rfl (by decide) rfl ?_)
    refine Ops.buildL bd65 rfl (by decide) rfl rfl ?_
    repeat (first | refine Ops.pure T rfl (by decide) rfl ?_)
    refine Ops.lit T rfl rfl rfl (by decide) rfl (by decide) (by decide) rfl rfl rfl rfl rfl (fun b3 => ?_)
    refine Ops.call ((name_newErrBadName _ _ _)) rfl (by decide) call58 rfl ?_
    rintro _ J6 l6 ⟨b4, rfl⟩
    repeat (first | refine Ops.nil ?_ | refine Ops.pure T rfl (by decide) rfl ?_ | refine Ops.store 1 rfl rfl rfl rfl rfl (T.sizeOk rfl) rfl (Nat.le_of_ble_eq_true rfl) rfl rfl ?_)
    refine Run.retCT T 1 (by rw [hCf]; exact func29) results29 rfl rfl rfl rfl rfl rfl rfl (hR _ _ _ ?_)
    refine ⟨rfl, none, ⟨b4, rfl⟩, DigAns.no fun r p t hd => ?_, fun x h => by cases h⟩
    obtain ⟨k', k1, k2, k3⟩ := sDig_yes hd
    rw [hk1] at k1
    cases k1
    exact absurd (hr1 k3) (by decide)
  | true =>
  obtain rfl : w = .nilIface := hw
  have hfin : ∀ {at_ : Option (Tx × Tx × Tx)} {ar : Option (Tx × Tx)}, TagAns ⟨st, ins, reg, tag⟩ (s.take k) at_ → RepoAns st reg (match at_ with
      | some x => repoT x.1 (fullP x.1 x.2.1)
      | none => s.take k) ar → DigAns ⟨st, ins, reg, tag⟩ s (ar.map fun x => (x.1, x.2, s.drop (k + 1))) := by
    intro at_ ar h1 h2
    cases hg : digGood (s.drop (k + 1)) with
    | true =>
      cases at_ with
      | none => exact DigAns.of hro hk1 hk2 hg h1 h2
      | some x => exact DigAns.of hro hk1 hk2 hg h1 h2
    | false =>
      rcases hr2 rfl with h | h
      · rw [hg] at h; cases h
      · exact DigAns.other hk1 hk2 hg h
  repeat (first | refine Run.seq ?_ | refine Run.region ?_ | refine Ops.nil ?_ | refine Run.skip ?_ | refine Run.cond_f rfl ?_ | refine Ops.neqNil T rfl (by decide) rfl rfl rfl rfl rfl ?_ | refine Ops.pure T rfl (by decide) rfl ?_)
  have htl : (s.take k).length ≤ s.length := by simp; omega
  refine Ops.call ((name_NewTag J4 (s.take k) v ⟨st, ins, reg, tag⟩ ho4 (by omega))) rfl (by decide) call26 rfl ?_
  rintro w J5 l5 ⟨at_, hres, hans, hlen⟩
  have ho5 := ho4.mono l5
  cases at_ with
  | none =>
    obtain ⟨b5, rfl⟩ := hres
    unfold errV
    repeat (first | refine Ops.pure T rfl (by decide) rfl ?_)
    refine Ops.alloc rfl (by decide) (T.zeroOk rfl) rfl (fun b6 => ?_)
    repeat (first | refine Run.seq ?_ | refine Run.region ?_ | refine Ops.nil ?_ | refine Run.skip ?_ | refine Run.cond_f rfl ?_ | refine Ops.eqlNil T rfl (by decide) rfl rfl rfl rfl rfl ?_ | refine Ops.pure T rfl (by decide) rfl ?_ | refine Ops.store 0 rfl rfl rfl rfl rfl (T.sizeOk rfl) rfl (Nat.le_of_ble_eq_true rfl) rfl rfl ?_)
    refine Ops.call ((name_NewRepository J5 (s.take k) v ⟨st, ins, reg, tag⟩ (ho5) (by first | omega | (simp only [repoT, List.length_append, List.length_cons, List.length_nil]; omega)))) rfl (by decide) call23 rfl ?_
    rintro w J8 l8 ⟨ar, hres8, hans8, hlen8⟩
    have hbl : (s.take k : Tx).length ≤ 2 * s.length + reg.length + 100 := by first | (simp only [repoT, List.length_append, List.length_cons, List.length_nil]; omega) | (simp; omega)
    cases ar with
    | none =>
      obtain ⟨b8, rfl⟩ := hres8
      unfold errV
      repeat (first | refine Ops.pure T rfl (by decide) rfl ?_)
      refine Ops.alloc rfl (by decide) (T.zeroOk rfl) rfl (fun b9 => ?_)
      try unfold errV
      repeat (first | refine Run.seq ?_ | refine Run.region ?_ | refine Ops.nil ?_ | refine Run.cond_t rfl ?_ | refine Ops.neqNil T rfl (by decide) rfl rfl rfl rfl rfl ?_ | refine Ops.pure T rfl (by decide) rfl ?_ | refine Ops.store 0 rfl rfl rfl rfl rfl (T.sizeOk rfl) rfl (Nat.le_of_ble_eq_true rfl) rfl rfl ?_)
      refine Ops.buildL bd65 rfl (by decide) rfl rfl ?_
      repeat (first | refine Ops.nil ?_ | refine Ops.pure T rfl (by decide) rfl ?_ | refine Ops.store 2 rfl rfl rfl rfl rfl (T.sizeOk rfl) rfl (Nat.le_of_ble_eq_true rfl) rfl rfl ?_)
      refine Run.retCT T 2 (by rw [hCf]; exact func29) results29 rfl rfl rfl rfl rfl rfl rfl (hR _ _ _ ?_)
      exact ⟨rfl, none, ⟨b8, rfl⟩, hfin hans hans8, fun x h => by cases h⟩
    | some y =>
      have hres9 : w = _ := hres8
      subst hres9
      repeat (first | refine Ops.pure T rfl (by decide) rfl ?_)
      refine Ops.alloc rfl (by decide) (T.zeroOk rfl) rfl (fun b9 => ?_)
      repeat (first | refine Run.seq ?_ | refine Run.region ?_ | refine Ops.nil ?_ | refine Run.skip ?_ | refine Run.cond_f rfl ?_ | refine Ops.neqNil T rfl (by decide) rfl rfl rfl rfl rfl ?_ | refine Ops.pure T rfl (by decide) rfl ?_ | refine Ops.loadN 0 rfl (by decide) rfl rfl (T.aggOk rfl) (T.sizeOk rfl) rfl rfl ?_ | refine Ops.store 0 rfl rfl rfl rfl rfl (T.sizeOk rfl) rfl (Nat.le_of_ble_eq_true rfl) rfl rfl ?_)
      refine Ops.buildL bd65 rfl (by decide) rfl rfl ?_
      repeat (first | refine Ops.nil ?_ | refine Ops.pure T rfl (by decide) rfl ?_ | refine Ops.store 2 rfl rfl rfl rfl rfl (T.sizeOk rfl) rfl (Nat.le_of_ble_eq_true rfl) rfl rfl ?_)
      refine Run.retCT T 2 (by rw [hCf]; exact func29) results29 rfl rfl rfl rfl rfl rfl rfl (hR _ _ _ ?_)
      refine ⟨rfl, some (y.1, y.2, s.drop (k + 1)), rfl, hfin hans hans8, fun z h => ?_⟩
      cases h
      obtain ⟨q1, q2, q3⟩ := hlen8 y rfl
      have : (s.drop (k + 1)).length ≤ s.length := by simp
      unfold partsOk big
      refine ⟨q1, ?_, ?_, ?_⟩ <;> simp only at * <;> omega
  | some x =>
    have hres2 : w = _ := hres
    subst hres2
    obtain ⟨q1, q2, q3, q4⟩ := hlen x rfl
    simp only at q2 q4
    have q5 := fullP_len x.1 x.2.1
    repeat (first | refine Ops.pure T rfl (by decide) rfl ?_)
    refine Ops.alloc rfl (by decide) (T.zeroOk rfl) rfl (fun b6 => ?_)
    repeat (first | refine Run.seq ?_ | refine Run.region ?_ | refine Ops.nil ?_ | refine Run.cond_t rfl ?_ | refine Ops.eqlNil T rfl (by decide) rfl rfl rfl rfl rfl ?_ | refine Ops.pure T rfl (by decide) rfl ?_ | refine Ops.loadN 0 rfl (by decide) rfl rfl (T.aggOk rfl) (T.sizeOk rfl) rfl rfl ?_ | refine Ops.store 0 rfl rfl rfl rfl rfl (T.sizeOk rfl) rfl (Nat.le_of_ble_eq_true rfl) rfl rfl ?_)
    refine Ops.call ((Repository_Name J5 ins x.1 x.2.1 (by omega) (by omega) q1)) rfl (by decide) call73 rfl ?_
    rintro _ J6 l6 rfl
    have ho6 := ho5.mono l6
    repeat (first | refine Run.seq ?_ | refine Run.region ?_ | refine Ops.nil ?_ | refine Ops.pure T rfl (by decide) rfl ?_)
    refine Ops.call ((name_NewRepository J6 (repoT x.1 (fullP x.1 x.2.1)) v ⟨st, ins, reg, tag⟩ (ho6) (by first | omega | (simp only [repoT, List.length_append, List.length_cons, List.length_nil]; omega)))) rfl (by decide) call23 rfl ?_
    rintro w J8 l8 ⟨ar, hres8, hans8, hlen8⟩
    have hbl : (repoT x.1 (fullP x.1 x.2.1) : Tx).length ≤ 2 * s.length + reg.length + 100 := by first | (simp only [repoT, List.length_append, List.length_cons, List.length_nil]; omega) | (simp; omega)
    cases ar with
    | none =>
      obtain ⟨b8, rfl⟩ := hres8
      unfold errV
      repeat (first | refine Ops.pure T rfl (by decide) rfl ?_)
      refine Ops.alloc rfl (by decide) (T.zeroOk rfl) rfl (fun b9 => ?_)
      try unfold errV
      repeat (first | refine Run.seq ?_ | refine Run.region ?_ | refine Ops.nil ?_ | refine Run.cond_t rfl ?_ | refine Ops.neqNil T rfl (by decide) rfl rfl rfl rfl rfl ?_ | refine Ops.pure T rfl (by decide) rfl ?_ | refine Ops.store 0 rfl rfl rfl rfl rfl (T.sizeOk rfl) rfl (Nat.le_of_ble_eq_true rfl) rfl rfl ?_)
      refine Ops.buildL bd65 rfl (by decide) rfl rfl ?_
      repeat (first | refine Ops.nil ?_ | refine Ops.pure T rfl (by decide) rfl ?_ | refine Ops.store 2 rfl rfl rfl rfl rfl (T.sizeOk rfl) rfl (Nat.le_of_ble_eq_true rfl) rfl rfl ?_)
      refine Run.retCT T 2 (by rw [hCf]; exact func29) results29 rfl rfl rfl rfl rfl rfl rfl (hR _ _ _ ?_)
      exact ⟨rfl, none, ⟨b8, rfl⟩, hfin hans hans8, fun x h => by cases h⟩
    | some y =>
      have hres9 : w = _ := hres8
      subst hres9
      repeat (first | refine Ops.pure T rfl (by decide) rfl ?_)
      refine Ops.alloc rfl (by decide) (T.zeroOk rfl) rfl (fun b9 => ?_)
      repeat (first | refine Run.seq ?_ | refine Run.region ?_ | refine Ops.nil ?_ | refine Run.skip ?_ | refine Run.cond_f rfl ?_ | refine Ops.neqNil T rfl (by decide) rfl rfl rfl rfl rfl ?_ | refine Ops.pure T rfl (by decide) rfl ?_ | refine Ops.loadN 0 rfl (by decide) rfl rfl (T.aggOk rfl) (T.sizeOk rfl) rfl rfl ?_ | refine Ops.store 0 rfl rfl rfl rfl rfl (T.sizeOk rfl) rfl (Nat.le_of_ble_eq_true rfl) rfl rfl ?_)
      refine Ops.buildL bd65 rfl (by decide) rfl rfl ?_
      repeat (first | refine Ops.nil ?_ | refine Ops.pure T rfl (by decide) rfl ?_ | refine Ops.store 2 rfl rfl rfl rfl rfl (T.sizeOk rfl) rfl (Nat.le_of_ble_eq_true rfl) rfl rfl ?_)
      refine Run.retCT T 2 (by rw [hCf]; exact func29) results29 rfl rfl rfl rfl rfl rfl rfl (hR _ _ _ ?_)
      refine ⟨rfl, some (y.1, y.2, s.drop (k + 1)), rfl, hfin hans hans8, fun z h => ?_⟩
      cases h
      obtain ⟨q1, q2, q3⟩ := hlen8 y rfl
      have : (s.drop (k + 1)).length ≤ s.length := by simp
      unfold partsOk big
      refine ⟨q1, ?_, ?_, ?_⟩ <;> simp only at * <;> omega
end Go.V
