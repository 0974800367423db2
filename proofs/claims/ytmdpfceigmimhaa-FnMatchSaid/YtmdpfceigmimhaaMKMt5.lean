/-
  Platforms compared, where the lists that are sorted stay the caller's.
-/
import Derived.Test.YtmdpfceigmimhaaMKMt4
import Derived.Test.YtmdpfceigmimhaaMV16
namespace Go.V
open Go.RowKit
set_option linter.unusedVariables false
set_option linter.unusedSimpArgs false
set_option maxRecDepth 10000
attribute [local irreducible] Run Ops
theorem v1_stringSliceEqualO (I : Imm) (a b : Txts) (v w : Value) (M1 M2 : Own) (ha : Gr tStr I 9 v a M1) (hb : Gr tStr I 9 w b M2) (hal : a.length ≤ 4611686018427387904) :
    Spec Proofs.Try.prog 89 [v, w] I (M1 ++ M2) fun u J M => J = I ∧ M = M1 ++ M2 ∧ u = .bool (decide (a = b)) :=
  Spec.borrow fun J hle hJ => v1_stringSliceEqual a b v w J (ha.sl_of hle fun b o h => hJ b o (List.mem_append_left _ h)) (hb.sl_of hle fun b o h => hJ b o (List.mem_append_right _ h)) hal
theorem v1_IgnoreOrderO (I : Imm) (f f' : Txts) (u u' : Value) (M1 M2 : Own) (hf : Gr tStr I 9 u f M1) (hf' : Gr tStr I 9 u' f' M2) (h1 : f.length ≤ 2147483647) (h2 : f'.length ≤ 2147483647) :
    Spec Proofs.Try.prog 78 [u, u'] I (M1 ++ M2) fun w J M => w = .bool (decide (sorted f = sorted f')) ∧ J = I ∧ ∃ f1 f2 M1' M2', M = M1' ++ M2' ∧ Gr tStr I 9 u f1 M1' ∧ Gr tStr I 9 u' f2 M2' ∧ f1.Perm f ∧ f2.Perm f' := by
  obtain ⟨A, c, hu⟩ := hf.isSl
  obtain ⟨A', c', hu'⟩ := hf'.isSl
  subst hu
  subst hu'
  refine Spec.enter 18 [(0, _), (1, _)] Proofs.Try.func78 rfl Proofs.Try.ntmps78 (by simp) rfl ?_
  intro C hCf hR hCI
  repeat (first | refine Run.seq ?_ | refine Run.region ?_ | refine Ops.nil ?_ | refine Run.skip ?_ | refine Run.cond_t rfl ?_ | refine Run.cond_f rfl ?_ | refine Ops.not rfl (by decide) ?_ | refine Ops.notS rfl ?_ | refine Ops.notU rfl (by decide) ?_ | refine Ops.notUS rfl ?_ | refine Ops.neqNil T rfl (by decide) rfl rfl rfl rfl rfl ?_ | refine Ops.pure T rfl (by decide) rfl ?_)
  cases A with
  | none =>
    obtain ⟨rfl, rfl⟩ := hf.none
    repeat (first | refine Run.seq ?_ | refine Run.region ?_ | refine Ops.nil ?_ | refine Run.skip ?_ | refine Run.cond_t rfl ?_ | refine Run.cond_f rfl ?_ | refine Ops.not rfl (by decide) ?_ | refine Ops.notS rfl ?_ | refine Ops.notU rfl (by decide) ?_ | refine Ops.notUS rfl ?_ | refine Ops.neqNil T rfl (by decide) rfl rfl rfl rfl rfl ?_ | refine Ops.pure T rfl (by decide) rfl ?_)
    refine Ops.callM (N := []) (v1_stringSliceEqualO I [] f' _ _ [] M2 hf hf' (by simp)) (by simp) rfl (by decide) Proofs.Try.call89 rfl ?_
    rintro _ J M2 hle ⟨rfl, rfl, rfl⟩
    repeat (first | refine Run.seq ?_ | refine Run.region ?_ | refine Ops.nil ?_ | refine Run.skip ?_ | refine Run.cond_t rfl ?_ | refine Run.cond_f rfl ?_ | refine Ops.not rfl (by decide) ?_ | refine Ops.notS rfl ?_ | refine Ops.notU rfl (by decide) ?_ | refine Ops.notUS rfl ?_ | refine Ops.neqNil T rfl (by decide) rfl rfl rfl rfl rfl ?_ | refine Ops.pure T rfl (by decide) rfl ?_)
    refine Run.ret1 (by rw [hCf]; exact Proofs.Try.func78) Proofs.Try.results78 rfl (hR _ _ _ ?_)
    refine ⟨?_, rfl, [], f', [], M2, by simp, hf, hf', .refl _, .refl _⟩
    congr 1
    rw [decide_eq_decide]
    exact ⟨fun h => by rw [← h], fun h => (sorted_nil (by rw [← h]; simp [sorted])).symm⟩
  | some a =>
    cases A' with
    | none =>
      obtain ⟨rfl, rfl⟩ := hf'.none
      repeat (first | refine Run.seq ?_ | refine Run.region ?_ | refine Ops.nil ?_ | refine Run.skip ?_ | refine Run.cond_t rfl ?_ | refine Run.cond_f rfl ?_ | refine Ops.not rfl (by decide) ?_ | refine Ops.notS rfl ?_ | refine Ops.notU rfl (by decide) ?_ | refine Ops.notUS rfl ?_ | refine Ops.neqNil T rfl (by decide) rfl rfl rfl rfl rfl ?_ | refine Ops.pure T rfl (by decide) rfl ?_)
      refine Ops.callM (N := []) (v1_stringSliceEqualO I f [] _ _ M1 [] hf hf' (by omega)) (by simp) rfl (by decide) Proofs.Try.call89 rfl ?_
      rintro _ J _ hle ⟨rfl, rfl, rfl⟩
      repeat (first | refine Run.seq ?_ | refine Run.region ?_ | refine Ops.nil ?_ | refine Run.skip ?_ | refine Run.cond_t rfl ?_ | refine Run.cond_f rfl ?_ | refine Ops.not rfl (by decide) ?_ | refine Ops.notS rfl ?_ | refine Ops.notU rfl (by decide) ?_ | refine Ops.notUS rfl ?_ | refine Ops.neqNil T rfl (by decide) rfl rfl rfl rfl rfl ?_ | refine Ops.pure T rfl (by decide) rfl ?_)
      refine Run.ret1 (by rw [hCf]; exact Proofs.Try.func78) Proofs.Try.results78 rfl (hR _ _ _ ?_)
      refine ⟨?_, rfl, f, [], M1, [], by simp, hf, hf', .refl _, .refl _⟩
      congr 1
      rw [decide_eq_decide]
      exact ⟨fun h => by rw [h], fun h => sorted_nil (by rw [h]; simp [sorted])⟩
    | some a' =>
      repeat (first | refine Run.seq ?_ | refine Run.region ?_ | refine Ops.nil ?_ | refine Run.skip ?_ | refine Run.cond_t rfl ?_ | refine Run.cond_f rfl ?_ | refine Ops.not rfl (by decide) ?_ | refine Ops.notS rfl ?_ | refine Ops.notU rfl (by decide) ?_ | refine Ops.notUS rfl ?_ | refine Ops.neqNil T rfl (by decide) rfl rfl rfl rfl rfl ?_ | refine Ops.pure T rfl (by decide) rfl ?_)
      refine Ops.callM (M := M1) (N := M2) (sort_Strings I _ f M1 hf (by simp) h1) (.refl _) rfl (by decide) Proofs.Try.call88 rfl ?_
      rintro _ I1 M1' _ ⟨rfl, rfl, hs⟩
      repeat (first | refine Run.seq ?_ | refine Run.region ?_ | refine Ops.nil ?_ | refine Run.skip ?_ | refine Run.cond_t rfl ?_ | refine Run.cond_f rfl ?_ | refine Ops.not rfl (by decide) ?_ | refine Ops.notS rfl ?_ | refine Ops.notU rfl (by decide) ?_ | refine Ops.notUS rfl ?_ | refine Ops.neqNil T rfl (by decide) rfl rfl rfl rfl rfl ?_ | refine Ops.pure T rfl (by decide) rfl ?_)
      refine Ops.callM (M := M2) (N := M1') (sort_Strings _ _ f' M2 hf' (by simp) h2) List.perm_append_comm rfl (by decide) Proofs.Try.call88 rfl ?_
      rintro _ I2 M2' _ ⟨rfl, rfl, hs'⟩
      repeat (first | refine Run.seq ?_ | refine Run.region ?_ | refine Ops.nil ?_ | refine Run.skip ?_ | refine Run.cond_t rfl ?_ | refine Run.cond_f rfl ?_ | refine Ops.not rfl (by decide) ?_ | refine Ops.notS rfl ?_ | refine Ops.notU rfl (by decide) ?_ | refine Ops.notUS rfl ?_ | refine Ops.neqNil T rfl (by decide) rfl rfl rfl rfl rfl ?_ | refine Ops.pure T rfl (by decide) rfl ?_)
      refine Ops.callM (M := M1' ++ M2') (N := []) (v1_stringSliceEqualO _ (sorted f) (sorted f') _ _ M1' M2' hs hs' (by rw [sorted_len]; omega)) (by rw [List.append_nil]; exact List.perm_append_comm) rfl (by decide) Proofs.Try.call89 rfl ?_
      rintro _ J _ hle ⟨rfl, rfl, rfl⟩
      repeat (first | refine Run.seq ?_ | refine Run.region ?_ | refine Ops.nil ?_ | refine Run.skip ?_ | refine Run.cond_t rfl ?_ | refine Run.cond_f rfl ?_ | refine Ops.not rfl (by decide) ?_ | refine Ops.notS rfl ?_ | refine Ops.notU rfl (by decide) ?_ | refine Ops.notUS rfl ?_ | refine Ops.neqNil T rfl (by decide) rfl rfl rfl rfl rfl ?_ | refine Ops.pure T rfl (by decide) rfl ?_)
      refine Run.ret1 (by rw [hCf]; exact Proofs.Try.func78) Proofs.Try.results78 rfl (hR _ _ _ ?_)
      exact ⟨rfl, rfl, _, _, M1', M2', by simp, hs, hs', List.mergeSort_perm _ _, List.mergeSort_perm _ _⟩
open Classical in
theorem permE2 {α : Type} (X A B C D : List α) : ((X ++ (B ++ D)) ++ (A ++ C)).Perm (X ++ ((A ++ B) ++ (C ++ D))) := perm_of_count fun x => by simp only [List.count_append]; omega
/-- what a comparison leaves of the lists -/
def Left (I : Imm) (u v u' v' : Value) (f g f' g' : Txts) (M : Own) : Prop := ∃ f1 g1 f2 g2 M1 M2 M3 M4, M = (M1 ++ M2) ++ (M3 ++ M4) ∧ Gr tStr I 9 u f1 M1 ∧ Gr tStr I 9 v g1 M2 ∧ Gr tStr I 9 u' f2 M3 ∧ Gr tStr I 9 v' g2 M4 ∧ f1.Perm f ∧ g1.Perm g ∧ f2.Perm f' ∧ g2.Perm g'
open Classical in
theorem permE3 {α : Type} (X A B C D : List α) : (X ++ ((A ++ B) ++ (C ++ D))).Perm ((X ++ (A ++ C)) ++ (B ++ D)) := perm_of_count fun x => by simp only [List.count_append]; omega
open Classical in
theorem permE4 {α : Type} (X A B C D : List α) : ((X ++ (A ++ C)) ++ (B ++ D)).Perm (X ++ ((A ++ B) ++ (C ++ D))) := perm_of_count fun x => by simp only [List.count_append]; omega
set_option maxHeartbeats 1000000 in
theorem Platform_EqualsO (I : Imm) (p q : Pf) (f g f' g' : Txts) (u v u' v' : Value) (M1 M2 M3 M4 : Own) (hf : Gr tStr I 9 u f M1) (hg : Gr tStr I 9 v g M2) (hf' : Gr tStr I 9 u' f' M3) (hg' : Gr tStr I 9 v' g' M4)
    (h1 : f.length ≤ 2147483647) (h2 : g.length ≤ 2147483647) (h3 : f'.length ≤ 2147483647) (h4 : g'.length ≤ 2147483647) :
    Spec Proofs.Try.prog 60 [.agg (p.ds u v).toArray, .agg (q.ds u' v').toArray] I ((M1 ++ M2) ++ (M3 ++ M4)) fun w J M => w = .bool (eqP p q f g f' g') ∧ J = I ∧ Left I u v u' v' f g f' g' M := by
  obtain ⟨p1, p2, p3, p4⟩ := p
  obtain ⟨q1, q2, q3, q4⟩ := q
  obtain ⟨A1, c1, e⟩ := hf.isSl
  subst e
  obtain ⟨A2, c2, e⟩ := hg.isSl
  subst e
  obtain ⟨A3, c3, e⟩ := hf'.isSl
  subst e
  obtain ⟨A4, c4, e⟩ := hg'.isSl
  subst e
  refine Spec.enter 45 [(0, _), (1, _)] Proofs.Try.func60 rfl Proofs.Try.ntmps60 (by simp) rfl ?_
  intro C hCf hR hCI
  repeat (first | refine Run.seq ?_ | refine Run.region ?_ | refine Ops.nil ?_ | refine Ops.not rfl (by decide) ?_ | refine Ops.notS rfl ?_ | refine Ops.notU rfl (by decide) ?_ | refine Ops.notUS rfl ?_ | refine Ops.eqlStr rfl (by decide) rfl rfl ?_ | refine Ops.pure T rfl (by decide) rfl ?_ | refine Ops.load 0 rfl (by decide) rfl rfl (T.aggOk rfl) rfl ?_ | refine Ops.load 1 rfl (by decide) rfl rfl (T.aggOk rfl) rfl ?_ | refine Ops.load 2 rfl (by decide) rfl rfl (T.aggOk rfl) rfl ?_ | refine Ops.load 3 rfl (by decide) rfl rfl (T.aggOk rfl) rfl ?_ | refine Ops.load 4 rfl (by decide) rfl rfl (T.aggOk rfl) rfl ?_ | refine Ops.load 5 rfl (by decide) rfl rfl (T.aggOk rfl) rfl ?_)
  refine Ops.box rfl (by decide) rfl rfl (fun b1 => ?_)
  refine Ops.box rfl (by decide) rfl rfl (fun b2 => ?_)
  repeat (first | refine Run.seq ?_ | refine Run.region ?_ | refine Ops.nil ?_ | refine Ops.not rfl (by decide) ?_ | refine Ops.notS rfl ?_ | refine Ops.notU rfl (by decide) ?_ | refine Ops.notUS rfl ?_ | refine Ops.eqlStr rfl (by decide) rfl rfl ?_ | refine Ops.pure T rfl (by decide) rfl ?_ | refine Ops.load 0 rfl (by decide) rfl rfl (T.aggOk rfl) rfl ?_ | refine Ops.load 1 rfl (by decide) rfl rfl (T.aggOk rfl) rfl ?_ | refine Ops.load 2 rfl (by decide) rfl rfl (T.aggOk rfl) rfl ?_ | refine Ops.load 3 rfl (by decide) rfl rfl (T.aggOk rfl) rfl ?_ | refine Ops.load 4 rfl (by decide) rfl rfl (T.aggOk rfl) rfl ?_ | refine Ops.load 5 rfl (by decide) rfl rfl (T.aggOk rfl) rfl ?_)
  cases hb1 : decide (p2 = q2) with
  | false =>
    repeat (first | refine Run.seq ?_ | refine Run.region ?_ | refine Ops.nil ?_ | refine Ops.not rfl (by decide) ?_ | refine Ops.notS rfl ?_ | refine Ops.notU rfl (by decide) ?_ | refine Ops.notUS rfl ?_ | refine Ops.eqlStr rfl (by decide) rfl rfl ?_ | refine Ops.pure T rfl (by decide) rfl ?_ | refine Ops.load 0 rfl (by decide) rfl rfl (T.aggOk rfl) rfl ?_ | refine Ops.load 1 rfl (by decide) rfl rfl (T.aggOk rfl) rfl ?_ | refine Ops.load 2 rfl (by decide) rfl rfl (T.aggOk rfl) rfl ?_ | refine Ops.load 3 rfl (by decide) rfl rfl (T.aggOk rfl) rfl ?_ | refine Ops.load 4 rfl (by decide) rfl rfl (T.aggOk rfl) rfl ?_ | refine Ops.load 5 rfl (by decide) rfl rfl (T.aggOk rfl) rfl ?_)
    refine Run.dropL (List.sublist_append_right [_, _] _) ?_
    refine Run.ret1 (by rw [hCf]; exact Proofs.Try.func60) Proofs.Try.results60 rfl (hR _ _ _ ?_)
    exact ⟨by simp [eqP, hb1], rfl, f, g, f', g', M1, M2, M3, M4, rfl, hf, hg, hf', hg', .refl _, .refl _, .refl _, .refl _⟩
  | true =>
  repeat (first | refine Run.seq ?_ | refine Run.region ?_ | refine Ops.nil ?_ | refine Ops.not rfl (by decide) ?_ | refine Ops.notS rfl ?_ | refine Ops.notU rfl (by decide) ?_ | refine Ops.notUS rfl ?_ | refine Ops.eqlStr rfl (by decide) rfl rfl ?_ | refine Ops.pure T rfl (by decide) rfl ?_ | refine Ops.load 0 rfl (by decide) rfl rfl (T.aggOk rfl) rfl ?_ | refine Ops.load 1 rfl (by decide) rfl rfl (T.aggOk rfl) rfl ?_ | refine Ops.load 2 rfl (by decide) rfl rfl (T.aggOk rfl) rfl ?_ | refine Ops.load 3 rfl (by decide) rfl rfl (T.aggOk rfl) rfl ?_ | refine Ops.load 4 rfl (by decide) rfl rfl (T.aggOk rfl) rfl ?_ | refine Ops.load 5 rfl (by decide) rfl rfl (T.aggOk rfl) rfl ?_)
  cases hb2 : decide (p1 = q1) with
  | false =>
    repeat (first | refine Run.seq ?_ | refine Run.region ?_ | refine Ops.nil ?_ | refine Ops.not rfl (by decide) ?_ | refine Ops.notS rfl ?_ | refine Ops.notU rfl (by decide) ?_ | refine Ops.notUS rfl ?_ | refine Ops.eqlStr rfl (by decide) rfl rfl ?_ | refine Ops.pure T rfl (by decide) rfl ?_ | refine Ops.load 0 rfl (by decide) rfl rfl (T.aggOk rfl) rfl ?_ | refine Ops.load 1 rfl (by decide) rfl rfl (T.aggOk rfl) rfl ?_ | refine Ops.load 2 rfl (by decide) rfl rfl (T.aggOk rfl) rfl ?_ | refine Ops.load 3 rfl (by decide) rfl rfl (T.aggOk rfl) rfl ?_ | refine Ops.load 4 rfl (by decide) rfl rfl (T.aggOk rfl) rfl ?_ | refine Ops.load 5 rfl (by decide) rfl rfl (T.aggOk rfl) rfl ?_)
    refine Run.dropL (List.sublist_append_right [_, _] _) ?_
    refine Run.ret1 (by rw [hCf]; exact Proofs.Try.func60) Proofs.Try.results60 rfl (hR _ _ _ ?_)
    exact ⟨by simp [eqP, hb2], rfl, f, g, f', g', M1, M2, M3, M4, rfl, hf, hg, hf', hg', .refl _, .refl _, .refl _, .refl _⟩
  | true =>
  repeat (first | refine Run.seq ?_ | refine Run.region ?_ | refine Ops.nil ?_ | refine Ops.not rfl (by decide) ?_ | refine Ops.notS rfl ?_ | refine Ops.notU rfl (by decide) ?_ | refine Ops.notUS rfl ?_ | refine Ops.eqlStr rfl (by decide) rfl rfl ?_ | refine Ops.pure T rfl (by decide) rfl ?_ | refine Ops.load 0 rfl (by decide) rfl rfl (T.aggOk rfl) rfl ?_ | refine Ops.load 1 rfl (by decide) rfl rfl (T.aggOk rfl) rfl ?_ | refine Ops.load 2 rfl (by decide) rfl rfl (T.aggOk rfl) rfl ?_ | refine Ops.load 3 rfl (by decide) rfl rfl (T.aggOk rfl) rfl ?_ | refine Ops.load 4 rfl (by decide) rfl rfl (T.aggOk rfl) rfl ?_ | refine Ops.load 5 rfl (by decide) rfl rfl (T.aggOk rfl) rfl ?_)
  cases hb3 : decide (p4 = q4) with
  | false =>
    repeat (first | refine Run.seq ?_ | refine Run.region ?_ | refine Ops.nil ?_ | refine Ops.not rfl (by decide) ?_ | refine Ops.notS rfl ?_ | refine Ops.notU rfl (by decide) ?_ | refine Ops.notUS rfl ?_ | refine Ops.eqlStr rfl (by decide) rfl rfl ?_ | refine Ops.pure T rfl (by decide) rfl ?_ | refine Ops.load 0 rfl (by decide) rfl rfl (T.aggOk rfl) rfl ?_ | refine Ops.load 1 rfl (by decide) rfl rfl (T.aggOk rfl) rfl ?_ | refine Ops.load 2 rfl (by decide) rfl rfl (T.aggOk rfl) rfl ?_ | refine Ops.load 3 rfl (by decide) rfl rfl (T.aggOk rfl) rfl ?_ | refine Ops.load 4 rfl (by decide) rfl rfl (T.aggOk rfl) rfl ?_ | refine Ops.load 5 rfl (by decide) rfl rfl (T.aggOk rfl) rfl ?_)
    refine Run.dropL (List.sublist_append_right [_, _] _) ?_
    refine Run.ret1 (by rw [hCf]; exact Proofs.Try.func60) Proofs.Try.results60 rfl (hR _ _ _ ?_)
    exact ⟨by simp [eqP, hb3], rfl, f, g, f', g', M1, M2, M3, M4, rfl, hf, hg, hf', hg', .refl _, .refl _, .refl _, .refl _⟩
  | true =>
  repeat (first | refine Run.seq ?_ | refine Run.region ?_ | refine Ops.nil ?_ | refine Ops.not rfl (by decide) ?_ | refine Ops.notS rfl ?_ | refine Ops.notU rfl (by decide) ?_ | refine Ops.notUS rfl ?_ | refine Ops.eqlStr rfl (by decide) rfl rfl ?_ | refine Ops.pure T rfl (by decide) rfl ?_ | refine Ops.load 0 rfl (by decide) rfl rfl (T.aggOk rfl) rfl ?_ | refine Ops.load 1 rfl (by decide) rfl rfl (T.aggOk rfl) rfl ?_ | refine Ops.load 2 rfl (by decide) rfl rfl (T.aggOk rfl) rfl ?_ | refine Ops.load 3 rfl (by decide) rfl rfl (T.aggOk rfl) rfl ?_ | refine Ops.load 4 rfl (by decide) rfl rfl (T.aggOk rfl) rfl ?_ | refine Ops.load 5 rfl (by decide) rfl rfl (T.aggOk rfl) rfl ?_)
  cases hb4 : decide (p3 = q3) with
  | false =>
    repeat (first | refine Run.seq ?_ | refine Run.region ?_ | refine Ops.nil ?_ | refine Ops.not rfl (by decide) ?_ | refine Ops.notS rfl ?_ | refine Ops.notU rfl (by decide) ?_ | refine Ops.notUS rfl ?_ | refine Ops.eqlStr rfl (by decide) rfl rfl ?_ | refine Ops.pure T rfl (by decide) rfl ?_ | refine Ops.load 0 rfl (by decide) rfl rfl (T.aggOk rfl) rfl ?_ | refine Ops.load 1 rfl (by decide) rfl rfl (T.aggOk rfl) rfl ?_ | refine Ops.load 2 rfl (by decide) rfl rfl (T.aggOk rfl) rfl ?_ | refine Ops.load 3 rfl (by decide) rfl rfl (T.aggOk rfl) rfl ?_ | refine Ops.load 4 rfl (by decide) rfl rfl (T.aggOk rfl) rfl ?_ | refine Ops.load 5 rfl (by decide) rfl rfl (T.aggOk rfl) rfl ?_)
    refine Run.dropL (List.sublist_append_right [_, _] _) ?_
    refine Run.ret1 (by rw [hCf]; exact Proofs.Try.func60) Proofs.Try.results60 rfl (hR _ _ _ ?_)
    exact ⟨by simp [eqP, hb4], rfl, f, g, f', g', M1, M2, M3, M4, rfl, hf, hg, hf', hg', .refl _, .refl _, .refl _, .refl _⟩
  | true =>
  repeat (first | refine Run.seq ?_ | refine Run.region ?_ | refine Ops.nil ?_ | refine Ops.not rfl (by decide) ?_ | refine Ops.notS rfl ?_ | refine Ops.notU rfl (by decide) ?_ | refine Ops.notUS rfl ?_ | refine Ops.eqlStr rfl (by decide) rfl rfl ?_ | refine Ops.pure T rfl (by decide) rfl ?_ | refine Ops.load 0 rfl (by decide) rfl rfl (T.aggOk rfl) rfl ?_ | refine Ops.load 1 rfl (by decide) rfl rfl (T.aggOk rfl) rfl ?_ | refine Ops.load 2 rfl (by decide) rfl rfl (T.aggOk rfl) rfl ?_ | refine Ops.load 3 rfl (by decide) rfl rfl (T.aggOk rfl) rfl ?_ | refine Ops.load 4 rfl (by decide) rfl rfl (T.aggOk rfl) rfl ?_ | refine Ops.load 5 rfl (by decide) rfl rfl (T.aggOk rfl) rfl ?_)
  refine Ops.callP (N := [_, _] ++ (M2 ++ M4)) (M := M1 ++ M3) (v1_IgnoreOrderO I f f' _ _ M1 M3 hf hf' h1 h3) (permE1 [_, _] M1 M2 M3 M4) rfl (by decide) Proofs.Try.call78 rfl ?_
  rintro _ J1 M' l1 ⟨rfl, rfl, f1, f2, N1, N3, rfl, k1, k3, q1', q3'⟩
  refine Ops.perm (permE2 [_, _] N1 M2 N3 M4) ?_
  repeat (first | refine Run.seq ?_ | refine Run.region ?_ | refine Ops.nil ?_ | refine Ops.not rfl (by decide) ?_ | refine Ops.notS rfl ?_ | refine Ops.notU rfl (by decide) ?_ | refine Ops.notUS rfl ?_ | refine Ops.eqlStr rfl (by decide) rfl rfl ?_ | refine Ops.pure T rfl (by decide) rfl ?_ | refine Ops.load 0 rfl (by decide) rfl rfl (T.aggOk rfl) rfl ?_ | refine Ops.load 1 rfl (by decide) rfl rfl (T.aggOk rfl) rfl ?_ | refine Ops.load 2 rfl (by decide) rfl rfl (T.aggOk rfl) rfl ?_ | refine Ops.load 3 rfl (by decide) rfl rfl (T.aggOk rfl) rfl ?_ | refine Ops.load 4 rfl (by decide) rfl rfl (T.aggOk rfl) rfl ?_ | refine Ops.load 5 rfl (by decide) rfl rfl (T.aggOk rfl) rfl ?_)
  cases hb5 : decide (sorted f = sorted f') with
  | false =>
    repeat (first | refine Run.seq ?_ | refine Run.region ?_ | refine Ops.nil ?_ | refine Ops.not rfl (by decide) ?_ | refine Ops.notS rfl ?_ | refine Ops.notU rfl (by decide) ?_ | refine Ops.notUS rfl ?_ | refine Ops.eqlStr rfl (by decide) rfl rfl ?_ | refine Ops.pure T rfl (by decide) rfl ?_ | refine Ops.load 0 rfl (by decide) rfl rfl (T.aggOk rfl) rfl ?_ | refine Ops.load 1 rfl (by decide) rfl rfl (T.aggOk rfl) rfl ?_ | refine Ops.load 2 rfl (by decide) rfl rfl (T.aggOk rfl) rfl ?_ | refine Ops.load 3 rfl (by decide) rfl rfl (T.aggOk rfl) rfl ?_ | refine Ops.load 4 rfl (by decide) rfl rfl (T.aggOk rfl) rfl ?_ | refine Ops.load 5 rfl (by decide) rfl rfl (T.aggOk rfl) rfl ?_)
    refine Run.dropL (List.sublist_append_right [_, _] _) ?_
    refine Run.ret1 (by rw [hCf]; exact Proofs.Try.func60) Proofs.Try.results60 rfl (hR _ _ _ ?_)
    exact ⟨by simp [eqP, hb5], rfl, f1, g, f2, g', N1, M2, N3, M4, rfl, k1, hg, k3, hg', q1', .refl _, q3', .refl _⟩
  | true =>
  repeat (first | refine Run.seq ?_ | refine Run.region ?_ | refine Ops.nil ?_ | refine Ops.not rfl (by decide) ?_ | refine Ops.notS rfl ?_ | refine Ops.notU rfl (by decide) ?_ | refine Ops.notUS rfl ?_ | refine Ops.eqlStr rfl (by decide) rfl rfl ?_ | refine Ops.pure T rfl (by decide) rfl ?_ | refine Ops.load 0 rfl (by decide) rfl rfl (T.aggOk rfl) rfl ?_ | refine Ops.load 1 rfl (by decide) rfl rfl (T.aggOk rfl) rfl ?_ | refine Ops.load 2 rfl (by decide) rfl rfl (T.aggOk rfl) rfl ?_ | refine Ops.load 3 rfl (by decide) rfl rfl (T.aggOk rfl) rfl ?_ | refine Ops.load 4 rfl (by decide) rfl rfl (T.aggOk rfl) rfl ?_ | refine Ops.load 5 rfl (by decide) rfl rfl (T.aggOk rfl) rfl ?_)
  refine Ops.callP (N := [_, _] ++ (N1 ++ N3)) (M := M2 ++ M4) (v1_IgnoreOrderO _ g g' _ _ M2 M4 hg hg' h2 h4) (permE3 [_, _] N1 M2 N3 M4) rfl (by decide) Proofs.Try.call78 rfl ?_
  rintro _ J2 M' l2 ⟨rfl, rfl, g1, g2, N2, N4, rfl, k2, k4, q2', q4'⟩
  refine Ops.perm (permE4 [_, _] N1 N2 N3 N4) ?_
  repeat (first | refine Run.seq ?_ | refine Run.region ?_ | refine Ops.nil ?_ | refine Ops.not rfl (by decide) ?_ | refine Ops.notS rfl ?_ | refine Ops.notU rfl (by decide) ?_ | refine Ops.notUS rfl ?_ | refine Ops.eqlStr rfl (by decide) rfl rfl ?_ | refine Ops.pure T rfl (by decide) rfl ?_ | refine Ops.load 0 rfl (by decide) rfl rfl (T.aggOk rfl) rfl ?_ | refine Ops.load 1 rfl (by decide) rfl rfl (T.aggOk rfl) rfl ?_ | refine Ops.load 2 rfl (by decide) rfl rfl (T.aggOk rfl) rfl ?_ | refine Ops.load 3 rfl (by decide) rfl rfl (T.aggOk rfl) rfl ?_ | refine Ops.load 4 rfl (by decide) rfl rfl (T.aggOk rfl) rfl ?_ | refine Ops.load 5 rfl (by decide) rfl rfl (T.aggOk rfl) rfl ?_)
  refine Run.dropL (List.sublist_append_right [_, _] _) ?_
  refine Run.ret1 (by rw [hCf]; exact Proofs.Try.func60) Proofs.Try.results60 rfl (hR _ _ _ ?_)
  exact ⟨by simp only [eqP, hb1, hb2, hb3, hb4, hb5]; simp, rfl, f1, g1, f2, g2, N1, N2, N3, N4, rfl, k1, k2, k3, k4, q1', q2', q3', q4'⟩
end Go.V
