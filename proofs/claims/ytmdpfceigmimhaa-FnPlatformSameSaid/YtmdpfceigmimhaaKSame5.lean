/-
  Are two platforms equivalent? By the package, by the document.
-/
import Derived.Test.YtmdpfceigmimhaaKSame4
namespace Go.V
open Go.RowKit
set_option linter.unusedVariables false
set_option linter.unusedSimpArgs false
set_option maxRecDepth 10000
attribute [local irreducible] Run Ops

def eqP (p q : Pf) (f g f' g' : Txts) : Bool := decide (p.os = q.os) && decide (p.arch = q.arch) && decide (p.var = q.var) && decide (p.ver = q.ver) && decide (sorted f = sorted f') && decide (sorted g = sorted g')

open Classical in
theorem permE1 {α : Type} (X A B C D : List α) : (X ++ ((A ++ B) ++ (C ++ D))).Perm ((X ++ (B ++ D)) ++ (A ++ C)) := perm_of_count fun x => by simp only [List.count_append]; omega

set_option maxHeartbeats 1000000 in
theorem Platform_Equals (I : Imm) (p q : Pf) (f g f' g' : Txts) (u v u' v' : Value) (M1 M2 M3 M4 : Own) (hf : Gr tStr I 9 u f M1) (hg : Gr tStr I 9 v g M2) (hf' : Gr tStr I 9 u' f' M3) (hg' : Gr tStr I 9 v' g' M4)
    (h1 : f.length ≤ 2147483647) (h2 : g.length ≤ 2147483647) (h3 : f'.length ≤ 2147483647) (h4 : g'.length ≤ 2147483647) :
    Spec Proofs.Try.prog 60 [.agg (p.ds u v).toArray, .agg (q.ds u' v').toArray] I ((M1 ++ M2) ++ (M3 ++ M4)) fun w J M => w = .bool (eqP p q f g f' g') ∧ M = [] := by
  obtain ⟨p1, p2, p3, p4⟩ := p
  obtain ⟨q1, q2, q3, q4⟩ := q
  obtain ⟨A1, c1, e⟩ := hf.isSl
  subst e
  obtain ⟨A2, c2, e⟩ := hg.isSl
  subst e
  obtain ⟨A3, c3, e⟩ := hf'.isSl
  subst e
  obtain ⟨A4, c4, e⟩ := hg'.isSl
  subst e
  refine Spec.enter 45 [(0, _), (1, _)] Proofs.Try.func60 rfl Proofs.Try.ntmps60 (by simp) rfl ?_
  intro C hCf hR hCI
  repeat (first | refine Run.seq ?_ | refine Run.region ?_ | refine Ops.nil ?_ | refine Ops.not rfl (by decide) ?_ | refine Ops.notS rfl ?_ | refine Ops.notU rfl (by decide) ?_ | refine Ops.notUS rfl ?_ | refine Ops.eqlStr rfl (by decide) rfl rfl ?_ | refine Ops.pure T rfl (by decide) rfl ?_ | refine Ops.load 0 rfl (by decide) rfl rfl (T.aggOk rfl) rfl ?_ | refine Ops.load 1 rfl (by decide) rfl rfl (T.aggOk rfl) rfl ?_ | refine Ops.load 2 rfl (by decide) rfl rfl (T.aggOk rfl) rfl ?_ | refine Ops.load 3 rfl (by decide) rfl rfl (T.aggOk rfl) rfl ?_ | refine Ops.load 4 rfl (by decide) rfl rfl (T.aggOk rfl) rfl ?_ | refine Ops.load 5 rfl (by decide) rfl rfl (T.aggOk rfl) rfl ?_)
  refine Ops.box rfl (by decide) rfl rfl (fun b1 => ?_)
  refine Ops.box rfl (by decide) rfl rfl (fun b2 => ?_)
  repeat (first | refine Run.seq ?_ | refine Run.region ?_ | refine Ops.nil ?_ | refine Ops.not rfl (by decide) ?_ | refine Ops.notS rfl ?_ | refine Ops.notU rfl (by decide) ?_ | refine Ops.notUS rfl ?_ | refine Ops.eqlStr rfl (by decide) rfl rfl ?_ | refine Ops.pure T rfl (by decide) rfl ?_ | refine Ops.load 0 rfl (by decide) rfl rfl (T.aggOk rfl) rfl ?_ | refine Ops.load 1 rfl (by decide) rfl rfl (T.aggOk rfl) rfl ?_ | refine Ops.load 2 rfl (by decide) rfl rfl (T.aggOk rfl) rfl ?_ | refine Ops.load 3 rfl (by decide) rfl rfl (T.aggOk rfl) rfl ?_ | refine Ops.load 4 rfl (by decide) rfl rfl (T.aggOk rfl) rfl ?_ | refine Ops.load 5 rfl (by decide) rfl rfl (T.aggOk rfl) rfl ?_)
  cases hb1 : decide (p2 = q2) with
  | false =>
    repeat (first | refine Run.seq ?_ | refine Run.region ?_ | refine Ops.nil ?_ | refine Ops.not rfl (by decide) ?_ | refine Ops.notS rfl ?_ | refine Ops.notU rfl (by decide) ?_ | refine Ops.notUS rfl ?_ | refine Ops.eqlStr rfl (by decide) rfl rfl ?_ | refine Ops.pure T rfl (by decide) rfl ?_ | refine Ops.load 0 rfl (by decide) rfl rfl (T.aggOk rfl) rfl ?_ | refine Ops.load 1 rfl (by decide) rfl rfl (T.aggOk rfl) rfl ?_ | refine Ops.load 2 rfl (by decide) rfl rfl (T.aggOk rfl) rfl ?_ | refine Ops.load 3 rfl (by decide) rfl rfl (T.aggOk rfl) rfl ?_ | refine Ops.load 4 rfl (by decide) rfl rfl (T.aggOk rfl) rfl ?_ | refine Ops.load 5 rfl (by decide) rfl rfl (T.aggOk rfl) rfl ?_)
    refine Run.fin (Run.ret1 (by rw [hCf]; exact Proofs.Try.func60) Proofs.Try.results60 rfl (hR _ _ _ ?_))
    exact ⟨by simp [eqP, hb1], rfl⟩
  | true =>
  repeat (first | refine Run.seq ?_ | refine Run.region ?_ | refine Ops.nil ?_ | refine Ops.not rfl (by decide) ?_ | refine Ops.notS rfl ?_ | refine Ops.notU rfl (by decide) ?_ | refine Ops.notUS rfl ?_ | refine Ops.eqlStr rfl (by decide) rfl rfl ?_ | refine Ops.pure T rfl (by decide) rfl ?_ | refine Ops.load 0 rfl (by decide) rfl rfl (T.aggOk rfl) rfl ?_ | refine Ops.load 1 rfl (by decide) rfl rfl (T.aggOk rfl) rfl ?_ | refine Ops.load 2 rfl (by decide) rfl rfl (T.aggOk rfl) rfl ?_ | refine Ops.load 3 rfl (by decide) rfl rfl (T.aggOk rfl) rfl ?_ | refine Ops.load 4 rfl (by decide) rfl rfl (T.aggOk rfl) rfl ?_ | refine Ops.load 5 rfl (by decide) rfl rfl (T.aggOk rfl) rfl ?_)
  cases hb2 : decide (p1 = q1) with
  | false =>
    repeat (first | refine Run.seq ?_ | refine Run.region ?_ | refine Ops.nil ?_ | refine Ops.not rfl (by decide) ?_ | refine Ops.notS rfl ?_ | refine Ops.notU rfl (by decide) ?_ | refine Ops.notUS rfl ?_ | refine Ops.eqlStr rfl (by decide) rfl rfl ?_ | refine Ops.pure T rfl (by decide) rfl ?_ | refine Ops.load 0 rfl (by decide) rfl rfl (T.aggOk rfl) rfl ?_ | refine Ops.load 1 rfl (by decide) rfl rfl (T.aggOk rfl) rfl ?_ | refine Ops.load 2 rfl (by decide) rfl rfl (T.aggOk rfl) rfl ?_ | refine Ops.load 3 rfl (by decide) rfl rfl (T.aggOk rfl) rfl ?_ | refine Ops.load 4 rfl (by decide) rfl rfl (T.aggOk rfl) rfl ?_ | refine Ops.load 5 rfl (by decide) rfl rfl (T.aggOk rfl) rfl ?_)
    refine Run.fin (Run.ret1 (by rw [hCf]; exact Proofs.Try.func60) Proofs.Try.results60 rfl (hR _ _ _ ?_))
    exact ⟨by simp [eqP, hb2], rfl⟩
  | true =>
  repeat (first | refine Run.seq ?_ | refine Run.region ?_ | refine Ops.nil ?_ | refine Ops.not rfl (by decide) ?_ | refine Ops.notS rfl ?_ | refine Ops.notU rfl (by decide) ?_ | refine Ops.notUS rfl ?_ | refine Ops.eqlStr rfl (by decide) rfl rfl ?_ | refine Ops.pure T rfl (by decide) rfl ?_ | refine Ops.load 0 rfl (by decide) rfl rfl (T.aggOk rfl) rfl ?_ | refine Ops.load 1 rfl (by decide) rfl rfl (T.aggOk rfl) rfl ?_ | refine Ops.load 2 rfl (by decide) rfl rfl (T.aggOk rfl) rfl ?_ | refine Ops.load 3 rfl (by decide) rfl rfl (T.aggOk rfl) rfl ?_ | refine Ops.load 4 rfl (by decide) rfl rfl (T.aggOk rfl) rfl ?_ | refine Ops.load 5 rfl (by decide) rfl rfl (T.aggOk rfl) rfl ?_)
  cases hb3 : decide (p4 = q4) with
  | false =>
    repeat (first | refine Run.seq ?_ | refine Run.region ?_ | refine Ops.nil ?_ | refine Ops.not rfl (by decide) ?_ | refine Ops.notS rfl ?_ | refine Ops.notU rfl (by decide) ?_ | refine Ops.notUS rfl ?_ | refine Ops.eqlStr rfl (by decide) rfl rfl ?_ | refine Ops.pure T rfl (by decide) rfl ?_ | refine Ops.load 0 rfl (by decide) rfl rfl (T.aggOk rfl) rfl ?_ | refine Ops.load 1 rfl (by decide) rfl rfl (T.aggOk rfl) rfl ?_ | refine Ops.load 2 rfl (by decide) rfl rfl (T.aggOk rfl) rfl ?_ | refine Ops.load 3 rfl (by decide) rfl rfl (T.aggOk rfl) rfl ?_ | refine Ops.load 4 rfl (by decide) rfl rfl (T.aggOk rfl) rfl ?_ | refine Ops.load 5 rfl (by decide) rfl rfl (T.aggOk rfl) rfl ?_)
    refine Run.fin (Run.ret1 (by rw [hCf]; exact Proofs.Try.func60) Proofs.Try.results60 rfl (hR _ _ _ ?_))
    exact ⟨by simp [eqP, hb3], rfl⟩
  | true =>
  repeat (first | refine Run.seq ?_ | refine Run.region ?_ | refine Ops.nil ?_ | refine Ops.not rfl (by decide) ?_ | refine Ops.notS rfl ?_ | refine Ops.notU rfl (by decide) ?_ | refine Ops.notUS rfl ?_ | refine Ops.eqlStr rfl (by decide) rfl rfl ?_ | refine Ops.pure T rfl (by decide) rfl ?_ | refine Ops.load 0 rfl (by decide) rfl rfl (T.aggOk rfl) rfl ?_ | refine Ops.load 1 rfl (by decide) rfl rfl (T.aggOk rfl) rfl ?_ | refine Ops.load 2 rfl (by decide) rfl rfl (T.aggOk rfl) rfl ?_ | refine Ops.load 3 rfl (by decide) rfl rfl (T.aggOk rfl) rfl ?_ | refine Ops.load 4 rfl (by decide) rfl rfl (T.aggOk rfl) rfl ?_ | refine Ops.load 5 rfl (by decide) rfl rfl (T.aggOk rfl) rfl ?_)
  cases hb4 : decide (p3 = q3) with
  | false =>
    repeat (first | refine Run.seq ?_ | refine Run.region ?_ | refine Ops.nil ?_ | refine Ops.not rfl (by decide) ?_ | refine Ops.notS rfl ?_ | refine Ops.notU rfl (by decide) ?_ | refine Ops.notUS rfl ?_ | refine Ops.eqlStr rfl (by decide) rfl rfl ?_ | refine Ops.pure T rfl (by decide) rfl ?_ | refine Ops.load 0 rfl (by decide) rfl rfl (T.aggOk rfl) rfl ?_ | refine Ops.load 1 rfl (by decide) rfl rfl (T.aggOk rfl) rfl ?_ | refine Ops.load 2 rfl (by decide) rfl rfl (T.aggOk rfl) rfl ?_ | refine Ops.load 3 rfl (by decide) rfl rfl (T.aggOk rfl) rfl ?_ | refine Ops.load 4 rfl (by decide) rfl rfl (T.aggOk rfl) rfl ?_ | refine Ops.load 5 rfl (by decide) rfl rfl (T.aggOk rfl) rfl ?_)
    refine Run.fin (Run.ret1 (by rw [hCf]; exact Proofs.Try.func60) Proofs.Try.results60 rfl (hR _ _ _ ?_))
    exact ⟨by simp [eqP, hb4], rfl⟩
  | true =>
  repeat (first | refine Run.seq ?_ | refine Run.region ?_ | refine Ops.nil ?_ | refine Ops.not rfl (by decide) ?_ | refine Ops.notS rfl ?_ | refine Ops.notU rfl (by decide) ?_ | refine Ops.notUS rfl ?_ | refine Ops.eqlStr rfl (by decide) rfl rfl ?_ | refine Ops.pure T rfl (by decide) rfl ?_ | refine Ops.load 0 rfl (by decide) rfl rfl (T.aggOk rfl) rfl ?_ | refine Ops.load 1 rfl (by decide) rfl rfl (T.aggOk rfl) rfl ?_ | refine Ops.load 2 rfl (by decide) rfl rfl (T.aggOk rfl) rfl ?_ | refine Ops.load 3 rfl (by decide) rfl rfl (T.aggOk rfl) rfl ?_ | refine Ops.load 4 rfl (by decide) rfl rfl (T.aggOk rfl) rfl ?_ | refine Ops.load 5 rfl (by decide) rfl rfl (T.aggOk rfl) rfl ?_)
  refine Ops.callP (N := [_, _] ++ (M2 ++ M4)) (M := M1 ++ M3) (v1_IgnoreOrder I f f' _ _ M1 M3 hf hf' h1 h3) (permE1 [_, _] M1 M2 M3 M4) rfl (by decide) Proofs.Try.call78 rfl ?_
  rintro _ J1 M' l1 ⟨rfl, rfl⟩
  rw [List.append_nil]
  repeat (first | refine Run.seq ?_ | refine Run.region ?_ | refine Ops.nil ?_ | refine Ops.not rfl (by decide) ?_ | refine Ops.notS rfl ?_ | refine Ops.notU rfl (by decide) ?_ | refine Ops.notUS rfl ?_ | refine Ops.eqlStr rfl (by decide) rfl rfl ?_ | refine Ops.pure T rfl (by decide) rfl ?_ | refine Ops.load 0 rfl (by decide) rfl rfl (T.aggOk rfl) rfl ?_ | refine Ops.load 1 rfl (by decide) rfl rfl (T.aggOk rfl) rfl ?_ | refine Ops.load 2 rfl (by decide) rfl rfl (T.aggOk rfl) rfl ?_ | refine Ops.load 3 rfl (by decide) rfl rfl (T.aggOk rfl) rfl ?_ | refine Ops.load 4 rfl (by decide) rfl rfl (T.aggOk rfl) rfl ?_ | refine Ops.load 5 rfl (by decide) rfl rfl (T.aggOk rfl) rfl ?_)
  cases hb5 : decide (sorted f = sorted f') with
  | false =>
    repeat (first | refine Run.seq ?_ | refine Run.region ?_ | refine Ops.nil ?_ | refine Ops.not rfl (by decide) ?_ | refine Ops.notS rfl ?_ | refine Ops.notU rfl (by decide) ?_ | refine Ops.notUS rfl ?_ | refine Ops.eqlStr rfl (by decide) rfl rfl ?_ | refine Ops.pure T rfl (by decide) rfl ?_ | refine Ops.load 0 rfl (by decide) rfl rfl (T.aggOk rfl) rfl ?_ | refine Ops.load 1 rfl (by decide) rfl rfl (T.aggOk rfl) rfl ?_ | refine Ops.load 2 rfl (by decide) rfl rfl (T.aggOk rfl) rfl ?_ | refine Ops.load 3 rfl (by decide) rfl rfl (T.aggOk rfl) rfl ?_ | refine Ops.load 4 rfl (by decide) rfl rfl (T.aggOk rfl) rfl ?_ | refine Ops.load 5 rfl (by decide) rfl rfl (T.aggOk rfl) rfl ?_)
    refine Run.fin (Run.ret1 (by rw [hCf]; exact Proofs.Try.func60) Proofs.Try.results60 rfl (hR _ _ _ ?_))
    exact ⟨by simp [eqP, hb5], rfl⟩
  | true =>
  repeat (first | refine Run.seq ?_ | refine Run.region ?_ | refine Ops.nil ?_ | refine Ops.not rfl (by decide) ?_ | refine Ops.notS rfl ?_ | refine Ops.notU rfl (by decide) ?_ | refine Ops.notUS rfl ?_ | refine Ops.eqlStr rfl (by decide) rfl rfl ?_ | refine Ops.pure T rfl (by decide) rfl ?_ | refine Ops.load 0 rfl (by decide) rfl rfl (T.aggOk rfl) rfl ?_ | refine Ops.load 1 rfl (by decide) rfl rfl (T.aggOk rfl) rfl ?_ | refine Ops.load 2 rfl (by decide) rfl rfl (T.aggOk rfl) rfl ?_ | refine Ops.load 3 rfl (by decide) rfl rfl (T.aggOk rfl) rfl ?_ | refine Ops.load 4 rfl (by decide) rfl rfl (T.aggOk rfl) rfl ?_ | refine Ops.load 5 rfl (by decide) rfl rfl (T.aggOk rfl) rfl ?_)
  refine Ops.callP (N := [_, _]) (M := M2 ++ M4) (v1_IgnoreOrder J1 g g' _ _ M2 M4 (hg.mono l1) (hg'.mono l1) h2 h4) (.refl _) rfl (by decide) Proofs.Try.call78 rfl ?_
  rintro _ J2 M' l2 ⟨rfl, rfl⟩
  rw [List.append_nil]
  repeat (first | refine Run.seq ?_ | refine Run.region ?_ | refine Ops.nil ?_ | refine Ops.not rfl (by decide) ?_ | refine Ops.notS rfl ?_ | refine Ops.notU rfl (by decide) ?_ | refine Ops.notUS rfl ?_ | refine Ops.eqlStr rfl (by decide) rfl rfl ?_ | refine Ops.pure T rfl (by decide) rfl ?_ | refine Ops.load 0 rfl (by decide) rfl rfl (T.aggOk rfl) rfl ?_ | refine Ops.load 1 rfl (by decide) rfl rfl (T.aggOk rfl) rfl ?_ | refine Ops.load 2 rfl (by decide) rfl rfl (T.aggOk rfl) rfl ?_ | refine Ops.load 3 rfl (by decide) rfl rfl (T.aggOk rfl) rfl ?_ | refine Ops.load 4 rfl (by decide) rfl rfl (T.aggOk rfl) rfl ?_ | refine Ops.load 5 rfl (by decide) rfl rfl (T.aggOk rfl) rfl ?_)
  refine Run.fin (Run.ret1 (by rw [hCf]; exact Proofs.Try.func60) Proofs.Try.results60 rfl (hR _ _ _ ?_))
  exact ⟨by simp only [eqP, hb1, hb2, hb3, hb4, hb5]; simp, rfl⟩

set_option maxHeartbeats 1000000 in
theorem impl_PlatformEquals (I : Imm) (p q : Pf) (f g f' g' : Txts) (u v u' v' : Value) (hf : Sl tStr I u f) (hg : Sl tStr I v g) (hf' : Sl tStr I u' f') (hg' : Sl tStr I v' g') (h1 : f.length ≤ 2147483647) (h2 : g.length ≤ 2147483647) (h3 : f'.length ≤ 2147483647) (h4 : g'.length ≤ 2147483647) :
    Pure Proofs.Try.prog 34 [.agg (p.cs u v).toArray, .agg (q.cs u' v').toArray] I fun w J => w = .bool (eqP p q f g f' g') := by
  obtain ⟨A1, c1, e⟩ := hf.isSl
  subst e
  obtain ⟨A2, c2, e⟩ := hg.isSl
  subst e
  obtain ⟨A3, c3, e⟩ := hf'.isSl
  subst e
  obtain ⟨A4, c4, e⟩ := hg'.isSl
  subst e
  refine Spec.enter 10 [(0, _), (1, _)] Proofs.Try.func34 rfl Proofs.Try.ntmps34 (by simp) rfl ?_
  intro C hCf hR hCI
  repeat (first | refine Run.seq ?_ | refine Run.region ?_ | refine Ops.nil ?_ | refine Ops.pure T rfl (by decide) rfl ?_ | refine Ops.loadN 0 rfl (by decide) rfl rfl (T.aggOk rfl) (T.sizeOk rfl) rfl rfl ?_ | refine Ops.loadN 1 rfl (by decide) rfl rfl (T.aggOk rfl) (T.sizeOk rfl) rfl rfl ?_ | refine Ops.loadN 2 rfl (by decide) rfl rfl (T.aggOk rfl) (T.sizeOk rfl) rfl rfl ?_ | refine Ops.loadN 3 rfl (by decide) rfl rfl (T.aggOk rfl) (T.sizeOk rfl) rfl rfl ?_ | refine Ops.loadN 4 rfl (by decide) rfl rfl (T.aggOk rfl) (T.sizeOk rfl) rfl rfl ?_ | refine Ops.loadN 5 rfl (by decide) rfl rfl (T.aggOk rfl) (T.sizeOk rfl) rfl rfl ?_)
  refine Ops.box rfl (by decide) rfl rfl (fun b1 => ?_)
  refine Ops.box rfl (by decide) rfl rfl (fun b2 => ?_)
  repeat (first | refine Run.seq ?_ | refine Run.region ?_ | refine Ops.nil ?_ | refine Ops.pure T rfl (by decide) rfl ?_ | refine Ops.loadN 0 rfl (by decide) rfl rfl (T.aggOk rfl) (T.sizeOk rfl) rfl rfl ?_ | refine Ops.loadN 1 rfl (by decide) rfl rfl (T.aggOk rfl) (T.sizeOk rfl) rfl rfl ?_ | refine Ops.loadN 2 rfl (by decide) rfl rfl (T.aggOk rfl) (T.sizeOk rfl) rfl rfl ?_ | refine Ops.loadN 3 rfl (by decide) rfl rfl (T.aggOk rfl) (T.sizeOk rfl) rfl rfl ?_ | refine Ops.loadN 4 rfl (by decide) rfl rfl (T.aggOk rfl) (T.sizeOk rfl) rfl rfl ?_ | refine Ops.loadN 5 rfl (by decide) rfl rfl (T.aggOk rfl) (T.sizeOk rfl) rfl rfl ?_)
  refine Run.regionAny (Holds I [(b2, blk (q.cs (.slice A3 f'.length c3) (.slice A4 g'.length c4)) 38), (b1, blk (p.cs (.slice A1 f.length c1) (.slice A2 g.length c2)) 38)]) [false, false, false, false, false, false] (by kernel_rfl) rfl ?_
  refine RAny.takeD 0 [true, false, false, false, false, false] rfl (by kernel_rfl) (by kernel_rfl) (by kernel_rfl) rfl (by decide) (fun W h => h.holds (Le.refl _) (fun _ h => by first | exact h | (cases h; done) | (simp at h; subst h; simp))) (Yld.loadN 1 T rfl rfl rfl rfl rfl rfl rfl) ?_
  refine RAny.takeD 2 [true, false, true, false, false, false] rfl (by kernel_rfl) (by kernel_rfl) (by kernel_rfl) rfl (by decide) (fun W h => h.holds (Le.refl _) (fun _ h => by first | exact h | (cases h; done) | (simp at h; subst h; simp))) (Yld.loadN 0 T rfl rfl rfl rfl rfl rfl rfl) ?_
  refine RAny.oneD 1 [true, true, true, false, false, false] rfl (by kernel_rfl) rfl rfl (by decide) (Eff.callM (M := []) (Platform_toM I p _ _ f g hf hg h1 h2) (.refl _) Proofs.Try.call51 rfl fun x1 J1 N1 l1 hx1 => ⟨fun W h => h.holds l1 (fun _ h => List.mem_append_right _ h), ?_⟩)
  refine RAny.perm List.perm_append_comm ?_
  obtain ⟨u1, v1, M1, M2, rfl, rfl, hu1, hv1⟩ := hx1
  refine RAny.oneD 3 [true, true, true, true, false, false] rfl (by kernel_rfl) rfl rfl (by decide) (Eff.callM (M := []) (Platform_toM J1 q _ _ f' g' (hf'.mono l1) (hg'.mono l1) h3 h4) (.refl _) Proofs.Try.call51 rfl fun x2 J2 N2 l2 hx2 => ⟨fun W h => h.holds (l1.trans l2) (fun _ h => List.mem_append_right _ (List.mem_append_left _ h)), ?_⟩)
  refine RAny.perm List.perm_append_comm ?_
  obtain ⟨u2, v2, M3, M4, rfl, rfl, hu2, hv2⟩ := hx2
  refine RAny.perm (L' := ((M1 ++ M2) ++ (M3 ++ M4)) ++ [_, _]) (List.perm_append_comm (l₁ := [_, _]) (l₂ := (M1 ++ M2) ++ (M3 ++ M4))) ?_
  refine RAny.oneD 4 [true, true, true, true, true, false] rfl (by kernel_rfl) rfl rfl (by decide) (Eff.callM (Platform_Equals J2 p q f g f' g' u1 v1 u2 v2 M1 M2 M3 M4 (hu1.mono l2) (hv1.mono l2) hu2 hv2 h1 h2 h3 h4) (.refl _) Proofs.Try.call60 rfl fun x3 J3 N3 l3 hx3 => ⟨fun W h => h.holds ((l1.trans l2).trans l3) (fun _ h => List.mem_append_right _ h), ?_⟩)
  obtain ⟨rfl, rfl⟩ := hx3
  refine RAny.takeD 5 [true, true, true, true, true, true] rfl (by kernel_rfl) (by kernel_rfl) (by kernel_rfl) rfl (by decide) (fun W h => h.holds ((l1.trans l2).trans l3) (fun _ h => h)) (Yld.eval T rfl rfl) ?_
  refine RAny.done _ (by kernel_rfl) ?_
  repeat (first | refine Run.seq ?_ | refine Run.region ?_ | refine Ops.nil ?_ | refine Ops.pure T rfl (by decide) rfl ?_ | refine Ops.loadN 0 rfl (by decide) rfl rfl (T.aggOk rfl) (T.sizeOk rfl) rfl rfl ?_ | refine Ops.loadN 1 rfl (by decide) rfl rfl (T.aggOk rfl) (T.sizeOk rfl) rfl rfl ?_ | refine Ops.loadN 2 rfl (by decide) rfl rfl (T.aggOk rfl) (T.sizeOk rfl) rfl rfl ?_ | refine Ops.loadN 3 rfl (by decide) rfl rfl (T.aggOk rfl) (T.sizeOk rfl) rfl rfl ?_ | refine Ops.loadN 4 rfl (by decide) rfl rfl (T.aggOk rfl) (T.sizeOk rfl) rfl rfl ?_ | refine Ops.loadN 5 rfl (by decide) rfl rfl (T.aggOk rfl) (T.sizeOk rfl) rfl rfl ?_)
  refine Run.fin (Run.ret1 (by rw [hCf]; exact Proofs.Try.func34) Proofs.Try.results34 rfl (hR _ _ _ ?_))
  exact ⟨rfl, rfl⟩

def same (p q : Pf) (f g f' g' : Txts) : Bool := decide (p.arch = q.arch) && decide (p.os = q.os) && decide (p.ver = q.ver) && decide (p.var = q.var) && decide (f.length = f'.length) && decide (g.length = g'.length) && holdsL f f' && holdsL g g'
theorem natdec (a b : Nat) : decide ((a : Int) = (b : Int)) = decide (a = b) := by rw [decide_eq_decide]; omega
set_option maxHeartbeats 1000000 in
theorem spec_SameKinds (I : Imm) (p q : Pf) (f g f' g' : Txts) (u v u' v' : Value) (hf : Sl tStr I u f) (hg : Sl tStr I v g) (hf' : Sl tStr I u' f') (hg' : Sl tStr I v' g') (h1 : f.length ≤ 2147483647) (h2 : g.length ≤ 2147483647) (h3 : f'.length ≤ 2147483647) (h4 : g'.length ≤ 2147483647) :
    Pure Proofs.Try.prog 35 [.agg (p.cs u v).toArray, .agg (q.cs u' v').toArray] I fun w J => w = .bool (same p q f g f' g') := by
  obtain ⟨p1, p2, p3, p4⟩ := p
  obtain ⟨q1, q2, q3, q4⟩ := q
  obtain ⟨A1, c1, e⟩ := hf.isSl
  subst e
  obtain ⟨A2, c2, e⟩ := hg.isSl
  subst e
  obtain ⟨A3, c3, e⟩ := hf'.isSl
  subst e
  obtain ⟨A4, c4, e⟩ := hg'.isSl
  subst e
  refine Spec.enter 63 [(0, _), (1, _)] Proofs.Try.func35 rfl Proofs.Try.ntmps35 (by simp) rfl ?_
  intro C hCf hR hCI
  repeat (first | refine Run.seq ?_ | refine Run.region ?_ | refine Ops.nil ?_ | refine Ops.not rfl (by decide) ?_ | refine Ops.notS rfl ?_ | refine Ops.notU rfl (by decide) ?_ | refine Ops.notUS rfl ?_ | refine Ops.eql rfl (by decide) rfl rfl ?_ | refine Ops.eqlStr rfl (by decide) rfl rfl ?_ | refine Ops.pure T rfl (by decide) rfl ?_ | refine Ops.load 0 rfl (by decide) rfl rfl (T.aggOk rfl) rfl ?_ | refine Ops.load 1 rfl (by decide) rfl rfl (T.aggOk rfl) rfl ?_ | refine Ops.load 2 rfl (by decide) rfl rfl (T.aggOk rfl) rfl ?_ | refine Ops.load 3 rfl (by decide) rfl rfl (T.aggOk rfl) rfl ?_ | refine Ops.load 4 rfl (by decide) rfl rfl (T.aggOk rfl) rfl ?_ | refine Ops.load 5 rfl (by decide) rfl rfl (T.aggOk rfl) rfl ?_)
  refine Ops.box rfl (by decide) rfl rfl (fun b1 => ?_)
  refine Ops.box rfl (by decide) rfl rfl (fun b2 => ?_)
  repeat (first | refine Run.seq ?_ | refine Run.region ?_ | refine Ops.nil ?_ | refine Ops.not rfl (by decide) ?_ | refine Ops.notS rfl ?_ | refine Ops.notU rfl (by decide) ?_ | refine Ops.notUS rfl ?_ | refine Ops.eql rfl (by decide) rfl rfl ?_ | refine Ops.eqlStr rfl (by decide) rfl rfl ?_ | refine Ops.pure T rfl (by decide) rfl ?_ | refine Ops.load 0 rfl (by decide) rfl rfl (T.aggOk rfl) rfl ?_ | refine Ops.load 1 rfl (by decide) rfl rfl (T.aggOk rfl) rfl ?_ | refine Ops.load 2 rfl (by decide) rfl rfl (T.aggOk rfl) rfl ?_ | refine Ops.load 3 rfl (by decide) rfl rfl (T.aggOk rfl) rfl ?_ | refine Ops.load 4 rfl (by decide) rfl rfl (T.aggOk rfl) rfl ?_ | refine Ops.load 5 rfl (by decide) rfl rfl (T.aggOk rfl) rfl ?_)
  cases hb1 : decide (p1 = q1) with
  | false =>
    repeat (first | refine Run.seq ?_ | refine Run.region ?_ | refine Ops.nil ?_ | refine Ops.not rfl (by decide) ?_ | refine Ops.notS rfl ?_ | refine Ops.notU rfl (by decide) ?_ | refine Ops.notUS rfl ?_ | refine Ops.eql rfl (by decide) rfl rfl ?_ | refine Ops.eqlStr rfl (by decide) rfl rfl ?_ | refine Ops.pure T rfl (by decide) rfl ?_ | refine Ops.load 0 rfl (by decide) rfl rfl (T.aggOk rfl) rfl ?_ | refine Ops.load 1 rfl (by decide) rfl rfl (T.aggOk rfl) rfl ?_ | refine Ops.load 2 rfl (by decide) rfl rfl (T.aggOk rfl) rfl ?_ | refine Ops.load 3 rfl (by decide) rfl rfl (T.aggOk rfl) rfl ?_ | refine Ops.load 4 rfl (by decide) rfl rfl (T.aggOk rfl) rfl ?_ | refine Ops.load 5 rfl (by decide) rfl rfl (T.aggOk rfl) rfl ?_)
    refine Run.fin (Run.ret1 (by rw [hCf]; exact Proofs.Try.func35) Proofs.Try.results35 rfl (hR _ _ _ ?_))
    exact ⟨rfl, by simp [same, hb1]⟩
  | true =>
  repeat (first | refine Run.seq ?_ | refine Run.region ?_ | refine Ops.nil ?_ | refine Ops.not rfl (by decide) ?_ | refine Ops.notS rfl ?_ | refine Ops.notU rfl (by decide) ?_ | refine Ops.notUS rfl ?_ | refine Ops.eql rfl (by decide) rfl rfl ?_ | refine Ops.eqlStr rfl (by decide) rfl rfl ?_ | refine Ops.pure T rfl (by decide) rfl ?_ | refine Ops.load 0 rfl (by decide) rfl rfl (T.aggOk rfl) rfl ?_ | refine Ops.load 1 rfl (by decide) rfl rfl (T.aggOk rfl) rfl ?_ | refine Ops.load 2 rfl (by decide) rfl rfl (T.aggOk rfl) rfl ?_ | refine Ops.load 3 rfl (by decide) rfl rfl (T.aggOk rfl) rfl ?_ | refine Ops.load 4 rfl (by decide) rfl rfl (T.aggOk rfl) rfl ?_ | refine Ops.load 5 rfl (by decide) rfl rfl (T.aggOk rfl) rfl ?_)
  cases hb2 : decide (p2 = q2) with
  | false =>
    repeat (first | refine Run.seq ?_ | refine Run.region ?_ | refine Ops.nil ?_ | refine Ops.not rfl (by decide) ?_ | refine Ops.notS rfl ?_ | refine Ops.notU rfl (by decide) ?_ | refine Ops.notUS rfl ?_ | refine Ops.eql rfl (by decide) rfl rfl ?_ | refine Ops.eqlStr rfl (by decide) rfl rfl ?_ | refine Ops.pure T rfl (by decide) rfl ?_ | refine Ops.load 0 rfl (by decide) rfl rfl (T.aggOk rfl) rfl ?_ | refine Ops.load 1 rfl (by decide) rfl rfl (T.aggOk rfl) rfl ?_ | refine Ops.load 2 rfl (by decide) rfl rfl (T.aggOk rfl) rfl ?_ | refine Ops.load 3 rfl (by decide) rfl rfl (T.aggOk rfl) rfl ?_ | refine Ops.load 4 rfl (by decide) rfl rfl (T.aggOk rfl) rfl ?_ | refine Ops.load 5 rfl (by decide) rfl rfl (T.aggOk rfl) rfl ?_)
    refine Run.fin (Run.ret1 (by rw [hCf]; exact Proofs.Try.func35) Proofs.Try.results35 rfl (hR _ _ _ ?_))
    exact ⟨rfl, by simp [same, hb2]⟩
  | true =>
  repeat (first | refine Run.seq ?_ | refine Run.region ?_ | refine Ops.nil ?_ | refine Ops.not rfl (by decide) ?_ | refine Ops.notS rfl ?_ | refine Ops.notU rfl (by decide) ?_ | refine Ops.notUS rfl ?_ | refine Ops.eql rfl (by decide) rfl rfl ?_ | refine Ops.eqlStr rfl (by decide) rfl rfl ?_ | refine Ops.pure T rfl (by decide) rfl ?_ | refine Ops.load 0 rfl (by decide) rfl rfl (T.aggOk rfl) rfl ?_ | refine Ops.load 1 rfl (by decide) rfl rfl (T.aggOk rfl) rfl ?_ | refine Ops.load 2 rfl (by decide) rfl rfl (T.aggOk rfl) rfl ?_ | refine Ops.load 3 rfl (by decide) rfl rfl (T.aggOk rfl) rfl ?_ | refine Ops.load 4 rfl (by decide) rfl rfl (T.aggOk rfl) rfl ?_ | refine Ops.load 5 rfl (by decide) rfl rfl (T.aggOk rfl) rfl ?_)
  cases hb3 : decide (p3 = q3) with
  | false =>
    repeat (first | refine Run.seq ?_ | refine Run.region ?_ | refine Ops.nil ?_ | refine Ops.not rfl (by decide) ?_ | refine Ops.notS rfl ?_ | refine Ops.notU rfl (by decide) ?_ | refine Ops.notUS rfl ?_ | refine Ops.eql rfl (by decide) rfl rfl ?_ | refine Ops.eqlStr rfl (by decide) rfl rfl ?_ | refine Ops.pure T rfl (by decide) rfl ?_ | refine Ops.load 0 rfl (by decide) rfl rfl (T.aggOk rfl) rfl ?_ | refine Ops.load 1 rfl (by decide) rfl rfl (T.aggOk rfl) rfl ?_ | refine Ops.load 2 rfl (by decide) rfl rfl (T.aggOk rfl) rfl ?_ | refine Ops.load 3 rfl (by decide) rfl rfl (T.aggOk rfl) rfl ?_ | refine Ops.load 4 rfl (by decide) rfl rfl (T.aggOk rfl) rfl ?_ | refine Ops.load 5 rfl (by decide) rfl rfl (T.aggOk rfl) rfl ?_)
    refine Run.fin (Run.ret1 (by rw [hCf]; exact Proofs.Try.func35) Proofs.Try.results35 rfl (hR _ _ _ ?_))
    exact ⟨rfl, by simp [same, hb3]⟩
  | true =>
  repeat (first | refine Run.seq ?_ | refine Run.region ?_ | refine Ops.nil ?_ | refine Ops.not rfl (by decide) ?_ | refine Ops.notS rfl ?_ | refine Ops.notU rfl (by decide) ?_ | refine Ops.notUS rfl ?_ | refine Ops.eql rfl (by decide) rfl rfl ?_ | refine Ops.eqlStr rfl (by decide) rfl rfl ?_ | refine Ops.pure T rfl (by decide) rfl ?_ | refine Ops.load 0 rfl (by decide) rfl rfl (T.aggOk rfl) rfl ?_ | refine Ops.load 1 rfl (by decide) rfl rfl (T.aggOk rfl) rfl ?_ | refine Ops.load 2 rfl (by decide) rfl rfl (T.aggOk rfl) rfl ?_ | refine Ops.load 3 rfl (by decide) rfl rfl (T.aggOk rfl) rfl ?_ | refine Ops.load 4 rfl (by decide) rfl rfl (T.aggOk rfl) rfl ?_ | refine Ops.load 5 rfl (by decide) rfl rfl (T.aggOk rfl) rfl ?_)
  cases hb4 : decide (p4 = q4) with
  | false =>
    repeat (first | refine Run.seq ?_ | refine Run.region ?_ | refine Ops.nil ?_ | refine Ops.not rfl (by decide) ?_ | refine Ops.notS rfl ?_ | refine Ops.notU rfl (by decide) ?_ | refine Ops.notUS rfl ?_ | refine Ops.eql rfl (by decide) rfl rfl ?_ | refine Ops.eqlStr rfl (by decide) rfl rfl ?_ | refine Ops.pure T rfl (by decide) rfl ?_ | refine Ops.load 0 rfl (by decide) rfl rfl (T.aggOk rfl) rfl ?_ | refine Ops.load 1 rfl (by decide) rfl rfl (T.aggOk rfl) rfl ?_ | refine Ops.load 2 rfl (by decide) rfl rfl (T.aggOk rfl) rfl ?_ | refine Ops.load 3 rfl (by decide) rfl rfl (T.aggOk rfl) rfl ?_ | refine Ops.load 4 rfl (by decide) rfl rfl (T.aggOk rfl) rfl ?_ | refine Ops.load 5 rfl (by decide) rfl rfl (T.aggOk rfl) rfl ?_)
    refine Run.fin (Run.ret1 (by rw [hCf]; exact Proofs.Try.func35) Proofs.Try.results35 rfl (hR _ _ _ ?_))
    exact ⟨rfl, by simp [same, hb4]⟩
  | true =>
  repeat (first | refine Run.seq ?_ | refine Run.region ?_ | refine Ops.nil ?_ | refine Ops.not rfl (by decide) ?_ | refine Ops.notS rfl ?_ | refine Ops.notU rfl (by decide) ?_ | refine Ops.notUS rfl ?_ | refine Ops.eql rfl (by decide) rfl rfl ?_ | refine Ops.eqlStr rfl (by decide) rfl rfl ?_ | refine Ops.pure T rfl (by decide) rfl ?_ | refine Ops.load 0 rfl (by decide) rfl rfl (T.aggOk rfl) rfl ?_ | refine Ops.load 1 rfl (by decide) rfl rfl (T.aggOk rfl) rfl ?_ | refine Ops.load 2 rfl (by decide) rfl rfl (T.aggOk rfl) rfl ?_ | refine Ops.load 3 rfl (by decide) rfl rfl (T.aggOk rfl) rfl ?_ | refine Ops.load 4 rfl (by decide) rfl rfl (T.aggOk rfl) rfl ?_ | refine Ops.load 5 rfl (by decide) rfl rfl (T.aggOk rfl) rfl ?_)
  rw [natdec]
  cases hb5 : decide (f.length = f'.length) with
  | false =>
    repeat (first | refine Run.seq ?_ | refine Run.region ?_ | refine Ops.nil ?_ | refine Ops.not rfl (by decide) ?_ | refine Ops.notS rfl ?_ | refine Ops.notU rfl (by decide) ?_ | refine Ops.notUS rfl ?_ | refine Ops.eql rfl (by decide) rfl rfl ?_ | refine Ops.eqlStr rfl (by decide) rfl rfl ?_ | refine Ops.pure T rfl (by decide) rfl ?_ | refine Ops.load 0 rfl (by decide) rfl rfl (T.aggOk rfl) rfl ?_ | refine Ops.load 1 rfl (by decide) rfl rfl (T.aggOk rfl) rfl ?_ | refine Ops.load 2 rfl (by decide) rfl rfl (T.aggOk rfl) rfl ?_ | refine Ops.load 3 rfl (by decide) rfl rfl (T.aggOk rfl) rfl ?_ | refine Ops.load 4 rfl (by decide) rfl rfl (T.aggOk rfl) rfl ?_ | refine Ops.load 5 rfl (by decide) rfl rfl (T.aggOk rfl) rfl ?_)
    refine Run.fin (Run.ret1 (by rw [hCf]; exact Proofs.Try.func35) Proofs.Try.results35 rfl (hR _ _ _ ?_))
    exact ⟨rfl, by simp [same, hb5]⟩
  | true =>
  repeat (first | refine Run.seq ?_ | refine Run.region ?_ | refine Ops.nil ?_ | refine Ops.not rfl (by decide) ?_ | refine Ops.notS rfl ?_ | refine Ops.notU rfl (by decide) ?_ | refine Ops.notUS rfl ?_ | refine Ops.eql rfl (by decide) rfl rfl ?_ | refine Ops.eqlStr rfl (by decide) rfl rfl ?_ | refine Ops.pure T rfl (by decide) rfl ?_ | refine Ops.load 0 rfl (by decide) rfl rfl (T.aggOk rfl) rfl ?_ | refine Ops.load 1 rfl (by decide) rfl rfl (T.aggOk rfl) rfl ?_ | refine Ops.load 2 rfl (by decide) rfl rfl (T.aggOk rfl) rfl ?_ | refine Ops.load 3 rfl (by decide) rfl rfl (T.aggOk rfl) rfl ?_ | refine Ops.load 4 rfl (by decide) rfl rfl (T.aggOk rfl) rfl ?_ | refine Ops.load 5 rfl (by decide) rfl rfl (T.aggOk rfl) rfl ?_)
  rw [natdec]
  cases hb6 : decide (g.length = g'.length) with
  | false =>
    repeat (first | refine Run.seq ?_ | refine Run.region ?_ | refine Ops.nil ?_ | refine Ops.not rfl (by decide) ?_ | refine Ops.notS rfl ?_ | refine Ops.notU rfl (by decide) ?_ | refine Ops.notUS rfl ?_ | refine Ops.eql rfl (by decide) rfl rfl ?_ | refine Ops.eqlStr rfl (by decide) rfl rfl ?_ | refine Ops.pure T rfl (by decide) rfl ?_ | refine Ops.load 0 rfl (by decide) rfl rfl (T.aggOk rfl) rfl ?_ | refine Ops.load 1 rfl (by decide) rfl rfl (T.aggOk rfl) rfl ?_ | refine Ops.load 2 rfl (by decide) rfl rfl (T.aggOk rfl) rfl ?_ | refine Ops.load 3 rfl (by decide) rfl rfl (T.aggOk rfl) rfl ?_ | refine Ops.load 4 rfl (by decide) rfl rfl (T.aggOk rfl) rfl ?_ | refine Ops.load 5 rfl (by decide) rfl rfl (T.aggOk rfl) rfl ?_)
    refine Run.fin (Run.ret1 (by rw [hCf]; exact Proofs.Try.func35) Proofs.Try.results35 rfl (hR _ _ _ ?_))
    exact ⟨rfl, by simp [same, hb6]⟩
  | true =>
  repeat (first | refine Run.seq ?_ | refine Run.region ?_ | refine Ops.nil ?_ | refine Ops.not rfl (by decide) ?_ | refine Ops.notS rfl ?_ | refine Ops.notU rfl (by decide) ?_ | refine Ops.notUS rfl ?_ | refine Ops.eql rfl (by decide) rfl rfl ?_ | refine Ops.eqlStr rfl (by decide) rfl rfl ?_ | refine Ops.pure T rfl (by decide) rfl ?_ | refine Ops.load 0 rfl (by decide) rfl rfl (T.aggOk rfl) rfl ?_ | refine Ops.load 1 rfl (by decide) rfl rfl (T.aggOk rfl) rfl ?_ | refine Ops.load 2 rfl (by decide) rfl rfl (T.aggOk rfl) rfl ?_ | refine Ops.load 3 rfl (by decide) rfl rfl (T.aggOk rfl) rfl ?_ | refine Ops.load 4 rfl (by decide) rfl rfl (T.aggOk rfl) rfl ?_ | refine Ops.load 5 rfl (by decide) rfl rfl (T.aggOk rfl) rfl ?_)
  refine Ops.call ((spec_holds I f f' _ _ hf hf' h1 h3)) rfl (by decide) Proofs.Try.call59 rfl ?_
  rintro _ J5 l5 rfl
  repeat (first | refine Run.seq ?_ | refine Run.region ?_ | refine Ops.nil ?_ | refine Ops.not rfl (by decide) ?_ | refine Ops.notS rfl ?_ | refine Ops.notU rfl (by decide) ?_ | refine Ops.notUS rfl ?_ | refine Ops.eql rfl (by decide) rfl rfl ?_ | refine Ops.eqlStr rfl (by decide) rfl rfl ?_ | refine Ops.pure T rfl (by decide) rfl ?_ | refine Ops.load 0 rfl (by decide) rfl rfl (T.aggOk rfl) rfl ?_ | refine Ops.load 1 rfl (by decide) rfl rfl (T.aggOk rfl) rfl ?_ | refine Ops.load 2 rfl (by decide) rfl rfl (T.aggOk rfl) rfl ?_ | refine Ops.load 3 rfl (by decide) rfl rfl (T.aggOk rfl) rfl ?_ | refine Ops.load 4 rfl (by decide) rfl rfl (T.aggOk rfl) rfl ?_ | refine Ops.load 5 rfl (by decide) rfl rfl (T.aggOk rfl) rfl ?_)
  cases hb7 : holdsL f f' with
  | false =>
    repeat (first | refine Run.seq ?_ | refine Run.region ?_ | refine Ops.nil ?_ | refine Ops.not rfl (by decide) ?_ | refine Ops.notS rfl ?_ | refine Ops.notU rfl (by decide) ?_ | refine Ops.notUS rfl ?_ | refine Ops.eql rfl (by decide) rfl rfl ?_ | refine Ops.eqlStr rfl (by decide) rfl rfl ?_ | refine Ops.pure T rfl (by decide) rfl ?_ | refine Ops.load 0 rfl (by decide) rfl rfl (T.aggOk rfl) rfl ?_ | refine Ops.load 1 rfl (by decide) rfl rfl (T.aggOk rfl) rfl ?_ | refine Ops.load 2 rfl (by decide) rfl rfl (T.aggOk rfl) rfl ?_ | refine Ops.load 3 rfl (by decide) rfl rfl (T.aggOk rfl) rfl ?_ | refine Ops.load 4 rfl (by decide) rfl rfl (T.aggOk rfl) rfl ?_ | refine Ops.load 5 rfl (by decide) rfl rfl (T.aggOk rfl) rfl ?_)
    refine Run.fin (Run.ret1 (by rw [hCf]; exact Proofs.Try.func35) Proofs.Try.results35 rfl (hR _ _ _ ?_))
    exact ⟨rfl, by simp [same, hb7]⟩
  | true =>
  repeat (first | refine Run.seq ?_ | refine Run.region ?_ | refine Ops.nil ?_ | refine Ops.not rfl (by decide) ?_ | refine Ops.notS rfl ?_ | refine Ops.notU rfl (by decide) ?_ | refine Ops.notUS rfl ?_ | refine Ops.eql rfl (by decide) rfl rfl ?_ | refine Ops.eqlStr rfl (by decide) rfl rfl ?_ | refine Ops.pure T rfl (by decide) rfl ?_ | refine Ops.load 0 rfl (by decide) rfl rfl (T.aggOk rfl) rfl ?_ | refine Ops.load 1 rfl (by decide) rfl rfl (T.aggOk rfl) rfl ?_ | refine Ops.load 2 rfl (by decide) rfl rfl (T.aggOk rfl) rfl ?_ | refine Ops.load 3 rfl (by decide) rfl rfl (T.aggOk rfl) rfl ?_ | refine Ops.load 4 rfl (by decide) rfl rfl (T.aggOk rfl) rfl ?_ | refine Ops.load 5 rfl (by decide) rfl rfl (T.aggOk rfl) rfl ?_)
  refine Ops.call ((spec_holds J5 g g' _ _ (hg.mono l5) (hg'.mono l5) h2 h4)) rfl (by decide) Proofs.Try.call59 rfl ?_
  rintro _ J6 l6 rfl
  repeat (first | refine Run.seq ?_ | refine Run.region ?_ | refine Ops.nil ?_ | refine Ops.not rfl (by decide) ?_ | refine Ops.notS rfl ?_ | refine Ops.notU rfl (by decide) ?_ | refine Ops.notUS rfl ?_ | refine Ops.eql rfl (by decide) rfl rfl ?_ | refine Ops.eqlStr rfl (by decide) rfl rfl ?_ | refine Ops.pure T rfl (by decide) rfl ?_ | refine Ops.load 0 rfl (by decide) rfl rfl (T.aggOk rfl) rfl ?_ | refine Ops.load 1 rfl (by decide) rfl rfl (T.aggOk rfl) rfl ?_ | refine Ops.load 2 rfl (by decide) rfl rfl (T.aggOk rfl) rfl ?_ | refine Ops.load 3 rfl (by decide) rfl rfl (T.aggOk rfl) rfl ?_ | refine Ops.load 4 rfl (by decide) rfl rfl (T.aggOk rfl) rfl ?_ | refine Ops.load 5 rfl (by decide) rfl rfl (T.aggOk rfl) rfl ?_)
  refine Run.fin (Run.ret1 (by rw [hCf]; exact Proofs.Try.func35) Proofs.Try.results35 rfl (hR _ _ _ ?_))
  exact ⟨rfl, by simp only [same, hb1, hb2, hb3, hb4, hb5, hb6, hb7]; simp⟩
end Go.V
