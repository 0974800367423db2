/-
  Platforms compared by the package: copies that the call owns, sorted, compared; by the document.
-/
import Derived.Test.YtmdpfceigmimhaaKSame2
import Derived.Test.YtmdpfceigmimhaaKSort
namespace Go.V
open Go.RowKit
set_option linter.unusedVariables false
set_option linter.unusedSimpArgs false
set_option maxRecDepth 10000
attribute [local irreducible] Run Ops

set_option maxHeartbeats 1000000 in
theorem Platform_Satisfies (I : Imm) (p q : Pf) (f g f' g' : Txts) (u v u' v' : Value) (hf : Sl tStr I u f) (hg : Sl tStr I v g) (hf' : Sl tStr I u' f') (hg' : Sl tStr I v' g') (h1 : f.length ≤ 2147483647) (h2 : g.length ≤ 2147483647) (h3 : f'.length ≤ 2147483647) (h4 : g'.length ≤ 2147483647) :
    Pure Proofs.Try.prog 61 [.agg (p.ds u v).toArray, .agg (q.ds u' v').toArray] I fun w J => w = .bool (sat p q f g f' g') := by
  obtain ⟨p1, p2, p3, p4⟩ := p
  obtain ⟨q1, q2, q3, q4⟩ := q
  obtain ⟨A1, c1, e⟩ := hf.isSl
  subst e
  obtain ⟨A2, c2, e⟩ := hg.isSl
  subst e
  obtain ⟨A3, c3, e⟩ := hf'.isSl
  subst e
  obtain ⟨A4, c4, e⟩ := hg'.isSl
  subst e
  refine Spec.enter 45 [(0, _), (1, _)] Proofs.Try.func61 rfl Proofs.Try.ntmps61 (by simp) rfl ?_
  intro C hCf hR hCI
  repeat (first | refine Run.seq ?_ | refine Run.region ?_ | refine Ops.nil ?_ | refine Ops.not rfl (by decide) ?_ | refine Ops.notS rfl ?_ | refine Ops.notU rfl (by decide) ?_ | refine Ops.notUS rfl ?_ | refine Ops.pure T rfl (by decide) rfl ?_ | refine Ops.load 0 rfl (by decide) rfl rfl (T.aggOk rfl) rfl ?_ | refine Ops.load 1 rfl (by decide) rfl rfl (T.aggOk rfl) rfl ?_ | refine Ops.load 2 rfl (by decide) rfl rfl (T.aggOk rfl) rfl ?_ | refine Ops.load 3 rfl (by decide) rfl rfl (T.aggOk rfl) rfl ?_ | refine Ops.load 4 rfl (by decide) rfl rfl (T.aggOk rfl) rfl ?_ | refine Ops.load 5 rfl (by decide) rfl rfl (T.aggOk rfl) rfl ?_)
  refine Ops.box rfl (by decide) rfl rfl (fun b1 => ?_)
  refine Ops.box rfl (by decide) rfl rfl (fun b2 => ?_)
  repeat (first | refine Run.seq ?_ | refine Run.region ?_ | refine Ops.nil ?_ | refine Ops.not rfl (by decide) ?_ | refine Ops.notS rfl ?_ | refine Ops.notU rfl (by decide) ?_ | refine Ops.notUS rfl ?_ | refine Ops.pure T rfl (by decide) rfl ?_ | refine Ops.load 0 rfl (by decide) rfl rfl (T.aggOk rfl) rfl ?_ | refine Ops.load 1 rfl (by decide) rfl rfl (T.aggOk rfl) rfl ?_ | refine Ops.load 2 rfl (by decide) rfl rfl (T.aggOk rfl) rfl ?_ | refine Ops.load 3 rfl (by decide) rfl rfl (T.aggOk rfl) rfl ?_ | refine Ops.load 4 rfl (by decide) rfl rfl (T.aggOk rfl) rfl ?_ | refine Ops.load 5 rfl (by decide) rfl rfl (T.aggOk rfl) rfl ?_)
  refine Ops.call ((v1_satisfies I q2 p2)) rfl (by decide) Proofs.Try.call79 rfl ?_
  rintro _ J1 l1 rfl
  repeat (first | refine Run.seq ?_ | refine Run.region ?_ | refine Ops.nil ?_ | refine Ops.not rfl (by decide) ?_ | refine Ops.notS rfl ?_ | refine Ops.notU rfl (by decide) ?_ | refine Ops.notUS rfl ?_ | refine Ops.pure T rfl (by decide) rfl ?_ | refine Ops.load 0 rfl (by decide) rfl rfl (T.aggOk rfl) rfl ?_ | refine Ops.load 1 rfl (by decide) rfl rfl (T.aggOk rfl) rfl ?_ | refine Ops.load 2 rfl (by decide) rfl rfl (T.aggOk rfl) rfl ?_ | refine Ops.load 3 rfl (by decide) rfl rfl (T.aggOk rfl) rfl ?_ | refine Ops.load 4 rfl (by decide) rfl rfl (T.aggOk rfl) rfl ?_ | refine Ops.load 5 rfl (by decide) rfl rfl (T.aggOk rfl) rfl ?_)
  cases hb1 : asks q2 p2 with
  | false =>
    repeat (first | refine Run.seq ?_ | refine Run.region ?_ | refine Ops.nil ?_ | refine Ops.not rfl (by decide) ?_ | refine Ops.notS rfl ?_ | refine Ops.notU rfl (by decide) ?_ | refine Ops.notUS rfl ?_ | refine Ops.pure T rfl (by decide) rfl ?_ | refine Ops.load 0 rfl (by decide) rfl rfl (T.aggOk rfl) rfl ?_ | refine Ops.load 1 rfl (by decide) rfl rfl (T.aggOk rfl) rfl ?_ | refine Ops.load 2 rfl (by decide) rfl rfl (T.aggOk rfl) rfl ?_ | refine Ops.load 3 rfl (by decide) rfl rfl (T.aggOk rfl) rfl ?_ | refine Ops.load 4 rfl (by decide) rfl rfl (T.aggOk rfl) rfl ?_ | refine Ops.load 5 rfl (by decide) rfl rfl (T.aggOk rfl) rfl ?_)
    refine Run.fin (Run.ret1 (by rw [hCf]; exact Proofs.Try.func61) Proofs.Try.results61 rfl (hR _ _ _ ?_))
    exact ⟨rfl, by simp [sat, hb1]⟩
  | true =>
  repeat (first | refine Run.seq ?_ | refine Run.region ?_ | refine Ops.nil ?_ | refine Ops.not rfl (by decide) ?_ | refine Ops.notS rfl ?_ | refine Ops.notU rfl (by decide) ?_ | refine Ops.notUS rfl ?_ | refine Ops.pure T rfl (by decide) rfl ?_ | refine Ops.load 0 rfl (by decide) rfl rfl (T.aggOk rfl) rfl ?_ | refine Ops.load 1 rfl (by decide) rfl rfl (T.aggOk rfl) rfl ?_ | refine Ops.load 2 rfl (by decide) rfl rfl (T.aggOk rfl) rfl ?_ | refine Ops.load 3 rfl (by decide) rfl rfl (T.aggOk rfl) rfl ?_ | refine Ops.load 4 rfl (by decide) rfl rfl (T.aggOk rfl) rfl ?_ | refine Ops.load 5 rfl (by decide) rfl rfl (T.aggOk rfl) rfl ?_)
  refine Ops.call ((v1_satisfies J1 q1 p1)) rfl (by decide) Proofs.Try.call79 rfl ?_
  rintro _ J2 l2 rfl
  repeat (first | refine Run.seq ?_ | refine Run.region ?_ | refine Ops.nil ?_ | refine Ops.not rfl (by decide) ?_ | refine Ops.notS rfl ?_ | refine Ops.notU rfl (by decide) ?_ | refine Ops.notUS rfl ?_ | refine Ops.pure T rfl (by decide) rfl ?_ | refine Ops.load 0 rfl (by decide) rfl rfl (T.aggOk rfl) rfl ?_ | refine Ops.load 1 rfl (by decide) rfl rfl (T.aggOk rfl) rfl ?_ | refine Ops.load 2 rfl (by decide) rfl rfl (T.aggOk rfl) rfl ?_ | refine Ops.load 3 rfl (by decide) rfl rfl (T.aggOk rfl) rfl ?_ | refine Ops.load 4 rfl (by decide) rfl rfl (T.aggOk rfl) rfl ?_ | refine Ops.load 5 rfl (by decide) rfl rfl (T.aggOk rfl) rfl ?_)
  cases hb2 : asks q1 p1 with
  | false =>
    repeat (first | refine Run.seq ?_ | refine Run.region ?_ | refine Ops.nil ?_ | refine Ops.not rfl (by decide) ?_ | refine Ops.notS rfl ?_ | refine Ops.notU rfl (by decide) ?_ | refine Ops.notUS rfl ?_ | refine Ops.pure T rfl (by decide) rfl ?_ | refine Ops.load 0 rfl (by decide) rfl rfl (T.aggOk rfl) rfl ?_ | refine Ops.load 1 rfl (by decide) rfl rfl (T.aggOk rfl) rfl ?_ | refine Ops.load 2 rfl (by decide) rfl rfl (T.aggOk rfl) rfl ?_ | refine Ops.load 3 rfl (by decide) rfl rfl (T.aggOk rfl) rfl ?_ | refine Ops.load 4 rfl (by decide) rfl rfl (T.aggOk rfl) rfl ?_ | refine Ops.load 5 rfl (by decide) rfl rfl (T.aggOk rfl) rfl ?_)
    refine Run.fin (Run.ret1 (by rw [hCf]; exact Proofs.Try.func61) Proofs.Try.results61 rfl (hR _ _ _ ?_))
    exact ⟨rfl, by simp [sat, hb2]⟩
  | true =>
  repeat (first | refine Run.seq ?_ | refine Run.region ?_ | refine Ops.nil ?_ | refine Ops.not rfl (by decide) ?_ | refine Ops.notS rfl ?_ | refine Ops.notU rfl (by decide) ?_ | refine Ops.notUS rfl ?_ | refine Ops.pure T rfl (by decide) rfl ?_ | refine Ops.load 0 rfl (by decide) rfl rfl (T.aggOk rfl) rfl ?_ | refine Ops.load 1 rfl (by decide) rfl rfl (T.aggOk rfl) rfl ?_ | refine Ops.load 2 rfl (by decide) rfl rfl (T.aggOk rfl) rfl ?_ | refine Ops.load 3 rfl (by decide) rfl rfl (T.aggOk rfl) rfl ?_ | refine Ops.load 4 rfl (by decide) rfl rfl (T.aggOk rfl) rfl ?_ | refine Ops.load 5 rfl (by decide) rfl rfl (T.aggOk rfl) rfl ?_)
  refine Ops.call ((v1_satisfies J2 q4 p4)) rfl (by decide) Proofs.Try.call79 rfl ?_
  rintro _ J3 l3 rfl
  repeat (first | refine Run.seq ?_ | refine Run.region ?_ | refine Ops.nil ?_ | refine Ops.not rfl (by decide) ?_ | refine Ops.notS rfl ?_ | refine Ops.notU rfl (by decide) ?_ | refine Ops.notUS rfl ?_ | refine Ops.pure T rfl (by decide) rfl ?_ | refine Ops.load 0 rfl (by decide) rfl rfl (T.aggOk rfl) rfl ?_ | refine Ops.load 1 rfl (by decide) rfl rfl (T.aggOk rfl) rfl ?_ | refine Ops.load 2 rfl (by decide) rfl rfl (T.aggOk rfl) rfl ?_ | refine Ops.load 3 rfl (by decide) rfl rfl (T.aggOk rfl) rfl ?_ | refine Ops.load 4 rfl (by decide) rfl rfl (T.aggOk rfl) rfl ?_ | refine Ops.load 5 rfl (by decide) rfl rfl (T.aggOk rfl) rfl ?_)
  cases hb3 : asks q4 p4 with
  | false =>
    repeat (first | refine Run.seq ?_ | refine Run.region ?_ | refine Ops.nil ?_ | refine Ops.not rfl (by decide) ?_ | refine Ops.notS rfl ?_ | refine Ops.notU rfl (by decide) ?_ | refine Ops.notUS rfl ?_ | refine Ops.pure T rfl (by decide) rfl ?_ | refine Ops.load 0 rfl (by decide) rfl rfl (T.aggOk rfl) rfl ?_ | refine Ops.load 1 rfl (by decide) rfl rfl (T.aggOk rfl) rfl ?_ | refine Ops.load 2 rfl (by decide) rfl rfl (T.aggOk rfl) rfl ?_ | refine Ops.load 3 rfl (by decide) rfl rfl (T.aggOk rfl) rfl ?_ | refine Ops.load 4 rfl (by decide) rfl rfl (T.aggOk rfl) rfl ?_ | refine Ops.load 5 rfl (by decide) rfl rfl (T.aggOk rfl) rfl ?_)
    refine Run.fin (Run.ret1 (by rw [hCf]; exact Proofs.Try.func61) Proofs.Try.results61 rfl (hR _ _ _ ?_))
    exact ⟨rfl, by simp [sat, hb3]⟩
  | true =>
  repeat (first | refine Run.seq ?_ | refine Run.region ?_ | refine Ops.nil ?_ | refine Ops.not rfl (by decide) ?_ | refine Ops.notS rfl ?_ | refine Ops.notU rfl (by decide) ?_ | refine Ops.notUS rfl ?_ | refine Ops.pure T rfl (by decide) rfl ?_ | refine Ops.load 0 rfl (by decide) rfl rfl (T.aggOk rfl) rfl ?_ | refine Ops.load 1 rfl (by decide) rfl rfl (T.aggOk rfl) rfl ?_ | refine Ops.load 2 rfl (by decide) rfl rfl (T.aggOk rfl) rfl ?_ | refine Ops.load 3 rfl (by decide) rfl rfl (T.aggOk rfl) rfl ?_ | refine Ops.load 4 rfl (by decide) rfl rfl (T.aggOk rfl) rfl ?_ | refine Ops.load 5 rfl (by decide) rfl rfl (T.aggOk rfl) rfl ?_)
  refine Ops.call ((v1_satisfies J3 q3 p3)) rfl (by decide) Proofs.Try.call79 rfl ?_
  rintro _ J4 l4 rfl
  repeat (first | refine Run.seq ?_ | refine Run.region ?_ | refine Ops.nil ?_ | refine Ops.not rfl (by decide) ?_ | refine Ops.notS rfl ?_ | refine Ops.notU rfl (by decide) ?_ | refine Ops.notUS rfl ?_ | refine Ops.pure T rfl (by decide) rfl ?_ | refine Ops.load 0 rfl (by decide) rfl rfl (T.aggOk rfl) rfl ?_ | refine Ops.load 1 rfl (by decide) rfl rfl (T.aggOk rfl) rfl ?_ | refine Ops.load 2 rfl (by decide) rfl rfl (T.aggOk rfl) rfl ?_ | refine Ops.load 3 rfl (by decide) rfl rfl (T.aggOk rfl) rfl ?_ | refine Ops.load 4 rfl (by decide) rfl rfl (T.aggOk rfl) rfl ?_ | refine Ops.load 5 rfl (by decide) rfl rfl (T.aggOk rfl) rfl ?_)
  cases hb4 : asks q3 p3 with
  | false =>
    repeat (first | refine Run.seq ?_ | refine Run.region ?_ | refine Ops.nil ?_ | refine Ops.not rfl (by decide) ?_ | refine Ops.notS rfl ?_ | refine Ops.notU rfl (by decide) ?_ | refine Ops.notUS rfl ?_ | refine Ops.pure T rfl (by decide) rfl ?_ | refine Ops.load 0 rfl (by decide) rfl rfl (T.aggOk rfl) rfl ?_ | refine Ops.load 1 rfl (by decide) rfl rfl (T.aggOk rfl) rfl ?_ | refine Ops.load 2 rfl (by decide) rfl rfl (T.aggOk rfl) rfl ?_ | refine Ops.load 3 rfl (by decide) rfl rfl (T.aggOk rfl) rfl ?_ | refine Ops.load 4 rfl (by decide) rfl rfl (T.aggOk rfl) rfl ?_ | refine Ops.load 5 rfl (by decide) rfl rfl (T.aggOk rfl) rfl ?_)
    refine Run.fin (Run.ret1 (by rw [hCf]; exact Proofs.Try.func61) Proofs.Try.results61 rfl (hR _ _ _ ?_))
    exact ⟨rfl, by simp [sat, hb4]⟩
  | true =>
  repeat (first | refine Run.seq ?_ | refine Run.region ?_ | refine Ops.nil ?_ | refine Ops.not rfl (by decide) ?_ | refine Ops.notS rfl ?_ | refine Ops.notU rfl (by decide) ?_ | refine Ops.notUS rfl ?_ | refine Ops.pure T rfl (by decide) rfl ?_ | refine Ops.load 0 rfl (by decide) rfl rfl (T.aggOk rfl) rfl ?_ | refine Ops.load 1 rfl (by decide) rfl rfl (T.aggOk rfl) rfl ?_ | refine Ops.load 2 rfl (by decide) rfl rfl (T.aggOk rfl) rfl ?_ | refine Ops.load 3 rfl (by decide) rfl rfl (T.aggOk rfl) rfl ?_ | refine Ops.load 4 rfl (by decide) rfl rfl (T.aggOk rfl) rfl ?_ | refine Ops.load 5 rfl (by decide) rfl rfl (T.aggOk rfl) rfl ?_)
  have l := ((l1.trans l2).trans l3).trans l4
  refine Ops.call ((v1_satisfiesList J4 f' f _ _ (hf'.mono l) (hf.mono l) h3 h1)) rfl (by decide) Proofs.Try.call80 rfl ?_
  rintro _ J5 l5 rfl
  repeat (first | refine Run.seq ?_ | refine Run.region ?_ | refine Ops.nil ?_ | refine Ops.not rfl (by decide) ?_ | refine Ops.notS rfl ?_ | refine Ops.notU rfl (by decide) ?_ | refine Ops.notUS rfl ?_ | refine Ops.pure T rfl (by decide) rfl ?_ | refine Ops.load 0 rfl (by decide) rfl rfl (T.aggOk rfl) rfl ?_ | refine Ops.load 1 rfl (by decide) rfl rfl (T.aggOk rfl) rfl ?_ | refine Ops.load 2 rfl (by decide) rfl rfl (T.aggOk rfl) rfl ?_ | refine Ops.load 3 rfl (by decide) rfl rfl (T.aggOk rfl) rfl ?_ | refine Ops.load 4 rfl (by decide) rfl rfl (T.aggOk rfl) rfl ?_ | refine Ops.load 5 rfl (by decide) rfl rfl (T.aggOk rfl) rfl ?_)
  cases hb5 : holdsL f f' with
  | false =>
    repeat (first | refine Run.seq ?_ | refine Run.region ?_ | refine Ops.nil ?_ | refine Ops.not rfl (by decide) ?_ | refine Ops.notS rfl ?_ | refine Ops.notU rfl (by decide) ?_ | refine Ops.notUS rfl ?_ | refine Ops.pure T rfl (by decide) rfl ?_ | refine Ops.load 0 rfl (by decide) rfl rfl (T.aggOk rfl) rfl ?_ | refine Ops.load 1 rfl (by decide) rfl rfl (T.aggOk rfl) rfl ?_ | refine Ops.load 2 rfl (by decide) rfl rfl (T.aggOk rfl) rfl ?_ | refine Ops.load 3 rfl (by decide) rfl rfl (T.aggOk rfl) rfl ?_ | refine Ops.load 4 rfl (by decide) rfl rfl (T.aggOk rfl) rfl ?_ | refine Ops.load 5 rfl (by decide) rfl rfl (T.aggOk rfl) rfl ?_)
    refine Run.fin (Run.ret1 (by rw [hCf]; exact Proofs.Try.func61) Proofs.Try.results61 rfl (hR _ _ _ ?_))
    exact ⟨rfl, by simp [sat, hb5]⟩
  | true =>
  repeat (first | refine Run.seq ?_ | refine Run.region ?_ | refine Ops.nil ?_ | refine Ops.not rfl (by decide) ?_ | refine Ops.notS rfl ?_ | refine Ops.notU rfl (by decide) ?_ | refine Ops.notUS rfl ?_ | refine Ops.pure T rfl (by decide) rfl ?_ | refine Ops.load 0 rfl (by decide) rfl rfl (T.aggOk rfl) rfl ?_ | refine Ops.load 1 rfl (by decide) rfl rfl (T.aggOk rfl) rfl ?_ | refine Ops.load 2 rfl (by decide) rfl rfl (T.aggOk rfl) rfl ?_ | refine Ops.load 3 rfl (by decide) rfl rfl (T.aggOk rfl) rfl ?_ | refine Ops.load 4 rfl (by decide) rfl rfl (T.aggOk rfl) rfl ?_ | refine Ops.load 5 rfl (by decide) rfl rfl (T.aggOk rfl) rfl ?_)
  refine Ops.call ((v1_satisfiesList J5 g' g _ _ (hg'.mono (l.trans l5)) (hg.mono (l.trans l5)) h4 h2)) rfl (by decide) Proofs.Try.call80 rfl ?_
  rintro _ J6 l6 rfl
  repeat (first | refine Run.seq ?_ | refine Run.region ?_ | refine Ops.nil ?_ | refine Ops.not rfl (by decide) ?_ | refine Ops.notS rfl ?_ | refine Ops.notU rfl (by decide) ?_ | refine Ops.notUS rfl ?_ | refine Ops.pure T rfl (by decide) rfl ?_ | refine Ops.load 0 rfl (by decide) rfl rfl (T.aggOk rfl) rfl ?_ | refine Ops.load 1 rfl (by decide) rfl rfl (T.aggOk rfl) rfl ?_ | refine Ops.load 2 rfl (by decide) rfl rfl (T.aggOk rfl) rfl ?_ | refine Ops.load 3 rfl (by decide) rfl rfl (T.aggOk rfl) rfl ?_ | refine Ops.load 4 rfl (by decide) rfl rfl (T.aggOk rfl) rfl ?_ | refine Ops.load 5 rfl (by decide) rfl rfl (T.aggOk rfl) rfl ?_)
  refine Run.fin (Run.ret1 (by rw [hCf]; exact Proofs.Try.func61) Proofs.Try.results61 rfl (hR _ _ _ ?_))
  exact ⟨rfl, by simp [sat, hb1, hb2, hb3, hb4, hb5]⟩

theorem impl_PlatformSatisfies (I : Imm) (p q : Pf) (f g f' g' : Txts) (u v u' v' : Value) (hf : Sl tStr I u f) (hg : Sl tStr I v g) (hf' : Sl tStr I u' f') (hg' : Sl tStr I v' g') (h1 : f.length ≤ 2147483647) (h2 : g.length ≤ 2147483647) (h3 : f'.length ≤ 2147483647) (h4 : g'.length ≤ 2147483647) :
    Pure Proofs.Try.prog 36 [.agg (p.cs u v).toArray, .agg (q.cs u' v').toArray] I fun w J => w = .bool (sat p q f g f' g') := by
  obtain ⟨A1, c1, e⟩ := hf.isSl
  subst e
  obtain ⟨A2, c2, e⟩ := hg.isSl
  subst e
  obtain ⟨A3, c3, e⟩ := hf'.isSl
  subst e
  obtain ⟨A4, c4, e⟩ := hg'.isSl
  subst e
  refine Spec.enter 10 [(0, _), (1, _)] Proofs.Try.func36 rfl Proofs.Try.ntmps36 (by simp) rfl ?_
  intro C hCf hR hCI
  repeat (first | refine Run.seq ?_ | refine Run.region ?_ | refine Ops.nil ?_ | refine Ops.pure T rfl (by decide) rfl ?_ | refine Ops.loadN 0 rfl (by decide) rfl rfl (T.aggOk rfl) (T.sizeOk rfl) rfl rfl ?_ | refine Ops.loadN 1 rfl (by decide) rfl rfl (T.aggOk rfl) (T.sizeOk rfl) rfl rfl ?_ | refine Ops.loadN 2 rfl (by decide) rfl rfl (T.aggOk rfl) (T.sizeOk rfl) rfl rfl ?_ | refine Ops.loadN 3 rfl (by decide) rfl rfl (T.aggOk rfl) (T.sizeOk rfl) rfl rfl ?_ | refine Ops.loadN 4 rfl (by decide) rfl rfl (T.aggOk rfl) (T.sizeOk rfl) rfl rfl ?_ | refine Ops.loadN 5 rfl (by decide) rfl rfl (T.aggOk rfl) (T.sizeOk rfl) rfl rfl ?_)
  refine Ops.box rfl (by decide) rfl rfl (fun b1 => ?_)
  refine Ops.box rfl (by decide) rfl rfl (fun b2 => ?_)
  repeat (first | refine Run.seq ?_ | refine Run.region ?_ | refine Ops.nil ?_ | refine Ops.pure T rfl (by decide) rfl ?_ | refine Ops.loadN 0 rfl (by decide) rfl rfl (T.aggOk rfl) (T.sizeOk rfl) rfl rfl ?_ | refine Ops.loadN 1 rfl (by decide) rfl rfl (T.aggOk rfl) (T.sizeOk rfl) rfl rfl ?_ | refine Ops.loadN 2 rfl (by decide) rfl rfl (T.aggOk rfl) (T.sizeOk rfl) rfl rfl ?_ | refine Ops.loadN 3 rfl (by decide) rfl rfl (T.aggOk rfl) (T.sizeOk rfl) rfl rfl ?_ | refine Ops.loadN 4 rfl (by decide) rfl rfl (T.aggOk rfl) (T.sizeOk rfl) rfl rfl ?_ | refine Ops.loadN 5 rfl (by decide) rfl rfl (T.aggOk rfl) (T.sizeOk rfl) rfl rfl ?_)
  refine Run.regionAny (Holds I [(b2, blk (q.cs (.slice A3 f'.length c3) (.slice A4 g'.length c4)) 38), (b1, blk (p.cs (.slice A1 f.length c1) (.slice A2 g.length c2)) 38)]) [false, false, false, false, false, false] (by kernel_rfl) rfl ?_
  refine RAny.takeD 0 [true, false, false, false, false, false] rfl (by kernel_rfl) (by kernel_rfl) (by kernel_rfl) rfl (by decide) (fun W h => h.holds (Le.refl _) (fun _ h => by first | exact h | (cases h; done) | (simp at h; subst h; simp))) (Yld.loadN 1 T rfl rfl rfl rfl rfl rfl rfl) ?_
  refine RAny.takeD 2 [true, false, true, false, false, false] rfl (by kernel_rfl) (by kernel_rfl) (by kernel_rfl) rfl (by decide) (fun W h => h.holds (Le.refl _) (fun _ h => by first | exact h | (cases h; done) | (simp at h; subst h; simp))) (Yld.loadN 0 T rfl rfl rfl rfl rfl rfl rfl) ?_
  refine RAny.oneD 1 [true, true, true, false, false, false] rfl (by kernel_rfl) rfl rfl (by decide) (Eff.call (Platform_to I p _ _ f g hf hg h1 h2) Proofs.Try.call51 rfl fun x1 J1 l1 hx1 => ⟨fun W h => h.holds l1 (fun _ h => h), ?_⟩)
  obtain ⟨u1, v1, rfl, hu1, hv1⟩ := hx1
  refine RAny.oneD 3 [true, true, true, true, false, false] rfl (by kernel_rfl) rfl rfl (by decide) (Eff.call (Platform_to J1 q _ _ f' g' (hf'.mono l1) (hg'.mono l1) h3 h4) Proofs.Try.call51 rfl fun x2 J2 l2 hx2 => ⟨fun W h => h.holds (l1.trans l2) (fun _ h => h), ?_⟩)
  obtain ⟨u2, v2, rfl, hu2, hv2⟩ := hx2
  refine RAny.oneD 4 [true, true, true, true, true, false] rfl (by kernel_rfl) rfl rfl (by decide) (Eff.call (Platform_Satisfies J2 p q f g f' g' u1 v1 u2 v2 (hu1.mono l2) (hv1.mono l2) hu2 hv2 h1 h2 h3 h4) Proofs.Try.call61 rfl fun x3 J3 l3 hx3 => ⟨fun W h => h.holds ((l1.trans l2).trans l3) (fun _ h => h), ?_⟩)
  subst hx3
  refine RAny.takeD 5 [true, true, true, true, true, true] rfl (by kernel_rfl) (by kernel_rfl) (by kernel_rfl) rfl (by decide) (fun W h => h.holds ((l1.trans l2).trans l3) (fun _ h => h)) (Yld.eval T rfl rfl) ?_
  refine RAny.done _ (by kernel_rfl) ?_
  repeat (first | refine Run.seq ?_ | refine Run.region ?_ | refine Ops.nil ?_ | refine Ops.pure T rfl (by decide) rfl ?_ | refine Ops.loadN 0 rfl (by decide) rfl rfl (T.aggOk rfl) (T.sizeOk rfl) rfl rfl ?_ | refine Ops.loadN 1 rfl (by decide) rfl rfl (T.aggOk rfl) (T.sizeOk rfl) rfl rfl ?_ | refine Ops.loadN 2 rfl (by decide) rfl rfl (T.aggOk rfl) (T.sizeOk rfl) rfl rfl ?_ | refine Ops.loadN 3 rfl (by decide) rfl rfl (T.aggOk rfl) (T.sizeOk rfl) rfl rfl ?_ | refine Ops.loadN 4 rfl (by decide) rfl rfl (T.aggOk rfl) (T.sizeOk rfl) rfl rfl ?_ | refine Ops.loadN 5 rfl (by decide) rfl rfl (T.aggOk rfl) (T.sizeOk rfl) rfl rfl ?_)
  refine Run.fin (Run.ret1 (by rw [hCf]; exact Proofs.Try.func36) Proofs.Try.results36 rfl (hR _ _ _ ?_))
  exact ⟨rfl, rfl⟩
end Go.V
