import Derived.Test.YtandfbmdopbikaaGreatDoorXM10
namespace Go.V
open Go.Proofs.Tryz
open Go.RowKit
set_option linter.unusedVariables false
set_option linter.unusedSimpArgs false
set_option maxRecDepth 10000
attribute [local irreducible] Run Ops
set_option maxHeartbeats 4000000 in
theorem impl_tagNamed (I : Imm) (ins : Bool) (r p t s : Tx) (hr : r.length ≤ 1099511627776) (hp : p.length ≤ 1099511627776) (ht : t.length ≤ 1099511627776) (hne : r ≠ []) : Pure prog 40 [.agg [.bool ins, str r, str p, str t, str s].toArray] I fun w J => w = .agg (nmd (ins || pHttp r) 3 r (fullP r p) t s).cs.toArray := by
  refine Spec.enter 33 [(0, _)] func40 rfl ntmps40 (by simp) rfl ?_
  intro C hCf hR hCI
  repeat (first | refine Run.seq ?_ | refine Run.region ?_)
  refine Ops.box rfl (by decide) rfl rfl (fun b => ?_)
  refine Ops.alloc rfl (by decide) (T.zeroOk rfl) rfl (fun b2 => ?_)
  repeat (first | refine Run.seq ?_ | refine Run.region ?_ | refine Ops.nil ?_ | refine Ops.loadN 1 rfl (by decide) rfl rfl (T.aggOk rfl) (T.sizeOk rfl) rfl rfl ?_)
  refine Ops.call ((Tag_Context I ins r p t s)) rfl (by decide) call82 rfl ?_
  rintro _ J1 k1 rfl
  refine Ops.alloc rfl (by decide) (T.zeroOk rfl) rfl (fun b3 => ?_)
  repeat (first | refine Run.seq ?_ | refine Ops.nil ?_ | refine Ops.store 0 rfl rfl rfl rfl rfl (T.sizeOk rfl) rfl (Nat.le_of_ble_eq_true rfl) rfl rfl ?_)
  refine Run.perm (List.Perm.swap _ _ _) ?_
  have l1 := Le.refl J1
  refine Run.regionAny (Holds J1 [(b3, blk [.bool ins, str r, str p] 57), (b, blk [.bool ins, str r, str p, str t, str s] 61)]) (bl 28 0) (by kernel_rfl) (by kernel_rfl) ?_
  refine RAny.tk 0 (bl 28 1) rfl (by kernel_rfl) (by decide) (fun W h => h.holds (Le.refl _) (by first | exact mp rfl | exact mq rfl)) (Yld.eval T rfl rfl) ?_
  refine RAny.tk 1 (bl 28 3) rfl (by kernel_rfl) (by decide) (fun W h => h.holds (Le.refl _) (by first | exact mp rfl | exact mq rfl)) (Yld.eval T rfl rfl) ?_
  first | refine RAny.tk 2 (bl 28 7) rfl (by kernel_rfl) (by decide) (fun W h => h.holds (Le.refl _) (by first | exact mp rfl | exact mq rfl)) (Yld.loadN 0 T rfl rfl rfl rfl rfl rfl rfl) ?_ | refine RAny.tk 2 (bl 28 7) rfl (by kernel_rfl) (by decide) (fun W h => h.holds (Le.refl _) (by first | exact mp rfl | exact mq rfl)) (Yld.loadN 1 T rfl rfl rfl rfl rfl rfl rfl) ?_ | refine RAny.tk 2 (bl 28 7) rfl (by kernel_rfl) (by decide) (fun W h => h.holds (Le.refl _) (by first | exact mp rfl | exact mq rfl)) (Yld.loadN 2 T rfl rfl rfl rfl rfl rfl rfl) ?_
  refine RAny.tk 4 (bl 28 23) rfl (by kernel_rfl) (by decide) (fun W h => h.holds (Le.refl _) (by first | exact mp rfl | exact mq rfl)) (Yld.eval T rfl rfl) ?_
  first | refine RAny.tk 5 (bl 28 55) rfl (by kernel_rfl) (by decide) (fun W h => h.holds (Le.refl _) (by first | exact mp rfl | exact mq rfl)) (Yld.loadN 0 T rfl rfl rfl rfl rfl rfl rfl) ?_ | refine RAny.tk 5 (bl 28 55) rfl (by kernel_rfl) (by decide) (fun W h => h.holds (Le.refl _) (by first | exact mp rfl | exact mq rfl)) (Yld.loadN 1 T rfl rfl rfl rfl rfl rfl rfl) ?_ | refine RAny.tk 5 (bl 28 55) rfl (by kernel_rfl) (by decide) (fun W h => h.holds (Le.refl _) (by first | exact mp rfl | exact mq rfl)) (Yld.loadN 2 T rfl rfl rfl rfl rfl rfl rfl) ?_
  first | refine RAny.tk 7 (bl 28 183) rfl (by kernel_rfl) (by decide) (fun W h => h.holds (Le.refl _) (by first | exact mp rfl | exact mq rfl)) (Yld.loadN 0 T rfl rfl rfl rfl rfl rfl rfl) ?_ | refine RAny.tk 7 (bl 28 183) rfl (by kernel_rfl) (by decide) (fun W h => h.holds (Le.refl _) (by first | exact mp rfl | exact mq rfl)) (Yld.loadN 1 T rfl rfl rfl rfl rfl rfl rfl) ?_ | refine RAny.tk 7 (bl 28 183) rfl (by kernel_rfl) (by decide) (fun W h => h.holds (Le.refl _) (by first | exact mp rfl | exact mq rfl)) (Yld.loadN 2 T rfl rfl rfl rfl rfl rfl rfl) ?_
  first | refine RAny.tk 9 (bl 28 695) rfl (by kernel_rfl) (by decide) (fun W h => h.holds (Le.refl _) (by first | exact mp rfl | exact mq rfl)) (Yld.loadN 0 T rfl rfl rfl rfl rfl rfl rfl) ?_ | refine RAny.tk 9 (bl 28 695) rfl (by kernel_rfl) (by decide) (fun W h => h.holds (Le.refl _) (by first | exact mp rfl | exact mq rfl)) (Yld.loadN 1 T rfl rfl rfl rfl rfl rfl rfl) ?_ | refine RAny.tk 9 (bl 28 695) rfl (by kernel_rfl) (by decide) (fun W h => h.holds (Le.refl _) (by first | exact mp rfl | exact mq rfl)) (Yld.loadN 2 T rfl rfl rfl rfl rfl rfl rfl) ?_
  first | refine RAny.tk 11 (bl 28 2743) rfl (by kernel_rfl) (by decide) (fun W h => h.holds (Le.refl _) (by first | exact mp rfl | exact mq rfl)) (Yld.loadN 0 T rfl rfl rfl rfl rfl rfl rfl) ?_ | refine RAny.tk 11 (bl 28 2743) rfl (by kernel_rfl) (by decide) (fun W h => h.holds (Le.refl _) (by first | exact mp rfl | exact mq rfl)) (Yld.loadN 1 T rfl rfl rfl rfl rfl rfl rfl) ?_ | refine RAny.tk 11 (bl 28 2743) rfl (by kernel_rfl) (by decide) (fun W h => h.holds (Le.refl _) (by first | exact mp rfl | exact mq rfl)) (Yld.loadN 2 T rfl rfl rfl rfl rfl rfl rfl) ?_
  refine RAny.tk 13 (bl 28 10935) rfl (by kernel_rfl) (by decide) (fun W h => h.holds (Le.refl _) (by first | exact mp rfl | exact mq rfl)) (Yld.eval T rfl rfl) ?_
  refine RAny.tk 14 (bl 28 27319) rfl (by kernel_rfl) (by decide) (fun W h => h.holds (Le.refl _) (by first | exact mp rfl | exact mq rfl)) (Yld.eval T rfl rfl) ?_
  first | refine RAny.tk 15 (bl 28 60087) rfl (by kernel_rfl) (by decide) (fun W h => h.holds (Le.refl _) (by first | exact mp rfl | exact mq rfl)) (Yld.loadN 0 T rfl rfl rfl rfl rfl rfl rfl) ?_ | refine RAny.tk 15 (bl 28 60087) rfl (by kernel_rfl) (by decide) (fun W h => h.holds (Le.refl _) (by first | exact mp rfl | exact mq rfl)) (Yld.loadN 1 T rfl rfl rfl rfl rfl rfl rfl) ?_ | refine RAny.tk 15 (bl 28 60087) rfl (by kernel_rfl) (by decide) (fun W h => h.holds (Le.refl _) (by first | exact mp rfl | exact mq rfl)) (Yld.loadN 2 T rfl rfl rfl rfl rfl rfl rfl) ?_
  first | refine RAny.tk 17 (bl 28 191159) rfl (by kernel_rfl) (by decide) (fun W h => h.holds (Le.refl _) (by first | exact mp rfl | exact mq rfl)) (Yld.loadN 0 T rfl rfl rfl rfl rfl rfl rfl) ?_ | refine RAny.tk 17 (bl 28 191159) rfl (by kernel_rfl) (by decide) (fun W h => h.holds (Le.refl _) (by first | exact mp rfl | exact mq rfl)) (Yld.loadN 1 T rfl rfl rfl rfl rfl rfl rfl) ?_ | refine RAny.tk 17 (bl 28 191159) rfl (by kernel_rfl) (by decide) (fun W h => h.holds (Le.refl _) (by first | exact mp rfl | exact mq rfl)) (Yld.loadN 2 T rfl rfl rfl rfl rfl rfl rfl) ?_
  first | refine RAny.tk 19 (bl 28 715447) rfl (by kernel_rfl) (by decide) (fun W h => h.holds (Le.refl _) (by first | exact mp rfl | exact mq rfl)) (Yld.loadN 0 T rfl rfl rfl rfl rfl rfl rfl) ?_ | refine RAny.tk 19 (bl 28 715447) rfl (by kernel_rfl) (by decide) (fun W h => h.holds (Le.refl _) (by first | exact mp rfl | exact mq rfl)) (Yld.loadN 1 T rfl rfl rfl rfl rfl rfl rfl) ?_ | refine RAny.tk 19 (bl 28 715447) rfl (by kernel_rfl) (by decide) (fun W h => h.holds (Le.refl _) (by first | exact mp rfl | exact mq rfl)) (Yld.loadN 2 T rfl rfl rfl rfl rfl rfl rfl) ?_
  first | refine RAny.tk 21 (bl 28 2812599) rfl (by kernel_rfl) (by decide) (fun W h => h.holds (Le.refl _) (by first | exact mp rfl | exact mq rfl)) (Yld.loadN 0 T rfl rfl rfl rfl rfl rfl rfl) ?_ | refine RAny.tk 21 (bl 28 2812599) rfl (by kernel_rfl) (by decide) (fun W h => h.holds (Le.refl _) (by first | exact mp rfl | exact mq rfl)) (Yld.loadN 1 T rfl rfl rfl rfl rfl rfl rfl) ?_ | refine RAny.tk 21 (bl 28 2812599) rfl (by kernel_rfl) (by decide) (fun W h => h.holds (Le.refl _) (by first | exact mp rfl | exact mq rfl)) (Yld.loadN 2 T rfl rfl rfl rfl rfl rfl rfl) ?_
  refine RAny.tk 23 (bl 28 11201207) rfl (by kernel_rfl) (by decide) (fun W h => h.holds (Le.refl _) (by first | exact mp rfl | exact mq rfl)) (Yld.eval T rfl rfl) ?_
  first | refine RAny.tk 24 (bl 28 27978423) rfl (by kernel_rfl) (by decide) (fun W h => h.holds (Le.refl _) (by first | exact mp rfl | exact mq rfl)) (Yld.loadN 0 T rfl rfl rfl rfl rfl rfl rfl) ?_ | refine RAny.tk 24 (bl 28 27978423) rfl (by kernel_rfl) (by decide) (fun W h => h.holds (Le.refl _) (by first | exact mp rfl | exact mq rfl)) (Yld.loadN 1 T rfl rfl rfl rfl rfl rfl rfl) ?_ | refine RAny.tk 24 (bl 28 27978423) rfl (by kernel_rfl) (by decide) (fun W h => h.holds (Le.refl _) (by first | exact mp rfl | exact mq rfl)) (Yld.loadN 2 T rfl rfl rfl rfl rfl rfl rfl) ?_
  refine RAny.on 3 (bl 28 27978431) rfl (by kernel_rfl) rfl (by decide) (Eff.call (Registry_RegistryStr J1 ins r) call76 rfl fun x K2 k2 hx => ⟨fun W h => h.holds (l1.trans k2) (by first | exact mp rfl | exact mq rfl), ?_⟩)
  subst hx
  have l2 := l1.trans k2
  refine RAny.on 6 (bl 28 27978495) rfl (by kernel_rfl) rfl (by decide) (Eff.call (Repository_RepositoryStr K2 ins r p hp) call80 rfl fun x K3 k3 hx => ⟨fun W h => h.holds (l2.trans k3) (by first | exact mp rfl | exact mq rfl), ?_⟩)
  subst hx
  have l3 := l2.trans k3
  refine RAny.on 8 (bl 28 27978751) rfl (by kernel_rfl) rfl (by decide) (Eff.call (Tag_TagStr K3 ins r p t s) call83 rfl fun x K4 k4 hx => ⟨fun W h => h.holds (l3.trans k4) (by first | exact mp rfl | exact mq rfl), ?_⟩)
  subst hx
  have l4 := l3.trans k4
  refine RAny.on 10 (bl 28 27979775) rfl (by kernel_rfl) rfl (by decide) (Eff.call (Tag_Name K4 ins r p t s hr hp ht hne) call84 rfl fun x K5 k5 hx => ⟨fun W h => h.holds (l4.trans k5) (by first | exact mp rfl | exact mq rfl), ?_⟩)
  subst hx
  have l5 := l4.trans k5
  refine RAny.on 12 (bl 28 27983871) rfl (by kernel_rfl) rfl (by decide) (Eff.call (Tag_String K5 ins r p t s) call71 rfl fun x K6 k6 hx => ⟨fun W h => h.holds (l5.trans k6) (by first | exact mp rfl | exact mq rfl), ?_⟩)
  subst hx
  have l6 := l5.trans k6
  refine RAny.on 16 (bl 28 28049407) rfl (by kernel_rfl) rfl (by decide) (Eff.call (Registry_Scheme K6 ins r hr) call78 rfl fun x K7 k7 hx => ⟨fun W h => h.holds (l6.trans k7) (by first | exact mp rfl | exact mq rfl), ?_⟩)
  subst hx
  have l7 := l6.trans k7
  refine RAny.on 18 (bl 28 28311551) rfl (by kernel_rfl) rfl (by decide) (Eff.call (Tag_Scope K7 ins r p t s hp) call85 rfl fun x K8 k8 hx => ⟨fun W h => h.holds (l7.trans k8) (by first | exact mp rfl | exact mq rfl), ?_⟩)
  subst hx
  have l8 := l7.trans k8
  refine RAny.on 20 (bl 28 29360127) rfl (by kernel_rfl) rfl (by decide) (Eff.call (Repository_Name K8 ins r p hr hp hne) call73 rfl fun x K9 k9 hx => ⟨fun W h => h.holds (l8.trans k9) (by first | exact mp rfl | exact mq rfl), ?_⟩)
  subst hx
  have l9 := l8.trans k9
  refine RAny.on 22 (bl 28 33554431) rfl (by kernel_rfl) rfl (by decide) (Eff.call (Repository_String K9 ins r p hr hp hne) call66 rfl fun x K10 k10 hx => ⟨fun W h => h.holds (l9.trans k10) (by first | exact mp rfl | exact mq rfl), ?_⟩)
  subst hx
  have l10 := l9.trans k10
  refine RAny.on 25 (bl 28 67108863) rfl (by kernel_rfl) rfl (by decide) (Eff.call (Registry_Name K10 ins r) call77 rfl fun x K11 k11 hx => ⟨fun W h => h.holds (l10.trans k11) (by first | exact mp rfl | exact mq rfl), ?_⟩)
  subst hx
  have l11 := l10.trans k11
  skip
  refine RAny.tk 26 (bl 28 134217727) rfl (by kernel_rfl) (by decide) (fun W h => h.holds l11 (by first | exact mp rfl | exact mq rfl)) (Yld.buildL (vs := [(0, .int .i64 3), (1, str r), (2, str (fullP r p)), (3, str t), (4, str (repoT r (fullP r p) ++ [58] ++ t)), (5, str s), (6, str (schemeT (ins || pHttp r))), (7, str (scopeT (fullP r p))), (8, str (repoT r (fullP r p))), (9, str (repoT r (fullP r p))), (10, str r)]) (cs := (Nm.mk 3 r (fullP r p) t (repoT r (fullP r p) ++ [58] ++ t) s (schemeT (ins || pHttp r)) (scopeT (fullP r p)) (repoT r (fullP r p)) (repoT r (fullP r p)) r).cs) bd26 rfl (by kernel_rfl) (by kernel_rfl)) ?_
  refine RAny.os 27 (bl 28 268435455) rfl (by kernel_rfl) rfl (Eff.store 0 rfl rfl rfl rfl (T.sizeOk rfl) rfl (Nat.le_of_ble_eq_true rfl) rfl rfl ⟨fun W h => h.holds l11 (by first | exact mp rfl | exact mq rfl), ?_⟩)
  refine RAny.done _ (by kernel_rfl) ?_
  skip
  refine Run.retC T 0 (by rw [hCf]; exact func40) results40 rfl rfl rfl rfl rfl rfl (hR _ _ _ ?_)
  exact ⟨rfl, rfl⟩
set_option maxHeartbeats 4000000 in
theorem impl_digestNamed (I : Imm) (ins : Bool) (r p t s : Tx) (hr : r.length ≤ 1099511627776) (hp : p.length ≤ 1099511627776) (ht : t.length ≤ 1099511627776) (hne : r ≠ []) : Pure prog 43 [.agg [.bool ins, str r, str p, str t, str s].toArray] I fun w J => w = .agg (nmd (ins || pHttp r) 4 r (fullP r p) t s).cs.toArray := by
  refine Spec.enter 34 [(0, _)] func43 rfl ntmps43 (by simp) rfl ?_
  intro C hCf hR hCI
  repeat (first | refine Run.seq ?_ | refine Run.region ?_)
  refine Ops.box rfl (by decide) rfl rfl (fun b => ?_)
  refine Ops.alloc rfl (by decide) (T.zeroOk rfl) rfl (fun b2 => ?_)
  repeat (first | refine Run.seq ?_ | refine Run.region ?_ | refine Ops.nil ?_ | refine Ops.loadN 1 rfl (by decide) rfl rfl (T.aggOk rfl) (T.sizeOk rfl) rfl rfl ?_)
  refine Ops.call ((Digest_Context I ins r p t s)) rfl (by decide) call86 rfl ?_
  rintro _ J1 k1 rfl
  refine Ops.alloc rfl (by decide) (T.zeroOk rfl) rfl (fun b3 => ?_)
  repeat (first | refine Run.seq ?_ | refine Ops.nil ?_ | refine Ops.store 0 rfl rfl rfl rfl rfl (T.sizeOk rfl) rfl (Nat.le_of_ble_eq_true rfl) rfl rfl ?_)
  refine Run.perm (List.Perm.swap _ _ _) ?_
  have l1 := Le.refl J1
  refine Run.regionAny (Holds J1 [(b3, blk [.bool ins, str r, str p] 57), (b, blk [.bool ins, str r, str p, str t, str s] 65)]) (bl 29 0) (by kernel_rfl) (by kernel_rfl) ?_
  refine RAny.tk 0 (bl 29 1) rfl (by kernel_rfl) (by decide) (fun W h => h.holds (Le.refl _) (by first | exact mp rfl | exact mq rfl)) (Yld.eval T rfl rfl) ?_
  refine RAny.tk 1 (bl 29 3) rfl (by kernel_rfl) (by decide) (fun W h => h.holds (Le.refl _) (by first | exact mp rfl | exact mq rfl)) (Yld.eval T rfl rfl) ?_
  first | refine RAny.tk 2 (bl 29 7) rfl (by kernel_rfl) (by decide) (fun W h => h.holds (Le.refl _) (by first | exact mp rfl | exact mq rfl)) (Yld.loadN 0 T rfl rfl rfl rfl rfl rfl rfl) ?_ | refine RAny.tk 2 (bl 29 7) rfl (by kernel_rfl) (by decide) (fun W h => h.holds (Le.refl _) (by first | exact mp rfl | exact mq rfl)) (Yld.loadN 1 T rfl rfl rfl rfl rfl rfl rfl) ?_ | refine RAny.tk 2 (bl 29 7) rfl (by kernel_rfl) (by decide) (fun W h => h.holds (Le.refl _) (by first | exact mp rfl | exact mq rfl)) (Yld.loadN 2 T rfl rfl rfl rfl rfl rfl rfl) ?_
  refine RAny.tk 4 (bl 29 23) rfl (by kernel_rfl) (by decide) (fun W h => h.holds (Le.refl _) (by first | exact mp rfl | exact mq rfl)) (Yld.eval T rfl rfl) ?_
  first | refine RAny.tk 5 (bl 29 55) rfl (by kernel_rfl) (by decide) (fun W h => h.holds (Le.refl _) (by first | exact mp rfl | exact mq rfl)) (Yld.loadN 0 T rfl rfl rfl rfl rfl rfl rfl) ?_ | refine RAny.tk 5 (bl 29 55) rfl (by kernel_rfl) (by decide) (fun W h => h.holds (Le.refl _) (by first | exact mp rfl | exact mq rfl)) (Yld.loadN 1 T rfl rfl rfl rfl rfl rfl rfl) ?_ | refine RAny.tk 5 (bl 29 55) rfl (by kernel_rfl) (by decide) (fun W h => h.holds (Le.refl _) (by first | exact mp rfl | exact mq rfl)) (Yld.loadN 2 T rfl rfl rfl rfl rfl rfl rfl) ?_
  first | refine RAny.tk 7 (bl 29 183) rfl (by kernel_rfl) (by decide) (fun W h => h.holds (Le.refl _) (by first | exact mp rfl | exact mq rfl)) (Yld.loadN 0 T rfl rfl rfl rfl rfl rfl rfl) ?_ | refine RAny.tk 7 (bl 29 183) rfl (by kernel_rfl) (by decide) (fun W h => h.holds (Le.refl _) (by first | exact mp rfl | exact mq rfl)) (Yld.loadN 1 T rfl rfl rfl rfl rfl rfl rfl) ?_ | refine RAny.tk 7 (bl 29 183) rfl (by kernel_rfl) (by decide) (fun W h => h.holds (Le.refl _) (by first | exact mp rfl | exact mq rfl)) (Yld.loadN 2 T rfl rfl rfl rfl rfl rfl rfl) ?_
  first | refine RAny.tk 9 (bl 29 695) rfl (by kernel_rfl) (by decide) (fun W h => h.holds (Le.refl _) (by first | exact mp rfl | exact mq rfl)) (Yld.loadN 0 T rfl rfl rfl rfl rfl rfl rfl) ?_ | refine RAny.tk 9 (bl 29 695) rfl (by kernel_rfl) (by decide) (fun W h => h.holds (Le.refl _) (by first | exact mp rfl | exact mq rfl)) (Yld.loadN 1 T rfl rfl rfl rfl rfl rfl rfl) ?_ | refine RAny.tk 9 (bl 29 695) rfl (by kernel_rfl) (by decide) (fun W h => h.holds (Le.refl _) (by first | exact mp rfl | exact mq rfl)) (Yld.loadN 2 T rfl rfl rfl rfl rfl rfl rfl) ?_
  first | refine RAny.tk 11 (bl 29 2743) rfl (by kernel_rfl) (by decide) (fun W h => h.holds (Le.refl _) (by first | exact mp rfl | exact mq rfl)) (Yld.loadN 0 T rfl rfl rfl rfl rfl rfl rfl) ?_ | refine RAny.tk 11 (bl 29 2743) rfl (by kernel_rfl) (by decide) (fun W h => h.holds (Le.refl _) (by first | exact mp rfl | exact mq rfl)) (Yld.loadN 1 T rfl rfl rfl rfl rfl rfl rfl) ?_ | refine RAny.tk 11 (bl 29 2743) rfl (by kernel_rfl) (by decide) (fun W h => h.holds (Le.refl _) (by first | exact mp rfl | exact mq rfl)) (Yld.loadN 2 T rfl rfl rfl rfl rfl rfl rfl) ?_
  refine RAny.tk 13 (bl 29 10935) rfl (by kernel_rfl) (by decide) (fun W h => h.holds (Le.refl _) (by first | exact mp rfl | exact mq rfl)) (Yld.eval T rfl rfl) ?_
  refine RAny.tk 14 (bl 29 27319) rfl (by kernel_rfl) (by decide) (fun W h => h.holds (Le.refl _) (by first | exact mp rfl | exact mq rfl)) (Yld.eval T rfl rfl) ?_
  first | refine RAny.tk 15 (bl 29 60087) rfl (by kernel_rfl) (by decide) (fun W h => h.holds (Le.refl _) (by first | exact mp rfl | exact mq rfl)) (Yld.loadN 0 T rfl rfl rfl rfl rfl rfl rfl) ?_ | refine RAny.tk 15 (bl 29 60087) rfl (by kernel_rfl) (by decide) (fun W h => h.holds (Le.refl _) (by first | exact mp rfl | exact mq rfl)) (Yld.loadN 1 T rfl rfl rfl rfl rfl rfl rfl) ?_ | refine RAny.tk 15 (bl 29 60087) rfl (by kernel_rfl) (by decide) (fun W h => h.holds (Le.refl _) (by first | exact mp rfl | exact mq rfl)) (Yld.loadN 2 T rfl rfl rfl rfl rfl rfl rfl) ?_
  refine RAny.tk 17 (bl 29 191159) rfl (by kernel_rfl) (by decide) (fun W h => h.holds (Le.refl _) (by first | exact mp rfl | exact mq rfl)) (Yld.eval T rfl rfl) ?_
  first | refine RAny.tk 18 (bl 29 453303) rfl (by kernel_rfl) (by decide) (fun W h => h.holds (Le.refl _) (by first | exact mp rfl | exact mq rfl)) (Yld.loadN 0 T rfl rfl rfl rfl rfl rfl rfl) ?_ | refine RAny.tk 18 (bl 29 453303) rfl (by kernel_rfl) (by decide) (fun W h => h.holds (Le.refl _) (by first | exact mp rfl | exact mq rfl)) (Yld.loadN 1 T rfl rfl rfl rfl rfl rfl rfl) ?_ | refine RAny.tk 18 (bl 29 453303) rfl (by kernel_rfl) (by decide) (fun W h => h.holds (Le.refl _) (by first | exact mp rfl | exact mq rfl)) (Yld.loadN 2 T rfl rfl rfl rfl rfl rfl rfl) ?_
  first | refine RAny.tk 20 (bl 29 1501879) rfl (by kernel_rfl) (by decide) (fun W h => h.holds (Le.refl _) (by first | exact mp rfl | exact mq rfl)) (Yld.loadN 0 T rfl rfl rfl rfl rfl rfl rfl) ?_ | refine RAny.tk 20 (bl 29 1501879) rfl (by kernel_rfl) (by decide) (fun W h => h.holds (Le.refl _) (by first | exact mp rfl | exact mq rfl)) (Yld.loadN 1 T rfl rfl rfl rfl rfl rfl rfl) ?_ | refine RAny.tk 20 (bl 29 1501879) rfl (by kernel_rfl) (by decide) (fun W h => h.holds (Le.refl _) (by first | exact mp rfl | exact mq rfl)) (Yld.loadN 2 T rfl rfl rfl rfl rfl rfl rfl) ?_
  first | refine RAny.tk 22 (bl 29 5696183) rfl (by kernel_rfl) (by decide) (fun W h => h.holds (Le.refl _) (by first | exact mp rfl | exact mq rfl)) (Yld.loadN 0 T rfl rfl rfl rfl rfl rfl rfl) ?_ | refine RAny.tk 22 (bl 29 5696183) rfl (by kernel_rfl) (by decide) (fun W h => h.holds (Le.refl _) (by first | exact mp rfl | exact mq rfl)) (Yld.loadN 1 T rfl rfl rfl rfl rfl rfl rfl) ?_ | refine RAny.tk 22 (bl 29 5696183) rfl (by kernel_rfl) (by decide) (fun W h => h.holds (Le.refl _) (by first | exact mp rfl | exact mq rfl)) (Yld.loadN 2 T rfl rfl rfl rfl rfl rfl rfl) ?_
  refine RAny.tk 24 (bl 29 22473399) rfl (by kernel_rfl) (by decide) (fun W h => h.holds (Le.refl _) (by first | exact mp rfl | exact mq rfl)) (Yld.eval T rfl rfl) ?_
  first | refine RAny.tk 25 (bl 29 56027831) rfl (by kernel_rfl) (by decide) (fun W h => h.holds (Le.refl _) (by first | exact mp rfl | exact mq rfl)) (Yld.loadN 0 T rfl rfl rfl rfl rfl rfl rfl) ?_ | refine RAny.tk 25 (bl 29 56027831) rfl (by kernel_rfl) (by decide) (fun W h => h.holds (Le.refl _) (by first | exact mp rfl | exact mq rfl)) (Yld.loadN 1 T rfl rfl rfl rfl rfl rfl rfl) ?_ | refine RAny.tk 25 (bl 29 56027831) rfl (by kernel_rfl) (by decide) (fun W h => h.holds (Le.refl _) (by first | exact mp rfl | exact mq rfl)) (Yld.loadN 2 T rfl rfl rfl rfl rfl rfl rfl) ?_
  refine RAny.on 3 (bl 29 56027839) rfl (by kernel_rfl) rfl (by decide) (Eff.call (Registry_RegistryStr J1 ins r) call76 rfl fun x K2 k2 hx => ⟨fun W h => h.holds (l1.trans k2) (by first | exact mp rfl | exact mq rfl), ?_⟩)
  subst hx
  have l2 := l1.trans k2
  refine RAny.on 6 (bl 29 56027903) rfl (by kernel_rfl) rfl (by decide) (Eff.call (Repository_RepositoryStr K2 ins r p hp) call80 rfl fun x K3 k3 hx => ⟨fun W h => h.holds (l2.trans k3) (by first | exact mp rfl | exact mq rfl), ?_⟩)
  subst hx
  have l3 := l2.trans k3
  refine RAny.on 8 (bl 29 56028159) rfl (by kernel_rfl) rfl (by decide) (Eff.call (Digest_DigestStr K3 ins r p t s) call87 rfl fun x K4 k4 hx => ⟨fun W h => h.holds (l3.trans k4) (by first | exact mp rfl | exact mq rfl), ?_⟩)
  subst hx
  have l4 := l3.trans k4
  refine RAny.on 10 (bl 29 56029183) rfl (by kernel_rfl) rfl (by decide) (Eff.call (Digest_Name K4 ins r p t s hr hp ht hne) call88 rfl fun x K5 k5 hx => ⟨fun W h => h.holds (l4.trans k5) (by first | exact mp rfl | exact mq rfl), ?_⟩)
  subst hx
  have l5 := l4.trans k5
  refine RAny.on 12 (bl 29 56033279) rfl (by kernel_rfl) rfl (by decide) (Eff.call (Digest_String K5 ins r p t s) call74 rfl fun x K6 k6 hx => ⟨fun W h => h.holds (l5.trans k6) (by first | exact mp rfl | exact mq rfl), ?_⟩)
  subst hx
  have l6 := l5.trans k6
  refine RAny.on 16 (bl 29 56098815) rfl (by kernel_rfl) rfl (by decide) (Eff.call (Registry_Scheme K6 ins r hr) call78 rfl fun x K7 k7 hx => ⟨fun W h => h.holds (l6.trans k7) (by first | exact mp rfl | exact mq rfl), ?_⟩)
  subst hx
  have l7 := l6.trans k7
  refine RAny.on 19 (bl 29 56623103) rfl (by kernel_rfl) rfl (by decide) (Eff.call (Repository_Scope K7 ins r p hp) call81 rfl fun x K8 k8 hx => ⟨fun W h => h.holds (l7.trans k8) (by first | exact mp rfl | exact mq rfl), ?_⟩)
  subst hx
  have l8 := l7.trans k8
  refine RAny.on 21 (bl 29 58720255) rfl (by kernel_rfl) rfl (by decide) (Eff.call (Repository_Name K8 ins r p hr hp hne) call73 rfl fun x K9 k9 hx => ⟨fun W h => h.holds (l8.trans k9) (by first | exact mp rfl | exact mq rfl), ?_⟩)
  subst hx
  have l9 := l8.trans k9
  refine RAny.on 23 (bl 29 67108863) rfl (by kernel_rfl) rfl (by decide) (Eff.call (Repository_String K9 ins r p hr hp hne) call66 rfl fun x K10 k10 hx => ⟨fun W h => h.holds (l9.trans k10) (by first | exact mp rfl | exact mq rfl), ?_⟩)
  subst hx
  have l10 := l9.trans k10
  refine RAny.on 26 (bl 29 134217727) rfl (by kernel_rfl) rfl (by decide) (Eff.call (Registry_Name K10 ins r) call77 rfl fun x K11 k11 hx => ⟨fun W h => h.holds (l10.trans k11) (by first | exact mp rfl | exact mq rfl), ?_⟩)
  subst hx
  have l11 := l10.trans k11
  skip
  refine RAny.tk 27 (bl 29 268435455) rfl (by kernel_rfl) (by decide) (fun W h => h.holds l11 (by first | exact mp rfl | exact mq rfl)) (Yld.buildL (vs := [(0, .int .i64 4), (1, str r), (2, str (fullP r p)), (3, str t), (4, str (repoT r (fullP r p) ++ [64] ++ t)), (5, str s), (6, str (schemeT (ins || pHttp r))), (7, str (scopeT (fullP r p))), (8, str (repoT r (fullP r p))), (9, str (repoT r (fullP r p))), (10, str r)]) (cs := (Nm.mk 4 r (fullP r p) t (repoT r (fullP r p) ++ [64] ++ t) s (schemeT (ins || pHttp r)) (scopeT (fullP r p)) (repoT r (fullP r p)) (repoT r (fullP r p)) r).cs) bd26 rfl (by kernel_rfl) (by kernel_rfl)) ?_
  refine RAny.os 28 (bl 29 536870911) rfl (by kernel_rfl) rfl (Eff.store 0 rfl rfl rfl rfl (T.sizeOk rfl) rfl (Nat.le_of_ble_eq_true rfl) rfl rfl ⟨fun W h => h.holds l11 (by first | exact mp rfl | exact mq rfl), ?_⟩)
  refine RAny.done _ (by kernel_rfl) ?_
  skip
  refine Run.retC T 0 (by rw [hCf]; exact func43) results43 rfl rfl rfl rfl rfl rfl (hR _ _ _ ?_)
  exact ⟨rfl, rfl⟩
end Go.V
namespace Go.V
open Go.Proofs.Tryz
open Go.RowKit
set_option linter.unusedVariables false
set_option linter.unusedSimpArgs false
set_option maxRecDepth 10000
attribute [local irreducible] Run Ops
def refRes (ins : Bool) (s : Tx) (a : Option (Bool × Tx × Tx × Tx)) (w : Value) : Prop := match a with
  | some (true, x) => w = .tuple #[.iface 65 (.agg #[.bool ins, str x.1, str x.2.1, str x.2.2, str s]), .nilIface]
  | some (false, x) => w = .tuple #[.iface 61 (.agg #[.bool ins, str x.1, str x.2.1, str x.2.2, str s]), .nilIface]
  | none => ∃ b, w = .tuple #[.nilIface, errV b]
set_option maxHeartbeats 4000000 in
theorem name_ParseReference (I : Imm) (s : Tx) (v : Value) (o : NOpt) (hro : regOk o.reg) (ho : OptsAre I v o) (hs : s.length ≤ 137438953472) (hrl : o.reg.length ≤ 4294967296) : Pure prog 54 [str s, v] I fun w J =>
    ∃ a, refRes o.ins s a w ∧ RefAns o s a ∧ ∀ x, a = some x → partsOk s o x.2 := by
  obtain ⟨st, ins, reg, tag⟩ := o
  refine Spec.enter 46 [(0, _), (1, _)] func54 rfl ntmps54 (by simp) rfl ?_
  intro C hCf hR hCI
  repeat (first | refine Run.seq ?_ | refine Run.region ?_ | refine Ops.nil ?_ | refine Ops.pure T rfl (by decide) rfl ?_)
  refine Ops.call ((strings_HasPrefix s [104, 116, 116, 112, 58, 47, 47] I (by omega) (by decide))) rfl (by decide) call90 rfl ?_
  rintro _ J1 l1 rfl
  repeat (first | refine Ops.pure T rfl (by decide) rfl ?_)
  cases h1 : starts [104, 116, 116, 112, 58, 47, 47] s with
  | true =>
    repeat (first | refine Run.seq ?_ | refine Run.region ?_ | refine Ops.nil ?_ | refine Run.cond_t rfl ?_ | refine Ops.not rfl (by decide) ?_ | refine Ops.pure T rfl (by decide) rfl ?_)
    refine Ops.lit T rfl rfl rfl (by decide) rfl (by decide) (by decide) rfl rfl rfl rfl rfl (fun b3 => ?_)
    refine Ops.call ((name_newErrBadName _ _ _)) rfl (by decide) call58 rfl ?_
    rintro _ J6 l6 ⟨b4, rfl⟩
    repeat (first | refine Ops.nil ?_ | refine Ops.pure T rfl (by decide) rfl ?_)
    refine Run.fin (Run.ret2 (by rw [hCf]; exact func54) results54 rfl rfl (hR _ _ _ ?_))
    exact ⟨rfl, none, ⟨b4, rfl⟩, RefAns.http (starts_pre (.inl h1)), fun x h => by cases h⟩
  | false =>
  repeat (first | refine Ops.pure T rfl (by decide) rfl ?_)
  refine Ops.call ((strings_HasPrefix s [104, 116, 116, 112, 115, 58, 47, 47] J1 (by omega) (by decide))) rfl (by decide) call90 rfl ?_
  rintro _ J2 l2 rfl
  repeat (first | refine Ops.nil ?_ | refine Ops.pure T rfl (by decide) rfl ?_)
  cases h2 : starts [104, 116, 116, 112, 115, 58, 47, 47] s with
  | true =>
    repeat (first | refine Run.seq ?_ | refine Run.region ?_ | refine Run.cond_t rfl ?_ | refine Ops.pure T rfl (by decide) rfl ?_)
    refine Ops.lit T rfl rfl rfl (by decide) rfl (by decide) (by decide) rfl rfl rfl rfl rfl (fun b3 => ?_)
    refine Ops.call ((name_newErrBadName _ _ _)) rfl (by decide) call58 rfl ?_
    rintro _ J6 l6 ⟨b4, rfl⟩
    repeat (first | refine Ops.nil ?_ | refine Ops.pure T rfl (by decide) rfl ?_)
    refine Run.fin (Run.ret2 (by rw [hCf]; exact func54) results54 rfl rfl (hR _ _ _ ?_))
    exact ⟨rfl, none, ⟨b4, rfl⟩, RefAns.http (starts_pre (.inr h2)), fun x h => by cases h⟩
  | false =>
  repeat (first | refine Run.seq ?_ | refine Run.region ?_ | refine Run.skip ?_ | refine Run.cond_f rfl ?_ | refine Ops.pure T rfl (by decide) rfl ?_)
  have ho2 := ho.mono (l1.trans l2)
  refine Ops.call ((name_NewTag J2 s v ⟨st, ins, reg, tag⟩ ho2 (by omega))) rfl (by decide) call26 rfl ?_
  rintro w J5 l5 ⟨at_, hres, hans, hlen⟩
  have ho5 := ho2.mono l5
  cases at_ with
  | some x =>
    have hres2 : w = _ := hres
    subst hres2
    obtain ⟨q1, q2, q3, q4⟩ := hlen x rfl
    simp only at q2 q4
    repeat (first | refine Ops.pure T rfl (by decide) rfl ?_)
    refine Ops.alloc rfl (by decide) (T.zeroOk rfl) rfl (fun b6 => ?_)
    repeat (first | refine Run.seq ?_ | refine Run.region ?_ | refine Ops.nil ?_ | refine Run.cond_t rfl ?_ | refine Ops.eqlNil T rfl (by decide) rfl rfl rfl rfl rfl ?_ | refine Ops.pure T rfl (by decide) rfl ?_ | refine Ops.loadN 0 rfl (by decide) rfl rfl (T.aggOk rfl) (T.sizeOk rfl) rfl rfl ?_ | refine Ops.store 0 rfl rfl rfl rfl rfl (T.sizeOk rfl) rfl (Nat.le_of_ble_eq_true rfl) rfl rfl ?_)
    refine Run.fin (Run.ret2 (by rw [hCf]; exact func54) results54 rfl rfl (hR _ _ _ ?_))
    refine ⟨rfl, some (false, x), rfl, RefAns.tag hans, fun y h => ?_⟩
    cases h
    unfold partsOk big
    refine ⟨q1, ?_, ?_, ?_⟩ <;> simp only <;> omega
  | none =>
    obtain ⟨b5, rfl⟩ := hres
    unfold errV
    repeat (first | refine Ops.pure T rfl (by decide) rfl ?_)
    refine Ops.alloc rfl (by decide) (T.zeroOk rfl) rfl (fun b6 => ?_)
    repeat (first | refine Run.seq ?_ | refine Run.region ?_ | refine Ops.nil ?_ | refine Run.skip ?_ | refine Run.cond_f rfl ?_ | refine Ops.eqlNil T rfl (by decide) rfl rfl rfl rfl rfl ?_ | refine Ops.pure T rfl (by decide) rfl ?_ | refine Ops.store 0 rfl rfl rfl rfl rfl (T.sizeOk rfl) rfl (Nat.le_of_ble_eq_true rfl) rfl rfl ?_)
    refine Ops.call ((name_NewDigest J5 s v ⟨st, ins, reg, tag⟩ hro ho5 hs hrl)) rfl (by decide) call29 rfl ?_
    rintro w J7 l7 ⟨ad, hres7, hans7, hlen7⟩
    cases ad with
    | some x =>
      have hres8 : w = _ := hres7
      subst hres8
      repeat (first | refine Ops.pure T rfl (by decide) rfl ?_)
      refine Ops.alloc rfl (by decide) (T.zeroOk rfl) rfl (fun b7 => ?_)
      repeat (first | refine Run.seq ?_ | refine Run.region ?_ | refine Ops.nil ?_ | refine Run.cond_t rfl ?_ | refine Ops.eqlNil T rfl (by decide) rfl rfl rfl rfl rfl ?_ | refine Ops.pure T rfl (by decide) rfl ?_ | refine Ops.loadN 0 rfl (by decide) rfl rfl (T.aggOk rfl) (T.sizeOk rfl) rfl rfl ?_ | refine Ops.store 0 rfl rfl rfl rfl rfl (T.sizeOk rfl) rfl (Nat.le_of_ble_eq_true rfl) rfl rfl ?_)
      refine Run.fin (Run.ret2 (by rw [hCf]; exact func54) results54 rfl rfl (hR _ _ _ ?_))
      exact ⟨rfl, some (true, x), rfl, RefAns.dig hans hans7, fun y h => by cases h; exact hlen7 x rfl⟩
    | none =>
      obtain ⟨b8, rfl⟩ := hres7
      unfold errV
      repeat (first | refine Ops.pure T rfl (by decide) rfl ?_)
      refine Ops.alloc rfl (by decide) (T.zeroOk rfl) rfl (fun b7 => ?_)
      repeat (first | refine Run.seq ?_ | refine Run.region ?_ | refine Ops.nil ?_ | refine Run.skip ?_ | refine Run.cond_f rfl ?_ | refine Ops.eqlNil T rfl (by decide) rfl rfl rfl rfl rfl ?_ | refine Ops.pure T rfl (by decide) rfl ?_ | refine Ops.store 0 rfl rfl rfl rfl rfl (T.sizeOk rfl) rfl (Nat.le_of_ble_eq_true rfl) rfl rfl ?_)
      refine Ops.lit T rfl rfl rfl (by decide) rfl (by decide) (by decide) rfl rfl rfl rfl rfl (fun b3 => ?_)
      refine Ops.call ((name_newErrBadName _ _ _)) rfl (by decide) call58 rfl ?_
      rintro _ J6 l6 ⟨b4, rfl⟩
      repeat (first | refine Ops.nil ?_ | refine Ops.pure T rfl (by decide) rfl ?_)
      refine Run.fin (Run.ret2 (by rw [hCf]; exact func54) results54 rfl rfl (hR _ _ _ ?_))
      exact ⟨rfl, none, ⟨b4, rfl⟩, RefAns.no hans hans7, fun x h => by cases h⟩
theorem name_IsErrBadName (I : Imm) (b : Nat) : Pure prog 95 [errV b] I fun w J => w = .bool true := by
  unfold errV
  refine Spec.enter 11 [(0, _)] func95 rfl ntmps95 (by simp) rfl ?_
  intro C hCf hR hCI
  repeat (first | refine Run.seq ?_ | refine Run.region ?_ | refine Ops.nil ?_ | refine Ops.pure T rfl (by decide) rfl ?_)
  refine Ops.assertYes T rfl (by decide) rfl rfl rfl ?_
  repeat (first | refine Run.seq ?_ | refine Run.region ?_ | refine Ops.nil ?_ | refine Ops.pure T rfl (by decide) rfl ?_)
  refine Run.fin (Run.ret1 (by rw [hCf]; exact func95) results95 rfl (hR _ _ _ ?_))
  exact ⟨rfl, rfl⟩
theorem impl_bad (I : Imm) (b : Nat) : Pure prog 56 [errV b] I fun w J => w = .tuple #[.agg Nm.zero.cs.toArray, .bool false, .bool true] := by
  unfold errV
  refine Spec.enter 8 [(0, _)] func56 rfl ntmps56 (by simp) rfl ?_
  intro C hCf hR hCI
  repeat (first | refine Run.seq ?_ | refine Run.region ?_)
  refine Ops.alloc rfl (by decide) (T.zeroOk rfl) rfl (fun b2 => ?_)
  repeat (first | refine Run.seq ?_ | refine Run.region ?_ | refine Ops.nil ?_ | refine Ops.pure T rfl (by decide) rfl ?_)
  refine Ops.buildL bd26 rfl (by decide) rfl rfl ?_
  repeat (first | refine Ops.pure T rfl (by decide) rfl ?_)
  refine Ops.call ((name_IsErrBadName I b)) rfl (by decide) call95 rfl ?_
  rintro _ J l rfl
  repeat (first | refine Ops.nil ?_ | refine Ops.pure T rfl (by decide) rfl ?_ | refine Ops.store 0 rfl rfl rfl rfl rfl (T.sizeOk rfl) rfl (Nat.le_of_ble_eq_true rfl) rfl rfl ?_)
  refine Run.retCTT T 0 (by rw [hCf]; exact func56) results56 rfl rfl rfl rfl rfl rfl rfl rfl (hR _ _ _ ?_)
  exact ⟨rfl, rfl⟩
theorem meth_tag_id (x : Value) (w : World) : (callMethod (.iface 61 x) "Identifier" #[]).run prog w = .ok (.enter 155 #[x]) w := by kernel_rfl
end Go.V
namespace Go.V
open Go.Proofs.Tryz
open Go.RowKit
set_option linter.unusedVariables false
set_option linter.unusedSimpArgs false
set_option maxRecDepth 10000
attribute [local irreducible] Run Ops
theorem meth_tag_name (x : Value) (w : World) : (callMethod (.iface 61 x) "Name" #[]).run prog w = .ok (.enter 84 #[x]) w := by kernel_rfl
theorem meth_tag_str (x : Value) (w : World) : (callMethod (.iface 61 x) "String" #[]).run prog w = .ok (.enter 71 #[x]) w := by kernel_rfl
theorem meth_tag_scope (x y : Value) (w : World) : (callMethod (.iface 61 x) "Scope" #[y]).run prog w = .ok (.enter 85 #[x, y]) w := by kernel_rfl
theorem meth_dig_id (x : Value) (w : World) : (callMethod (.iface 65 x) "Identifier" #[]).run prog w = .ok (.enter 156 #[x]) w := by kernel_rfl
theorem meth_dig_name (x : Value) (w : World) : (callMethod (.iface 65 x) "Name" #[]).run prog w = .ok (.enter 88 #[x]) w := by kernel_rfl
theorem meth_dig_str (x : Value) (w : World) : (callMethod (.iface 65 x) "String" #[]).run prog w = .ok (.enter 74 #[x]) w := by kernel_rfl
theorem meth_dig_scope (a b c d e y : Value) (w : World) : (callMethod (.iface 65 (.agg #[a, b, c, d, e])) "Scope" #[y]).run prog w = .ok (.enter 81 #[.agg #[a, b, c], y]) w := by kernel_rfl
def NmAns (o : NOpt) (which : Int) (s : Tx) (a : Option Nm) : Prop := ∀ k r p t ok, sParts o which s = (k, r, p, t, ok, false) → match a with
  | some n => ok = true ∧ n = nmd (o.ins || pHttp r) k r p t s
  | none => ok = false
def nmRes (a : Option Nm) (w : Value) : Prop := match a with
  | some n => w = .tuple #[.agg n.cs.toArray, .bool true, .bool false]
  | none => w = .tuple #[.agg Nm.zero.cs.toArray, .bool false, .bool true]
def nmBig (s : Tx) (o : NOpt) : Nat := 12 * (s.length + o.reg.length + o.tag.length) + 3000
def nmOk (s : Tx) (o : NOpt) (a : Option Nm) : Prop := ∀ n, a = some n → n.name.length ≤ nmBig s o ∧ (n.kind = 1 ∨ n.kind = 2 ∨ n.kind = 3 ∨ n.kind = 4)
theorem NmAns.reg {o : NOpt} {s : Tx} {a : Option Tx} (h : RegAns o.strict o.reg s a) : NmAns o 1 s (a.map fun r => nmd (o.ins || pHttp r) 1 r [] [] s) := by
  intro k r p t ok hs
  simp only [sParts, if_true, Prod.mk.injEq] at hs
  obtain ⟨rfl, h1, rfl, rfl, h4, h5⟩ := hs
  have := h r ok (Prod.ext h1 (Prod.ext h4 h5))
  subst this
  cases ok with
  | true => exact ⟨rfl, rfl⟩
  | false => rfl
theorem NmAns.repo {o : NOpt} {s : Tx} {a : Option (Tx × Tx)} (h : RepoAns o.strict o.reg s a) : NmAns o 2 s (a.map fun x => nmd (o.ins || pHttp x.1) 2 x.1 (fullP x.1 x.2) [] s) := by
  intro k r p t ok hs
  simp only [sParts, show ¬ (2 : Int) = 1 by decide, if_false, if_true, Prod.mk.injEq] at hs
  obtain ⟨rfl, h1, h2, rfl, h4, h5⟩ := hs
  have := h r p ok (Prod.ext h1 (Prod.ext h2 (Prod.ext h4 h5)))
  cases a with
  | none => exact this
  | some x =>
    obtain ⟨g1, g2, g3⟩ := this
    exact ⟨g1, by simp only [g2, g3]⟩
theorem NmAns.tag {o : NOpt} {s : Tx} {a : Option (Tx × Tx × Tx)} (h : TagAns o s a) : NmAns o 3 s (a.map fun x => nmd (o.ins || pHttp x.1) 3 x.1 (fullP x.1 x.2.1) x.2.2 s) := by
  intro k r p t ok hs
  simp only [sParts, show ¬ (3 : Int) = 1 by decide, show ¬ (3 : Int) = 2 by decide, if_false, if_true, Prod.mk.injEq] at hs
  obtain ⟨rfl, h1, h2, h3, h4, h5⟩ := hs
  have := h r p t ok (Prod.ext h1 (Prod.ext h2 (Prod.ext h3 (Prod.ext h4 h5))))
  cases a with
  | none => exact this
  | some x =>
    obtain ⟨g1, g2, g3, g4⟩ := this
    exact ⟨g1, by simp only [g2, g3, g4]⟩
theorem NmAns.dig {o : NOpt} {s : Tx} {a : Option (Tx × Tx × Tx)} (h : DigAns o s a) : NmAns o 4 s (a.map fun x => nmd (o.ins || pHttp x.1) 4 x.1 (fullP x.1 x.2.1) x.2.2 s) := by
  intro k r p t ok hs
  simp only [sParts, show ¬ (4 : Int) = 1 by decide, show ¬ (4 : Int) = 2 by decide, show ¬ (4 : Int) = 3 by decide, if_false, if_true, Prod.mk.injEq] at hs
  obtain ⟨rfl, h1, h2, h3, h4, h5⟩ := hs
  have := h r p t ok (Prod.ext h1 (Prod.ext h2 (Prod.ext h3 (Prod.ext h4 h5))))
  cases a with
  | none => exact this
  | some x =>
    obtain ⟨g1, g2, g3, g4⟩ := this
    exact ⟨g1, by simp only [g2, g3, g4]⟩
theorem NmAns.ref {o : NOpt} {s : Tx} {a : Option (Bool × Tx × Tx × Tx)} (h : RefAns o s a) : NmAns o 0 s (a.map fun x => nmd (o.ins || pHttp x.2.1) (if x.1 then 4 else 3) x.2.1 (fullP x.2.1 x.2.2.1) x.2.2.2 s) := by
  intro k r p t ok hs
  have := h k r p t ok hs
  cases a with
  | none => exact this
  | some x =>
    obtain ⟨g1, g2, g3, g4, g5⟩ := this
    exact ⟨g1, by simp only [g2, g3, g4, g5]⟩
theorem regOk_len {reg : Tx} (h : regOk reg) : reg.length ≤ 306 := by
  rcases h with rfl | h
  · decide
  · simp only [hostNamed, Bool.and_eq_true] at h
    have h1 := h.1
    unfold hostPlain at h1
    cases hk : ix 58 reg with
    | none =>
      rw [hk] at h1
      simp only [hp, Bool.and_eq_true] at h1
      have := (sWithin_all h1.1).2.2
      omega
    | some k =>
      rw [hk] at h1
      simp only [hp, Bool.and_eq_true] at h1
      have a1 := (sWithin_all h1.1).2.2
      have a2 := (sWithin_all h1.2.1).2.2
      have := ix_lt hk
      simp at a1 a2
      omega
theorem nmOk.none {s : Tx} {o : NOpt} : nmOk s o none := fun n h => by cases h
theorem nmOk.some {sch : Bool} {k : Int} {r p t s s' : Tx} {o : NOpt} (hk : k = 1 ∨ k = 2 ∨ k = 3 ∨ k = 4) (h : r.length + p.length + t.length + 10 ≤ nmBig s o) : nmOk s o (some (nmd sch k r p t s')) := by
  intro n hn
  cases hn
  unfold nmd
  rcases hk with rfl | rfl | rfl | rfl <;> simp [repoT] <;> omega
set_option maxHeartbeats 8000000 in
theorem impl_NameParse (I : Imm) (s : Tx) (which : Int) (o : NOpt) (hro : regOk o.reg) (hsz : nmBig s o ≤ 137438950000) (hw : which = 0 ∨ which = 1 ∨ which = 2 ∨ which = 3 ∨ which = 4) : Pure prog 18 [str s, .int .i64 which, .agg o.cs.toArray] I fun w J =>
    ∃ a, nmRes a w ∧ NmAns o which s a ∧ nmOk s o a := by
  have hsz' : 12 * (s.length + o.reg.length + o.tag.length) + 3000 ≤ 137438950000 := hsz
  have hrl := regOk_len hro
  rcases hw with rfl | rfl | rfl | rfl | rfl
  · skip
    refine Spec.enter 135 [(0, _), (1, _), (2, _)] func18 rfl ntmps18 (by simp) rfl ?_
    intro C hCf hR hCI
    repeat (first | refine Run.seq ?_ | refine Run.region ?_)
    refine Ops.box rfl (by decide) rfl rfl (fun b1 => ?_)
    refine Ops.alloc rfl (by decide) (T.zeroOk rfl) rfl (fun b2 => ?_)
    repeat (first | refine Run.seq ?_ | refine Run.region ?_ | refine Ops.nil ?_ | refine Run.block ?_ | refine Run.cond_t rfl ?_ | refine Ops.eql rfl (by decide) rfl rfl ?_ | refine Ops.pure T rfl (by decide) rfl ?_ | refine Ops.loadN 1 rfl (by decide) rfl rfl (T.aggOk rfl) (T.sizeOk rfl) rfl rfl ?_)
    refine Ops.call ((NameOpts_options I o)) rfl (by decide) call55 rfl ?_
    rintro v J1 l1 hS
    refine Ops.call ((name_ParseReference J1 s v o hro (OptsAre.of hS) (by omega) (by omega))) rfl (by decide) call54 rfl ?_
    rintro w J2 l2 ⟨a, hres, hans, hlen⟩
    match a, hres, hans, hlen with
    | none, hres, hans, hlen =>
      obtain ⟨b5, rfl⟩ := hres
      unfold errV
      repeat (first | refine Run.seq ?_ | refine Run.region ?_ | refine Ops.nil ?_ | refine Run.cond_t rfl ?_ | refine Ops.neqNil T rfl (by decide) rfl rfl rfl rfl rfl ?_ | refine Ops.pure T rfl (by decide) rfl ?_)
      refine Ops.call ((impl_bad _ b5)) rfl (by decide) call56 rfl ?_
      rintro _ J9 l9 rfl
      repeat (first | refine Ops.nil ?_ | refine Ops.pure T rfl (by decide) rfl ?_ | refine Ops.store 0 rfl rfl rfl rfl rfl (T.sizeOk rfl) rfl (Nat.le_of_ble_eq_true rfl) rfl rfl ?_)
      refine Run.retCTT T 0 (by rw [hCf]; exact func18) results18 rfl rfl rfl rfl rfl rfl rfl rfl (hR _ _ _ ?_)
      exact ⟨rfl, none, rfl, NmAns.ref hans, nmOk.none⟩
    | some (false, x), hres, hans, hlen =>
      obtain ⟨p1, p2, p3, p4⟩ := hlen _ rfl
      unfold big at p2 p3 p4
      simp only at p1 p2 p3 p4
      have q := fullP_len x.1 x.2.1
      have hres2 : w = _ := hres
      subst hres2
      repeat (first | refine Run.seq ?_ | refine Run.region ?_ | refine Ops.nil ?_ | refine Run.skip ?_ | refine Run.block ?_ | refine Run.cond_f rfl ?_ | refine Ops.neqNil T rfl (by decide) rfl rfl rfl rfl rfl ?_ | refine Ops.pure T rfl (by decide) rfl ?_)
      refine Ops.assertYes T rfl (by decide) rfl rfl rfl ?_
      repeat (first | refine Run.seq ?_ | refine Run.region ?_ | refine Ops.nil ?_ | refine Run.cond_t rfl ?_ | refine Ops.pure T rfl (by decide) rfl ?_)
      refine Ops.alloc rfl (by decide) (T.zeroOk rfl) rfl (fun b6 => ?_)
      repeat (first | refine Run.region ?_ | refine Ops.nil ?_ | refine Ops.loadN 0 rfl (by decide) rfl rfl (T.aggOk rfl) (T.sizeOk rfl) rfl rfl ?_ | refine Ops.store 0 rfl rfl rfl rfl rfl (T.sizeOk rfl) rfl (Nat.le_of_ble_eq_true rfl) rfl rfl ?_)
      refine Ops.call ((impl_tagNamed J2 o.ins x.1 x.2.1 x.2.2 s (by omega) (by omega) (by omega) p1)) rfl (by decide) call40 rfl ?_
      rintro _ J3 l3 rfl
      rw [show nmd (o.ins || pHttp x.1) 3 x.1 (fullP x.1 x.2.1) x.2.2 s = Nm.mk 3 x.1 (fullP x.1 x.2.1) x.2.2 (repoT x.1 (fullP x.1 x.2.1) ++ [58] ++ x.2.2) s (schemeT (o.ins || pHttp x.1)) (scopeT (fullP x.1 x.2.1)) (repoT x.1 (fullP x.1 x.2.1)) (repoT x.1 (fullP x.1 x.2.1)) x.1 from rfl]
      repeat (first | refine Run.region ?_ | refine Ops.nil ?_ | refine Run.inBlock ?_ | refine Ops.pure T rfl (by decide) rfl ?_ | refine Ops.store 1 rfl rfl rfl rfl rfl (T.sizeOk rfl) rfl (Nat.le_of_ble_eq_true rfl) rfl rfl ?_)
      refine Ops.callI (Tag_Identifier J3 o.ins x.1 x.2.1 x.2.2 s) rfl (by decide) rfl rfl (fun w => meth_tag_id _ w) ?_
      rintro _ J4 l4 rfl
      repeat (first | refine Ops.pure T rfl (by decide) rfl ?_)
      refine Ops.callI (Tag_Name J4 o.ins x.1 x.2.1 x.2.2 s (by omega) (by omega) (by omega) p1) rfl (by decide) rfl rfl (fun w => meth_tag_name _ w) ?_
      rintro _ J5 l5 rfl
      repeat (first | refine Ops.pure T rfl (by decide) rfl ?_)
      refine Ops.callI (Tag_String J5 o.ins x.1 x.2.1 x.2.2 s) rfl (by decide) rfl rfl (fun w => meth_tag_str _ w) ?_
      rintro _ J6 l6 rfl
      repeat (first | refine Ops.pure T rfl (by decide) rfl ?_)
      refine Ops.callI (Tag_Scope J6 o.ins x.1 x.2.1 x.2.2 s (by omega)) rfl (by decide) rfl rfl (fun w => meth_tag_scope _ _ w) ?_
      rintro _ J7 l7 rfl
      repeat (first | refine Run.seq ?_ | refine Run.region ?_ | refine Ops.nil ?_ | refine Run.inBlock ?_ | refine Ops.pure T rfl (by decide) rfl ?_ | refine Ops.loadN 1 rfl (by decide) rfl rfl (T.aggOk rfl) (T.sizeOk rfl) rfl rfl ?_ | refine Ops.store 1 rfl rfl rfl rfl rfl (T.sizeOk rfl) rfl (Nat.le_of_ble_eq_true rfl) rfl rfl ?_)
      refine Run.retCTT T 1 (by rw [hCf]; exact func18) results18 rfl rfl rfl rfl rfl rfl rfl rfl (hR _ _ _ ?_)
      refine ⟨rfl, some (nmd (o.ins || pHttp x.1) 3 x.1 (fullP x.1 x.2.1) x.2.2 s), rfl, NmAns.ref hans, nmOk.some (by decide) ?_⟩
      unfold nmBig; omega
    | some (true, x), hres, hans, hlen =>
      obtain ⟨p1, p2, p3, p4⟩ := hlen _ rfl
      unfold big at p2 p3 p4
      simp only at p1 p2 p3 p4
      have q := fullP_len x.1 x.2.1
      have hres2 : w = _ := hres
      subst hres2
      repeat (first | refine Run.seq ?_ | refine Run.region ?_ | refine Ops.nil ?_ | refine Run.skip ?_ | refine Run.block ?_ | refine Run.cond_f rfl ?_ | refine Ops.neqNil T rfl (by decide) rfl rfl rfl rfl rfl ?_ | refine Ops.pure T rfl (by decide) rfl ?_)
      refine Ops.assertNo T rfl (by decide) rfl rfl rfl rfl rfl ?_
      repeat (first | refine Run.seq ?_ | refine Run.region ?_ | refine Ops.nil ?_ | refine Run.cond_f rfl ?_ | refine Ops.pure T rfl (by decide) rfl ?_)
      refine Ops.assertYes T rfl (by decide) rfl rfl rfl ?_
      repeat (first | refine Run.seq ?_ | refine Run.region ?_ | refine Ops.nil ?_ | refine Run.cond_t rfl ?_ | refine Ops.pure T rfl (by decide) rfl ?_)
      refine Ops.alloc rfl (by decide) (T.zeroOk rfl) rfl (fun b6 => ?_)
      repeat (first | refine Run.region ?_ | refine Ops.nil ?_ | refine Ops.loadN 0 rfl (by decide) rfl rfl (T.aggOk rfl) (T.sizeOk rfl) rfl rfl ?_ | refine Ops.store 0 rfl rfl rfl rfl rfl (T.sizeOk rfl) rfl (Nat.le_of_ble_eq_true rfl) rfl rfl ?_)
      refine Ops.call ((impl_digestNamed J2 o.ins x.1 x.2.1 x.2.2 s (by omega) (by omega) (by omega) p1)) rfl (by decide) call43 rfl ?_
      rintro _ J3 l3 rfl
      rw [show nmd (o.ins || pHttp x.1) 4 x.1 (fullP x.1 x.2.1) x.2.2 s = Nm.mk 4 x.1 (fullP x.1 x.2.1) x.2.2 (repoT x.1 (fullP x.1 x.2.1) ++ [64] ++ x.2.2) s (schemeT (o.ins || pHttp x.1)) (scopeT (fullP x.1 x.2.1)) (repoT x.1 (fullP x.1 x.2.1)) (repoT x.1 (fullP x.1 x.2.1)) x.1 from rfl]
      repeat (first | refine Run.region ?_ | refine Ops.nil ?_ | refine Run.inBlock ?_ | refine Ops.pure T rfl (by decide) rfl ?_ | refine Ops.store 1 rfl rfl rfl rfl rfl (T.sizeOk rfl) rfl (Nat.le_of_ble_eq_true rfl) rfl rfl ?_)
      refine Ops.callI (Digest_Identifier J3 o.ins x.1 x.2.1 x.2.2 s) rfl (by decide) rfl rfl (fun w => meth_dig_id _ w) ?_
      rintro _ J4 l4 rfl
      repeat (first | refine Ops.pure T rfl (by decide) rfl ?_)
      refine Ops.callI (Digest_Name J4 o.ins x.1 x.2.1 x.2.2 s (by omega) (by omega) (by omega) p1) rfl (by decide) rfl rfl (fun w => meth_dig_name _ w) ?_
      rintro _ J5 l5 rfl
      repeat (first | refine Ops.pure T rfl (by decide) rfl ?_)
      refine Ops.callI (Digest_String J5 o.ins x.1 x.2.1 x.2.2 s) rfl (by decide) rfl rfl (fun w => meth_dig_str _ w) ?_
      rintro _ J6 l6 rfl
      repeat (first | refine Ops.pure T rfl (by decide) rfl ?_)
      refine Ops.callI (Repository_Scope J6 o.ins x.1 x.2.1 (by omega)) rfl (by decide) rfl rfl (fun w => meth_dig_scope _ _ _ _ _ _ w) ?_
      rintro _ J7 l7 rfl
      repeat (first | refine Run.seq ?_ | refine Run.region ?_ | refine Ops.nil ?_ | refine Run.inBlock ?_ | refine Ops.pure T rfl (by decide) rfl ?_ | refine Ops.loadN 1 rfl (by decide) rfl rfl (T.aggOk rfl) (T.sizeOk rfl) rfl rfl ?_ | refine Ops.store 1 rfl rfl rfl rfl rfl (T.sizeOk rfl) rfl (Nat.le_of_ble_eq_true rfl) rfl rfl ?_)
      refine Run.retCTT T 1 (by rw [hCf]; exact func18) results18 rfl rfl rfl rfl rfl rfl rfl rfl (hR _ _ _ ?_)
      refine ⟨rfl, some (nmd (o.ins || pHttp x.1) 4 x.1 (fullP x.1 x.2.1) x.2.2 s), rfl, NmAns.ref hans, nmOk.some (by decide) ?_⟩
      unfold nmBig; omega
  · skip
    refine Spec.enter 135 [(0, _), (1, _), (2, _)] func18 rfl ntmps18 (by simp) rfl ?_
    intro C hCf hR hCI
    repeat (first | refine Run.seq ?_ | refine Run.region ?_)
    refine Ops.box rfl (by decide) rfl rfl (fun b1 => ?_)
    refine Ops.alloc rfl (by decide) (T.zeroOk rfl) rfl (fun b2 => ?_)
    repeat (first | refine Run.seq ?_ | refine Run.region ?_ | refine Ops.nil ?_ | refine Run.block ?_ | refine Run.cond_t rfl ?_ | refine Run.cond_f rfl ?_ | refine Ops.eql rfl (by decide) rfl rfl ?_ | refine Ops.pure T rfl (by decide) rfl ?_ | refine Ops.loadN 1 rfl (by decide) rfl rfl (T.aggOk rfl) (T.sizeOk rfl) rfl rfl ?_)
    refine Ops.call ((NameOpts_options I o)) rfl (by decide) call55 rfl ?_
    rintro v J1 l1 hS
    refine Ops.call ((name_NewRegistry J1 s v o (OptsAre.of hS) (by omega))) rfl (by decide) call19 rfl ?_
    rintro w J2 l2 ⟨a, hres, hans, hlen⟩
    cases a with
    | none =>
      obtain ⟨b5, rfl⟩ := hres
      unfold errV
      repeat (first | refine Ops.pure T rfl (by decide) rfl ?_)
      refine Ops.alloc rfl (by decide) (T.zeroOk rfl) rfl (fun b4 => ?_)
      repeat (first | refine Run.seq ?_ | refine Run.region ?_ | refine Ops.nil ?_ | refine Run.cond_t rfl ?_ | refine Ops.neqNil T rfl (by decide) rfl rfl rfl rfl rfl ?_ | refine Ops.pure T rfl (by decide) rfl ?_ | refine Ops.store 0 rfl rfl rfl rfl rfl (T.sizeOk rfl) rfl (Nat.le_of_ble_eq_true rfl) rfl rfl ?_)
      refine Ops.call ((impl_bad _ b5)) rfl (by decide) call56 rfl ?_
      rintro _ J9 l9 rfl
      repeat (first | refine Ops.nil ?_ | refine Ops.pure T rfl (by decide) rfl ?_ | refine Ops.store 1 rfl rfl rfl rfl rfl (T.sizeOk rfl) rfl (Nat.le_of_ble_eq_true rfl) rfl rfl ?_)
      refine Run.retCTT T 1 (by rw [hCf]; exact func18) results18 rfl rfl rfl rfl rfl rfl rfl rfl (hR _ _ _ ?_)
      exact ⟨rfl, none, rfl, NmAns.reg hans, nmOk.none⟩
    | some r =>
      obtain ⟨p1, p2⟩ := hlen r rfl
      have hres2 : w = _ := hres
      subst hres2
      repeat (first | refine Ops.pure T rfl (by decide) rfl ?_)
      refine Ops.alloc rfl (by decide) (T.zeroOk rfl) rfl (fun b4 => ?_)
      repeat (first | refine Run.seq ?_ | refine Run.region ?_ | refine Ops.nil ?_ | refine Run.skip ?_ | refine Run.cond_f rfl ?_ | refine Ops.neqNil T rfl (by decide) rfl rfl rfl rfl rfl ?_ | refine Ops.pure T rfl (by decide) rfl ?_ | refine Ops.loadN 0 rfl (by decide) rfl rfl (T.aggOk rfl) (T.sizeOk rfl) rfl rfl ?_ | refine Ops.store 0 rfl rfl rfl rfl rfl (T.sizeOk rfl) rfl (Nat.le_of_ble_eq_true rfl) rfl rfl ?_)
      refine Ops.call ((impl_registryNamed J2 o.ins r (by omega))) rfl (by decide) call34 rfl ?_
      rintro _ J3 l3 rfl
      repeat (first | refine Run.seq ?_ | refine Run.region ?_ | refine Ops.nil ?_ | refine Run.inBlock ?_ | refine Ops.pure T rfl (by decide) rfl ?_ | refine Ops.loadN 1 rfl (by decide) rfl rfl (T.aggOk rfl) (T.sizeOk rfl) rfl rfl ?_ | refine Ops.store 1 rfl rfl rfl rfl rfl (T.sizeOk rfl) rfl (Nat.le_of_ble_eq_true rfl) rfl rfl ?_)
      refine Run.retCTT T 1 (by rw [hCf]; exact func18) results18 rfl rfl rfl rfl rfl rfl rfl rfl (hR _ _ _ ?_)
      refine ⟨rfl, some (nmd (o.ins || pHttp r) 1 r [] [] s), rfl, NmAns.reg hans, nmOk.some (by decide) ?_⟩
      unfold nmBig; simp; omega
  · skip
    refine Spec.enter 135 [(0, _), (1, _), (2, _)] func18 rfl ntmps18 (by simp) rfl ?_
    intro C hCf hR hCI
    repeat (first | refine Run.seq ?_ | refine Run.region ?_)
    refine Ops.box rfl (by decide) rfl rfl (fun b1 => ?_)
    refine Ops.alloc rfl (by decide) (T.zeroOk rfl) rfl (fun b2 => ?_)
    repeat (first | refine Run.seq ?_ | refine Run.region ?_ | refine Ops.nil ?_ | refine Run.block ?_ | refine Run.cond_t rfl ?_ | refine Run.cond_f rfl ?_ | refine Ops.eql rfl (by decide) rfl rfl ?_ | refine Ops.pure T rfl (by decide) rfl ?_ | refine Ops.loadN 1 rfl (by decide) rfl rfl (T.aggOk rfl) (T.sizeOk rfl) rfl rfl ?_)
    refine Ops.call ((NameOpts_options I o)) rfl (by decide) call55 rfl ?_
    rintro v J1 l1 hS
    refine Ops.call ((name_NewRepository J1 s v o (OptsAre.of hS) (by omega))) rfl (by decide) call23 rfl ?_
    rintro w J2 l2 ⟨a, hres, hans, hlen⟩
    cases a with
    | none =>
      obtain ⟨b5, rfl⟩ := hres
      unfold errV
      repeat (first | refine Ops.pure T rfl (by decide) rfl ?_)
      refine Ops.alloc rfl (by decide) (T.zeroOk rfl) rfl (fun b4 => ?_)
      repeat (first | refine Run.seq ?_ | refine Run.region ?_ | refine Ops.nil ?_ | refine Run.cond_t rfl ?_ | refine Ops.neqNil T rfl (by decide) rfl rfl rfl rfl rfl ?_ | refine Ops.pure T rfl (by decide) rfl ?_ | refine Ops.store 0 rfl rfl rfl rfl rfl (T.sizeOk rfl) rfl (Nat.le_of_ble_eq_true rfl) rfl rfl ?_)
      refine Ops.call ((impl_bad _ b5)) rfl (by decide) call56 rfl ?_
      rintro _ J9 l9 rfl
      repeat (first | refine Ops.nil ?_ | refine Ops.pure T rfl (by decide) rfl ?_ | refine Ops.store 1 rfl rfl rfl rfl rfl (T.sizeOk rfl) rfl (Nat.le_of_ble_eq_true rfl) rfl rfl ?_)
      refine Run.retCTT T 1 (by rw [hCf]; exact func18) results18 rfl rfl rfl rfl rfl rfl rfl rfl (hR _ _ _ ?_)
      exact ⟨rfl, none, rfl, NmAns.repo hans, nmOk.none⟩
    | some x =>
      obtain ⟨p1, p2, p3⟩ := hlen x rfl
      have q := fullP_len x.1 x.2
      have hres2 : w = _ := hres
      subst hres2
      repeat (first | refine Ops.pure T rfl (by decide) rfl ?_)
      refine Ops.alloc rfl (by decide) (T.zeroOk rfl) rfl (fun b4 => ?_)
      repeat (first | refine Run.seq ?_ | refine Run.region ?_ | refine Ops.nil ?_ | refine Run.skip ?_ | refine Run.cond_f rfl ?_ | refine Ops.neqNil T rfl (by decide) rfl rfl rfl rfl rfl ?_ | refine Ops.pure T rfl (by decide) rfl ?_ | refine Ops.loadN 0 rfl (by decide) rfl rfl (T.aggOk rfl) (T.sizeOk rfl) rfl rfl ?_ | refine Ops.store 0 rfl rfl rfl rfl rfl (T.sizeOk rfl) rfl (Nat.le_of_ble_eq_true rfl) rfl rfl ?_)
      refine Ops.call ((impl_repositoryNamed J2 o.ins x.1 x.2 (by omega) (by omega) p1)) rfl (by decide) call37 rfl ?_
      rintro _ J3 l3 rfl
      repeat (first | refine Run.seq ?_ | refine Run.region ?_ | refine Ops.nil ?_ | refine Run.inBlock ?_ | refine Ops.pure T rfl (by decide) rfl ?_ | refine Ops.loadN 1 rfl (by decide) rfl rfl (T.aggOk rfl) (T.sizeOk rfl) rfl rfl ?_ | refine Ops.store 1 rfl rfl rfl rfl rfl (T.sizeOk rfl) rfl (Nat.le_of_ble_eq_true rfl) rfl rfl ?_)
      refine Run.retCTT T 1 (by rw [hCf]; exact func18) results18 rfl rfl rfl rfl rfl rfl rfl rfl (hR _ _ _ ?_)
      refine ⟨rfl, some (nmd (o.ins || pHttp x.1) 2 x.1 (fullP x.1 x.2) [] s), rfl, NmAns.repo hans, nmOk.some (by decide) ?_⟩
      unfold nmBig; simp; omega
  · skip
    refine Spec.enter 135 [(0, _), (1, _), (2, _)] func18 rfl ntmps18 (by simp) rfl ?_
    intro C hCf hR hCI
    repeat (first | refine Run.seq ?_ | refine Run.region ?_)
    refine Ops.box rfl (by decide) rfl rfl (fun b1 => ?_)
    refine Ops.alloc rfl (by decide) (T.zeroOk rfl) rfl (fun b2 => ?_)
    repeat (first | refine Run.seq ?_ | refine Run.region ?_ | refine Ops.nil ?_ | refine Run.block ?_ | refine Run.cond_t rfl ?_ | refine Run.cond_f rfl ?_ | refine Ops.eql rfl (by decide) rfl rfl ?_ | refine Ops.pure T rfl (by decide) rfl ?_ | refine Ops.loadN 1 rfl (by decide) rfl rfl (T.aggOk rfl) (T.sizeOk rfl) rfl rfl ?_)
    refine Ops.call ((NameOpts_options I o)) rfl (by decide) call55 rfl ?_
    rintro v J1 l1 hS
    refine Ops.call ((name_NewTag J1 s v o (OptsAre.of hS) (by omega))) rfl (by decide) call26 rfl ?_
    rintro w J2 l2 ⟨a, hres, hans, hlen⟩
    cases a with
    | none =>
      obtain ⟨b5, rfl⟩ := hres
      unfold errV
      repeat (first | refine Ops.pure T rfl (by decide) rfl ?_)
      refine Ops.alloc rfl (by decide) (T.zeroOk rfl) rfl (fun b4 => ?_)
      repeat (first | refine Run.seq ?_ | refine Run.region ?_ | refine Ops.nil ?_ | refine Run.cond_t rfl ?_ | refine Ops.neqNil T rfl (by decide) rfl rfl rfl rfl rfl ?_ | refine Ops.pure T rfl (by decide) rfl ?_ | refine Ops.store 0 rfl rfl rfl rfl rfl (T.sizeOk rfl) rfl (Nat.le_of_ble_eq_true rfl) rfl rfl ?_)
      refine Ops.call ((impl_bad _ b5)) rfl (by decide) call56 rfl ?_
      rintro _ J9 l9 rfl
      repeat (first | refine Ops.nil ?_ | refine Ops.pure T rfl (by decide) rfl ?_ | refine Ops.store 1 rfl rfl rfl rfl rfl (T.sizeOk rfl) rfl (Nat.le_of_ble_eq_true rfl) rfl rfl ?_)
      refine Run.retCTT T 1 (by rw [hCf]; exact func18) results18 rfl rfl rfl rfl rfl rfl rfl rfl (hR _ _ _ ?_)
      exact ⟨rfl, none, rfl, NmAns.tag hans, nmOk.none⟩
    | some x =>
      obtain ⟨p1, p2, p3, p4⟩ := hlen x rfl
      have q := fullP_len x.1 x.2.1
      have hres2 : w = _ := hres
      subst hres2
      repeat (first | refine Ops.pure T rfl (by decide) rfl ?_)
      refine Ops.alloc rfl (by decide) (T.zeroOk rfl) rfl (fun b4 => ?_)
      repeat (first | refine Run.seq ?_ | refine Run.region ?_ | refine Ops.nil ?_ | refine Run.skip ?_ | refine Run.cond_f rfl ?_ | refine Ops.neqNil T rfl (by decide) rfl rfl rfl rfl rfl ?_ | refine Ops.pure T rfl (by decide) rfl ?_ | refine Ops.loadN 0 rfl (by decide) rfl rfl (T.aggOk rfl) (T.sizeOk rfl) rfl rfl ?_ | refine Ops.store 0 rfl rfl rfl rfl rfl (T.sizeOk rfl) rfl (Nat.le_of_ble_eq_true rfl) rfl rfl ?_)
      refine Ops.call ((impl_tagNamed J2 o.ins x.1 x.2.1 x.2.2 s (by omega) (by omega) (by omega) p1)) rfl (by decide) call40 rfl ?_
      rintro _ J3 l3 rfl
      repeat (first | refine Run.seq ?_ | refine Run.region ?_ | refine Ops.nil ?_ | refine Run.inBlock ?_ | refine Ops.pure T rfl (by decide) rfl ?_ | refine Ops.loadN 1 rfl (by decide) rfl rfl (T.aggOk rfl) (T.sizeOk rfl) rfl rfl ?_ | refine Ops.store 1 rfl rfl rfl rfl rfl (T.sizeOk rfl) rfl (Nat.le_of_ble_eq_true rfl) rfl rfl ?_)
      refine Run.retCTT T 1 (by rw [hCf]; exact func18) results18 rfl rfl rfl rfl rfl rfl rfl rfl (hR _ _ _ ?_)
      refine ⟨rfl, some (nmd (o.ins || pHttp x.1) 3 x.1 (fullP x.1 x.2.1) x.2.2 s), rfl, NmAns.tag hans, nmOk.some (by decide) ?_⟩
      unfold nmBig; omega
  · skip
    refine Spec.enter 135 [(0, _), (1, _), (2, _)] func18 rfl ntmps18 (by simp) rfl ?_
    intro C hCf hR hCI
    repeat (first | refine Run.seq ?_ | refine Run.region ?_)
    refine Ops.box rfl (by decide) rfl rfl (fun b1 => ?_)
    refine Ops.alloc rfl (by decide) (T.zeroOk rfl) rfl (fun b2 => ?_)
    repeat (first | refine Run.seq ?_ | refine Run.region ?_ | refine Ops.nil ?_ | refine Run.block ?_ | refine Run.cond_t rfl ?_ | refine Run.cond_f rfl ?_ | refine Ops.eql rfl (by decide) rfl rfl ?_ | refine Ops.pure T rfl (by decide) rfl ?_ | refine Ops.loadN 1 rfl (by decide) rfl rfl (T.aggOk rfl) (T.sizeOk rfl) rfl rfl ?_)
    refine Ops.call ((NameOpts_options I o)) rfl (by decide) call55 rfl ?_
    rintro v J1 l1 hS
    refine Ops.call ((name_NewDigest J1 s v o hro (OptsAre.of hS) (by omega) (by omega))) rfl (by decide) call29 rfl ?_
    rintro w J2 l2 ⟨a, hres, hans, hlen⟩
    cases a with
    | none =>
      obtain ⟨b5, rfl⟩ := hres
      unfold errV
      repeat (first | refine Ops.pure T rfl (by decide) rfl ?_)
      refine Ops.alloc rfl (by decide) (T.zeroOk rfl) rfl (fun b4 => ?_)
      repeat (first | refine Run.seq ?_ | refine Run.region ?_ | refine Ops.nil ?_ | refine Run.cond_t rfl ?_ | refine Ops.neqNil T rfl (by decide) rfl rfl rfl rfl rfl ?_ | refine Ops.pure T rfl (by decide) rfl ?_ | refine Ops.store 0 rfl rfl rfl rfl rfl (T.sizeOk rfl) rfl (Nat.le_of_ble_eq_true rfl) rfl rfl ?_)
      refine Ops.call ((impl_bad _ b5)) rfl (by decide) call56 rfl ?_
      rintro _ J9 l9 rfl
      repeat (first | refine Ops.nil ?_ | refine Ops.pure T rfl (by decide) rfl ?_ | refine Ops.store 1 rfl rfl rfl rfl rfl (T.sizeOk rfl) rfl (Nat.le_of_ble_eq_true rfl) rfl rfl ?_)
      refine Run.retCTT T 1 (by rw [hCf]; exact func18) results18 rfl rfl rfl rfl rfl rfl rfl rfl (hR _ _ _ ?_)
      exact ⟨rfl, none, rfl, NmAns.dig hans, nmOk.none⟩
    | some x =>
      obtain ⟨p1, p2, p3, p4⟩ := hlen x rfl
      unfold big at p2 p3 p4
      have q := fullP_len x.1 x.2.1
      have hres2 : w = _ := hres
      subst hres2
      repeat (first | refine Ops.pure T rfl (by decide) rfl ?_)
      refine Ops.alloc rfl (by decide) (T.zeroOk rfl) rfl (fun b4 => ?_)
      repeat (first | refine Run.seq ?_ | refine Run.region ?_ | refine Ops.nil ?_ | refine Run.skip ?_ | refine Run.cond_f rfl ?_ | refine Ops.neqNil T rfl (by decide) rfl rfl rfl rfl rfl ?_ | refine Ops.pure T rfl (by decide) rfl ?_ | refine Ops.loadN 0 rfl (by decide) rfl rfl (T.aggOk rfl) (T.sizeOk rfl) rfl rfl ?_ | refine Ops.store 0 rfl rfl rfl rfl rfl (T.sizeOk rfl) rfl (Nat.le_of_ble_eq_true rfl) rfl rfl ?_)
      refine Ops.call ((impl_digestNamed J2 o.ins x.1 x.2.1 x.2.2 s (by omega) (by omega) (by omega) p1)) rfl (by decide) call43 rfl ?_
      rintro _ J3 l3 rfl
      repeat (first | refine Run.seq ?_ | refine Run.region ?_ | refine Ops.nil ?_ | refine Run.inBlock ?_ | refine Ops.pure T rfl (by decide) rfl ?_ | refine Ops.loadN 1 rfl (by decide) rfl rfl (T.aggOk rfl) (T.sizeOk rfl) rfl rfl ?_ | refine Ops.store 1 rfl rfl rfl rfl rfl (T.sizeOk rfl) rfl (Nat.le_of_ble_eq_true rfl) rfl rfl ?_)
      refine Run.retCTT T 1 (by rw [hCf]; exact func18) results18 rfl rfl rfl rfl rfl rfl rfl rfl (hR _ _ _ ?_)
      refine ⟨rfl, some (nmd (o.ins || pHttp x.1) 4 x.1 (fullP x.1 x.2.1) x.2.2 s), rfl, NmAns.dig hans, nmOk.some (by decide) ?_⟩
      unfold nmBig; omega
end Go.V
