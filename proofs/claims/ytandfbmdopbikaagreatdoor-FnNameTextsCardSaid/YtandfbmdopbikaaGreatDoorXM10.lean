import Derived.Test.YtandfbmdopbikaaGreatDoorXM9
import Derived.Test.YtandfbmdopbikaaGreatDoorXM5
import Derived.Test.YtandfbmdopbikaaGreatDoorXM8
import Derived.Test.YtandfbmdopbikaaGreatDoorXM3
namespace Go.V
open Go.Proofs.Tryz
open Go.RowKit
set_option linter.unusedVariables false
set_option linter.unusedSimpArgs false
set_option maxRecDepth 10000
attribute [local irreducible] Run Ops
def Nm.cs (n : Nm) : List Value := [.int .i64 n.kind, str n.reg, str n.rep, str n.id, str n.name, str n.text, str n.scheme, str n.scope, str n.cname, str n.ctext, str n.rname]
theorem Tag_TagStr (I : Imm) (ins : Bool) (r p t s : Tx) : Pure prog 83 [.agg [.bool ins, str r, str p, str t, str s].toArray] I fun w J => w = str t := by
  refine Spec.enter 5 [(0, _)] func83 rfl ntmps83 (by simp) rfl ?_
  intro C hCf hR hCI
  repeat (first | refine Run.seq ?_ | refine Run.region ?_)
  refine Ops.box rfl (by decide) rfl rfl (fun b => ?_)
  repeat (first | refine Run.seq ?_ | refine Run.region ?_ | refine Ops.nil ?_ | refine Ops.pure T rfl (by decide) rfl ?_ | refine Ops.load 0 rfl (by decide) rfl rfl (T.aggOk rfl) rfl ?_)
  refine Run.fin (Run.ret1 (by rw [hCf]; exact func83) results83 rfl (hR _ _ _ ?_))
  exact ⟨rfl, rfl⟩
theorem Tag_String (I : Imm) (ins : Bool) (r p t s : Tx) : Pure prog 71 [.agg [.bool ins, str r, str p, str t, str s].toArray] I fun w J => w = str s := by
  refine Spec.enter 5 [(0, _)] func71 rfl ntmps71 (by simp) rfl ?_
  intro C hCf hR hCI
  repeat (first | refine Run.seq ?_ | refine Run.region ?_)
  refine Ops.box rfl (by decide) rfl rfl (fun b => ?_)
  repeat (first | refine Run.seq ?_ | refine Run.region ?_ | refine Ops.nil ?_ | refine Ops.pure T rfl (by decide) rfl ?_ | refine Ops.load 0 rfl (by decide) rfl rfl (T.aggOk rfl) rfl ?_)
  refine Run.fin (Run.ret1 (by rw [hCf]; exact func71) results71 rfl (hR _ _ _ ?_))
  exact ⟨rfl, rfl⟩
theorem Digest_DigestStr (I : Imm) (ins : Bool) (r p t s : Tx) : Pure prog 87 [.agg [.bool ins, str r, str p, str t, str s].toArray] I fun w J => w = str t := by
  refine Spec.enter 5 [(0, _)] func87 rfl ntmps87 (by simp) rfl ?_
  intro C hCf hR hCI
  repeat (first | refine Run.seq ?_ | refine Run.region ?_)
  refine Ops.box rfl (by decide) rfl rfl (fun b => ?_)
  repeat (first | refine Run.seq ?_ | refine Run.region ?_ | refine Ops.nil ?_ | refine Ops.pure T rfl (by decide) rfl ?_ | refine Ops.load 0 rfl (by decide) rfl rfl (T.aggOk rfl) rfl ?_)
  refine Run.fin (Run.ret1 (by rw [hCf]; exact func87) results87 rfl (hR _ _ _ ?_))
  exact ⟨rfl, rfl⟩
theorem Digest_String (I : Imm) (ins : Bool) (r p t s : Tx) : Pure prog 74 [.agg [.bool ins, str r, str p, str t, str s].toArray] I fun w J => w = str s := by
  refine Spec.enter 5 [(0, _)] func74 rfl ntmps74 (by simp) rfl ?_
  intro C hCf hR hCI
  repeat (first | refine Run.seq ?_ | refine Run.region ?_)
  refine Ops.box rfl (by decide) rfl rfl (fun b => ?_)
  repeat (first | refine Run.seq ?_ | refine Run.region ?_ | refine Ops.nil ?_ | refine Ops.pure T rfl (by decide) rfl ?_ | refine Ops.load 0 rfl (by decide) rfl rfl (T.aggOk rfl) rfl ?_)
  refine Run.fin (Run.ret1 (by rw [hCf]; exact func74) results74 rfl (hR _ _ _ ?_))
  exact ⟨rfl, rfl⟩
theorem Tag_Identifier (I : Imm) (ins : Bool) (r p t s : Tx) : Pure prog 155 [.agg [.bool ins, str r, str p, str t, str s].toArray] I fun w J => w = str t := by
  refine Spec.enter 5 [(0, _)] func155 rfl ntmps155 (by simp) rfl ?_
  intro C hCf hR hCI
  repeat (first | refine Run.seq ?_ | refine Run.region ?_)
  refine Ops.box rfl (by decide) rfl rfl (fun b => ?_)
  repeat (first | refine Run.seq ?_ | refine Run.region ?_ | refine Ops.nil ?_ | refine Ops.pure T rfl (by decide) rfl ?_ | refine Ops.loadN 0 rfl (by decide) rfl rfl (T.aggOk rfl) (T.sizeOk rfl) rfl rfl ?_)
  refine Ops.call ((Tag_TagStr I ins r p t s)) rfl (by decide) call83 rfl ?_
  rintro _ J l rfl
  repeat (first | refine Ops.nil ?_ | refine Ops.pure T rfl (by decide) rfl ?_)
  refine Run.fin (Run.ret1 (by rw [hCf]; exact func155) results155 rfl (hR _ _ _ ?_))
  exact ⟨rfl, rfl⟩
theorem Digest_Identifier (I : Imm) (ins : Bool) (r p t s : Tx) : Pure prog 156 [.agg [.bool ins, str r, str p, str t, str s].toArray] I fun w J => w = str t := by
  refine Spec.enter 5 [(0, _)] func156 rfl ntmps156 (by simp) rfl ?_
  intro C hCf hR hCI
  repeat (first | refine Run.seq ?_ | refine Run.region ?_)
  refine Ops.box rfl (by decide) rfl rfl (fun b => ?_)
  repeat (first | refine Run.seq ?_ | refine Run.region ?_ | refine Ops.nil ?_ | refine Ops.pure T rfl (by decide) rfl ?_ | refine Ops.loadN 0 rfl (by decide) rfl rfl (T.aggOk rfl) (T.sizeOk rfl) rfl rfl ?_)
  refine Ops.call ((Digest_DigestStr I ins r p t s)) rfl (by decide) call87 rfl ?_
  rintro _ J l rfl
  repeat (first | refine Ops.nil ?_ | refine Ops.pure T rfl (by decide) rfl ?_)
  refine Run.fin (Run.ret1 (by rw [hCf]; exact func156) results156 rfl (hR _ _ _ ?_))
  exact ⟨rfl, rfl⟩
theorem Tag_Context (I : Imm) (ins : Bool) (r p t s : Tx) : Pure prog 82 [.agg [.bool ins, str r, str p, str t, str s].toArray] I fun w J => w = .agg [.bool ins, str r, str p].toArray := by
  refine Spec.enter 5 [(0, _)] func82 rfl ntmps82 (by simp) rfl ?_
  intro C hCf hR hCI
  repeat (first | refine Run.seq ?_ | refine Run.region ?_)
  refine Ops.box rfl (by decide) rfl rfl (fun b => ?_)
  refine Ops.alloc rfl (by decide) (T.zeroOk rfl) rfl (fun b2 => ?_)
  repeat (first | refine Run.seq ?_ | refine Run.region ?_ | refine Ops.nil ?_ | refine Ops.pure T rfl (by decide) rfl ?_ | refine Ops.loadN 1 rfl (by decide) rfl rfl (T.aggOk rfl) (T.sizeOk rfl) rfl rfl ?_ | refine Ops.store 0 rfl rfl rfl rfl rfl (T.sizeOk rfl) rfl (Nat.le_of_ble_eq_true rfl) rfl rfl ?_)
  refine Run.retC T 0 (by rw [hCf]; exact func82) results82 rfl rfl rfl rfl rfl rfl (hR _ _ _ ?_)
  exact ⟨rfl, rfl⟩
theorem Digest_Context (I : Imm) (ins : Bool) (r p t s : Tx) : Pure prog 86 [.agg [.bool ins, str r, str p, str t, str s].toArray] I fun w J => w = .agg [.bool ins, str r, str p].toArray := by
  refine Spec.enter 5 [(0, _)] func86 rfl ntmps86 (by simp) rfl ?_
  intro C hCf hR hCI
  repeat (first | refine Run.seq ?_ | refine Run.region ?_)
  refine Ops.box rfl (by decide) rfl rfl (fun b => ?_)
  refine Ops.alloc rfl (by decide) (T.zeroOk rfl) rfl (fun b2 => ?_)
  repeat (first | refine Run.seq ?_ | refine Run.region ?_ | refine Ops.nil ?_ | refine Ops.pure T rfl (by decide) rfl ?_ | refine Ops.loadN 1 rfl (by decide) rfl rfl (T.aggOk rfl) (T.sizeOk rfl) rfl rfl ?_ | refine Ops.store 0 rfl rfl rfl rfl rfl (T.sizeOk rfl) rfl (Nat.le_of_ble_eq_true rfl) rfl rfl ?_)
  refine Run.retC T 0 (by rw [hCf]; exact func86) results86 rfl rfl rfl rfl rfl rfl (hR _ _ _ ?_)
  exact ⟨rfl, rfl⟩
theorem Tag_Name (I : Imm) (ins : Bool) (r p t s : Tx) (hr : r.length ≤ 1099511627776) (hp : p.length ≤ 1099511627776) (ht : t.length ≤ 1099511627776) (hne : r ≠ []) :
    Pure prog 84 [.agg [.bool ins, str r, str p, str t, str s].toArray] I fun w J => w = str (repoT r (fullP r p) ++ [58] ++ t) := by
  have hfl := fullP_len r p
  refine Spec.enter 10 [(0, _)] func84 rfl ntmps84 (by simp) rfl ?_
  intro C hCf hR hCI
  repeat (first | refine Run.seq ?_ | refine Run.region ?_)
  refine Ops.box rfl (by decide) rfl rfl (fun b => ?_)
  repeat (first | refine Run.seq ?_ | refine Ops.nil ?_ | refine Ops.pure T rfl (by decide) rfl ?_)
  refine Run.regionAny (Holds I [(b, blk [.bool ins, str r, str p, str t, str s] 61)]) (bl 8 0) (by kernel_rfl) (by kernel_rfl) ?_
  refine RAny.tk 0 (bl 8 1) rfl (by kernel_rfl) (by decide) (fun W h => h.holds (Le.refl _) (by first | exact mp rfl | exact mq rfl)) (Yld.eval T rfl rfl) ?_
  first | refine RAny.tk 1 (bl 8 3) rfl (by kernel_rfl) (by decide) (fun W h => h.holds (Le.refl _) (by first | exact mp rfl | exact mq rfl)) (Yld.loadN 0 T rfl rfl rfl rfl rfl rfl rfl) ?_ | refine RAny.tk 1 (bl 8 3) rfl (by kernel_rfl) (by decide) (fun W h => h.holds (Le.refl _) (by first | exact mp rfl | exact mq rfl)) (Yld.loadN 1 T rfl rfl rfl rfl rfl rfl rfl) ?_ | refine RAny.tk 1 (bl 8 3) rfl (by kernel_rfl) (by decide) (fun W h => h.holds (Le.refl _) (by first | exact mp rfl | exact mq rfl)) (Yld.loadN 2 T rfl rfl rfl rfl rfl rfl rfl) ?_
  first | refine RAny.tk 4 (bl 8 19) rfl (by kernel_rfl) (by decide) (fun W h => h.holds (Le.refl _) (by first | exact mp rfl | exact mq rfl)) (Yld.loadN 0 T rfl rfl rfl rfl rfl rfl rfl) ?_ | refine RAny.tk 4 (bl 8 19) rfl (by kernel_rfl) (by decide) (fun W h => h.holds (Le.refl _) (by first | exact mp rfl | exact mq rfl)) (Yld.loadN 1 T rfl rfl rfl rfl rfl rfl rfl) ?_ | refine RAny.tk 4 (bl 8 19) rfl (by kernel_rfl) (by decide) (fun W h => h.holds (Le.refl _) (by first | exact mp rfl | exact mq rfl)) (Yld.loadN 2 T rfl rfl rfl rfl rfl rfl rfl) ?_
  refine RAny.on 2 (bl 8 23) rfl (by kernel_rfl) rfl (by decide) (Eff.call (Repository_Name I ins r p hr hp hne) call73 rfl fun x2 J2 l2 hx2 => ⟨fun W h => h.holds l2 (by first | exact mp rfl | exact mq rfl), ?_⟩)
  subst hx2
  skip
  refine RAny.tk 3 (bl 8 31) rfl (by kernel_rfl) (by decide) (fun W h => h.holds l2 (by first | exact mp rfl | exact mq rfl)) (Yld.catS rfl rfl rfl (by simp only [repoT, List.length_append, List.length_cons, List.length_nil]; omega)) ?_
  refine RAny.on 5 (bl 8 63) rfl (by kernel_rfl) rfl (by decide) (Eff.call (Tag_TagStr J2 ins r p t s) call83 rfl fun x3 J3 l3 hx3 => ⟨fun W h => h.holds (l2.trans l3) (by first | exact mp rfl | exact mq rfl), ?_⟩)
  subst hx3
  skip
  refine RAny.tk 6 (bl 8 127) rfl (by kernel_rfl) (by decide) (fun W h => h.holds (l2.trans l3) (by first | exact mp rfl | exact mq rfl)) (Yld.catS rfl rfl rfl (by simp only [repoT, List.length_append, List.length_cons, List.length_nil]; omega)) ?_
  refine RAny.tk 7 (bl 8 255) rfl (by kernel_rfl) (by decide) (fun W h => h.holds (l2.trans l3) (by first | exact mp rfl | exact mq rfl)) (Yld.eval T rfl rfl) ?_
  refine RAny.done _ (by kernel_rfl) ?_
  skip
  refine Run.fin (Run.ret1 (by rw [hCf]; exact func84) results84 rfl (hR _ _ _ ?_))
  exact ⟨rfl, rfl⟩
theorem Digest_Name (I : Imm) (ins : Bool) (r p t s : Tx) (hr : r.length ≤ 1099511627776) (hp : p.length ≤ 1099511627776) (ht : t.length ≤ 1099511627776) (hne : r ≠ []) :
    Pure prog 88 [.agg [.bool ins, str r, str p, str t, str s].toArray] I fun w J => w = str (repoT r (fullP r p) ++ [64] ++ t) := by
  have hfl := fullP_len r p
  refine Spec.enter 10 [(0, _)] func88 rfl ntmps88 (by simp) rfl ?_
  intro C hCf hR hCI
  repeat (first | refine Run.seq ?_ | refine Run.region ?_)
  refine Ops.box rfl (by decide) rfl rfl (fun b => ?_)
  repeat (first | refine Run.seq ?_ | refine Ops.nil ?_ | refine Ops.pure T rfl (by decide) rfl ?_)
  refine Run.regionAny (Holds I [(b, blk [.bool ins, str r, str p, str t, str s] 65)]) (bl 8 0) (by kernel_rfl) (by kernel_rfl) ?_
  refine RAny.tk 0 (bl 8 1) rfl (by kernel_rfl) (by decide) (fun W h => h.holds (Le.refl _) (by first | exact mp rfl | exact mq rfl)) (Yld.eval T rfl rfl) ?_
  first | refine RAny.tk 1 (bl 8 3) rfl (by kernel_rfl) (by decide) (fun W h => h.holds (Le.refl _) (by first | exact mp rfl | exact mq rfl)) (Yld.loadN 0 T rfl rfl rfl rfl rfl rfl rfl) ?_ | refine RAny.tk 1 (bl 8 3) rfl (by kernel_rfl) (by decide) (fun W h => h.holds (Le.refl _) (by first | exact mp rfl | exact mq rfl)) (Yld.loadN 1 T rfl rfl rfl rfl rfl rfl rfl) ?_ | refine RAny.tk 1 (bl 8 3) rfl (by kernel_rfl) (by decide) (fun W h => h.holds (Le.refl _) (by first | exact mp rfl | exact mq rfl)) (Yld.loadN 2 T rfl rfl rfl rfl rfl rfl rfl) ?_
  first | refine RAny.tk 4 (bl 8 19) rfl (by kernel_rfl) (by decide) (fun W h => h.holds (Le.refl _) (by first | exact mp rfl | exact mq rfl)) (Yld.loadN 0 T rfl rfl rfl rfl rfl rfl rfl) ?_ | refine RAny.tk 4 (bl 8 19) rfl (by kernel_rfl) (by decide) (fun W h => h.holds (Le.refl _) (by first | exact mp rfl | exact mq rfl)) (Yld.loadN 1 T rfl rfl rfl rfl rfl rfl rfl) ?_ | refine RAny.tk 4 (bl 8 19) rfl (by kernel_rfl) (by decide) (fun W h => h.holds (Le.refl _) (by first | exact mp rfl | exact mq rfl)) (Yld.loadN 2 T rfl rfl rfl rfl rfl rfl rfl) ?_
  refine RAny.on 2 (bl 8 23) rfl (by kernel_rfl) rfl (by decide) (Eff.call (Repository_Name I ins r p hr hp hne) call73 rfl fun x2 J2 l2 hx2 => ⟨fun W h => h.holds l2 (by first | exact mp rfl | exact mq rfl), ?_⟩)
  subst hx2
  skip
  refine RAny.tk 3 (bl 8 31) rfl (by kernel_rfl) (by decide) (fun W h => h.holds l2 (by first | exact mp rfl | exact mq rfl)) (Yld.catS rfl rfl rfl (by simp only [repoT, List.length_append, List.length_cons, List.length_nil]; omega)) ?_
  refine RAny.on 5 (bl 8 63) rfl (by kernel_rfl) rfl (by decide) (Eff.call (Digest_DigestStr J2 ins r p t s) call87 rfl fun x3 J3 l3 hx3 => ⟨fun W h => h.holds (l2.trans l3) (by first | exact mp rfl | exact mq rfl), ?_⟩)
  subst hx3
  skip
  refine RAny.tk 6 (bl 8 127) rfl (by kernel_rfl) (by decide) (fun W h => h.holds (l2.trans l3) (by first | exact mp rfl | exact mq rfl)) (Yld.catS rfl rfl rfl (by simp only [repoT, List.length_append, List.length_cons, List.length_nil]; omega)) ?_
  refine RAny.tk 7 (bl 8 255) rfl (by kernel_rfl) (by decide) (fun W h => h.holds (l2.trans l3) (by first | exact mp rfl | exact mq rfl)) (Yld.eval T rfl rfl) ?_
  refine RAny.done _ (by kernel_rfl) ?_
  skip
  refine Run.fin (Run.ret1 (by rw [hCf]; exact func88) results88 rfl (hR _ _ _ ?_))
  exact ⟨rfl, rfl⟩
theorem Tag_Scope (I : Imm) (ins : Bool) (r p t s : Tx) (hp : p.length ≤ 1099511627776) : Pure prog 85 [.agg [.bool ins, str r, str p, str t, str s].toArray, str [112, 117, 108, 108]] I fun w J => w = str (scopeT (fullP r p)) := by
  refine Spec.enter 9 [(0, _), (1, _)] func85 rfl ntmps85 (by simp) rfl ?_
  intro C hCf hR hCI
  repeat (first | refine Run.seq ?_ | refine Run.region ?_)
  refine Ops.box rfl (by decide) rfl rfl (fun b => ?_)
  repeat (first | refine Run.seq ?_ | refine Run.region ?_ | refine Ops.nil ?_ | refine Ops.pure T rfl (by decide) rfl ?_ | refine Ops.loadN 0 rfl (by decide) rfl rfl (T.aggOk rfl) (T.sizeOk rfl) rfl rfl ?_)
  refine Ops.call ((Repository_Scope I ins r p hp)) rfl (by decide) call81 rfl ?_
  rintro _ J l rfl
  repeat (first | refine Ops.nil ?_ | refine Ops.pure T rfl (by decide) rfl ?_)
  refine Run.fin (Run.ret1 (by rw [hCf]; exact func85) results85 rfl (hR _ _ _ ?_))
  exact ⟨rfl, rfl⟩
set_option maxHeartbeats 2000000 in
theorem impl_registryNamed (I : Imm) (ins : Bool) (r : Tx) (hr : r.length ≤ 1099511627776) : Pure prog 34 [.agg [.bool ins, str r].toArray] I fun w J => w = .agg (nmd (ins || pHttp r) 1 r [] [] []).cs.toArray := by
  refine Spec.enter 14 [(0, _)] func34 rfl ntmps34 (by simp) rfl ?_
  intro C hCf hR hCI
  repeat (first | refine Run.seq ?_ | refine Run.region ?_)
  refine Ops.box rfl (by decide) rfl rfl (fun b => ?_)
  refine Ops.alloc rfl (by decide) (T.zeroOk rfl) rfl (fun b2 => ?_)
  repeat (first | refine Run.seq ?_ | refine Ops.nil ?_)
  refine Run.regionAny (Holds I [(b, blk [.bool ins, str r] 47)]) (bl 12 0) (by kernel_rfl) (by kernel_rfl) ?_
  first | refine RAny.tk 0 (bl 12 1) rfl (by kernel_rfl) (by decide) (fun W h => h.holds (Le.refl _) (by first | exact mp rfl | exact mq rfl)) (Yld.loadN 0 T rfl rfl rfl rfl rfl rfl rfl) ?_ | refine RAny.tk 0 (bl 12 1) rfl (by kernel_rfl) (by decide) (fun W h => h.holds (Le.refl _) (by first | exact mp rfl | exact mq rfl)) (Yld.loadN 1 T rfl rfl rfl rfl rfl rfl rfl) ?_ | refine RAny.tk 0 (bl 12 1) rfl (by kernel_rfl) (by decide) (fun W h => h.holds (Le.refl _) (by first | exact mp rfl | exact mq rfl)) (Yld.loadN 2 T rfl rfl rfl rfl rfl rfl rfl) ?_
  first | refine RAny.tk 2 (bl 12 5) rfl (by kernel_rfl) (by decide) (fun W h => h.holds (Le.refl _) (by first | exact mp rfl | exact mq rfl)) (Yld.loadN 0 T rfl rfl rfl rfl rfl rfl rfl) ?_ | refine RAny.tk 2 (bl 12 5) rfl (by kernel_rfl) (by decide) (fun W h => h.holds (Le.refl _) (by first | exact mp rfl | exact mq rfl)) (Yld.loadN 1 T rfl rfl rfl rfl rfl rfl rfl) ?_ | refine RAny.tk 2 (bl 12 5) rfl (by kernel_rfl) (by decide) (fun W h => h.holds (Le.refl _) (by first | exact mp rfl | exact mq rfl)) (Yld.loadN 2 T rfl rfl rfl rfl rfl rfl rfl) ?_
  first | refine RAny.tk 4 (bl 12 21) rfl (by kernel_rfl) (by decide) (fun W h => h.holds (Le.refl _) (by first | exact mp rfl | exact mq rfl)) (Yld.loadN 0 T rfl rfl rfl rfl rfl rfl rfl) ?_ | refine RAny.tk 4 (bl 12 21) rfl (by kernel_rfl) (by decide) (fun W h => h.holds (Le.refl _) (by first | exact mp rfl | exact mq rfl)) (Yld.loadN 1 T rfl rfl rfl rfl rfl rfl rfl) ?_ | refine RAny.tk 4 (bl 12 21) rfl (by kernel_rfl) (by decide) (fun W h => h.holds (Le.refl _) (by first | exact mp rfl | exact mq rfl)) (Yld.loadN 2 T rfl rfl rfl rfl rfl rfl rfl) ?_
  first | refine RAny.tk 6 (bl 12 85) rfl (by kernel_rfl) (by decide) (fun W h => h.holds (Le.refl _) (by first | exact mp rfl | exact mq rfl)) (Yld.loadN 0 T rfl rfl rfl rfl rfl rfl rfl) ?_ | refine RAny.tk 6 (bl 12 85) rfl (by kernel_rfl) (by decide) (fun W h => h.holds (Le.refl _) (by first | exact mp rfl | exact mq rfl)) (Yld.loadN 1 T rfl rfl rfl rfl rfl rfl rfl) ?_ | refine RAny.tk 6 (bl 12 85) rfl (by kernel_rfl) (by decide) (fun W h => h.holds (Le.refl _) (by first | exact mp rfl | exact mq rfl)) (Yld.loadN 2 T rfl rfl rfl rfl rfl rfl rfl) ?_
  first | refine RAny.tk 8 (bl 12 341) rfl (by kernel_rfl) (by decide) (fun W h => h.holds (Le.refl _) (by first | exact mp rfl | exact mq rfl)) (Yld.loadN 0 T rfl rfl rfl rfl rfl rfl rfl) ?_ | refine RAny.tk 8 (bl 12 341) rfl (by kernel_rfl) (by decide) (fun W h => h.holds (Le.refl _) (by first | exact mp rfl | exact mq rfl)) (Yld.loadN 1 T rfl rfl rfl rfl rfl rfl rfl) ?_ | refine RAny.tk 8 (bl 12 341) rfl (by kernel_rfl) (by decide) (fun W h => h.holds (Le.refl _) (by first | exact mp rfl | exact mq rfl)) (Yld.loadN 2 T rfl rfl rfl rfl rfl rfl rfl) ?_
  refine RAny.on 1 (bl 12 343) rfl (by kernel_rfl) rfl (by decide) (Eff.call (Registry_RegistryStr I ins r) call76 rfl fun x2 J2 l2 hx2 => ⟨fun W h => h.holds l2 (by first | exact mp rfl | exact mq rfl), ?_⟩)
  subst hx2
  refine RAny.on 3 (bl 12 351) rfl (by kernel_rfl) rfl (by decide) (Eff.call (Registry_Name J2 ins r) call77 rfl fun x3 J3 k3 hx3 => ⟨fun W h => h.holds (l2.trans k3) (by first | exact mp rfl | exact mq rfl), ?_⟩)
  subst hx3
  have l3 := l2.trans k3
  refine RAny.on 5 (bl 12 383) rfl (by kernel_rfl) rfl (by decide) (Eff.call (Registry_String J3 ins r) call60 rfl fun x4 J4 k4 hx4 => ⟨fun W h => h.holds (l3.trans k4) (by first | exact mp rfl | exact mq rfl), ?_⟩)
  subst hx4
  have l4 := l3.trans k4
  refine RAny.on 7 (bl 12 511) rfl (by kernel_rfl) rfl (by decide) (Eff.call (Registry_Scheme J4 ins r hr) call78 rfl fun x5 J5 k5 hx5 => ⟨fun W h => h.holds (l4.trans k5) (by first | exact mp rfl | exact mq rfl), ?_⟩)
  subst hx5
  have l5 := l4.trans k5
  refine RAny.on 9 (bl 12 1023) rfl (by kernel_rfl) rfl (by decide) (Eff.call (Registry_Scope J5 ins r [112, 117, 108, 108]) call79 rfl fun x6 J6 k6 hx6 => ⟨fun W h => h.holds (l5.trans k6) (by first | exact mp rfl | exact mq rfl), ?_⟩)
  subst hx6
  have l6 := l5.trans k6
  skip
  refine RAny.tk 10 (bl 12 2047) rfl (by kernel_rfl) (by decide) (fun W h => h.holds l6 (by first | exact mp rfl | exact mq rfl)) (Yld.buildL bd26 rfl rfl rfl) ?_
  refine RAny.os 11 (bl 12 4095) rfl (by kernel_rfl) rfl (Eff.store 0 rfl rfl rfl rfl (T.sizeOk rfl) rfl (Nat.le_of_ble_eq_true rfl) rfl rfl ⟨fun W h => h.holds l6 (by first | exact mp rfl | exact mq rfl), ?_⟩)
  refine RAny.done _ (by kernel_rfl) ?_
  skip
  refine Run.retC T 0 (by rw [hCf]; exact func34) results34 rfl rfl rfl rfl rfl rfl (hR _ _ _ ?_)
  exact ⟨rfl, rfl⟩
set_option maxHeartbeats 2000000 in
theorem impl_repositoryNamed (I : Imm) (ins : Bool) (r p : Tx) (hr : r.length ≤ 1099511627776) (hp : p.length ≤ 1099511627776) (hne : r ≠ []) : Pure prog 37 [.agg [.bool ins, str r, str p].toArray] I fun w J => w = .agg (nmd (ins || pHttp r) 2 r (fullP r p) [] []).cs.toArray := by
  refine Spec.enter 18 [(0, _)] func37 rfl ntmps37 (by simp) rfl ?_
  intro C hCf hR hCI
  repeat (first | refine Run.seq ?_ | refine Run.region ?_)
  refine Ops.box rfl (by decide) rfl rfl (fun b => ?_)
  refine Ops.alloc rfl (by decide) (T.zeroOk rfl) rfl (fun b2 => ?_)
  repeat (first | refine Run.seq ?_ | refine Ops.nil ?_)
  refine Run.regionAny (Holds I [(b, blk [.bool ins, str r, str p] 57)]) (bl 16 0) (by kernel_rfl) (by kernel_rfl) ?_
  refine RAny.tk 0 (bl 16 1) rfl (by kernel_rfl) (by decide) (fun W h => h.holds (Le.refl _) (by first | exact mp rfl | exact mq rfl)) (Yld.eval T rfl rfl) ?_
  first | refine RAny.tk 1 (bl 16 3) rfl (by kernel_rfl) (by decide) (fun W h => h.holds (Le.refl _) (by first | exact mp rfl | exact mq rfl)) (Yld.loadN 0 T rfl rfl rfl rfl rfl rfl rfl) ?_ | refine RAny.tk 1 (bl 16 3) rfl (by kernel_rfl) (by decide) (fun W h => h.holds (Le.refl _) (by first | exact mp rfl | exact mq rfl)) (Yld.loadN 1 T rfl rfl rfl rfl rfl rfl rfl) ?_ | refine RAny.tk 1 (bl 16 3) rfl (by kernel_rfl) (by decide) (fun W h => h.holds (Le.refl _) (by first | exact mp rfl | exact mq rfl)) (Yld.loadN 2 T rfl rfl rfl rfl rfl rfl rfl) ?_
  first | refine RAny.tk 3 (bl 16 11) rfl (by kernel_rfl) (by decide) (fun W h => h.holds (Le.refl _) (by first | exact mp rfl | exact mq rfl)) (Yld.loadN 0 T rfl rfl rfl rfl rfl rfl rfl) ?_ | refine RAny.tk 3 (bl 16 11) rfl (by kernel_rfl) (by decide) (fun W h => h.holds (Le.refl _) (by first | exact mp rfl | exact mq rfl)) (Yld.loadN 1 T rfl rfl rfl rfl rfl rfl rfl) ?_ | refine RAny.tk 3 (bl 16 11) rfl (by kernel_rfl) (by decide) (fun W h => h.holds (Le.refl _) (by first | exact mp rfl | exact mq rfl)) (Yld.loadN 2 T rfl rfl rfl rfl rfl rfl rfl) ?_
  first | refine RAny.tk 5 (bl 16 43) rfl (by kernel_rfl) (by decide) (fun W h => h.holds (Le.refl _) (by first | exact mp rfl | exact mq rfl)) (Yld.loadN 0 T rfl rfl rfl rfl rfl rfl rfl) ?_ | refine RAny.tk 5 (bl 16 43) rfl (by kernel_rfl) (by decide) (fun W h => h.holds (Le.refl _) (by first | exact mp rfl | exact mq rfl)) (Yld.loadN 1 T rfl rfl rfl rfl rfl rfl rfl) ?_ | refine RAny.tk 5 (bl 16 43) rfl (by kernel_rfl) (by decide) (fun W h => h.holds (Le.refl _) (by first | exact mp rfl | exact mq rfl)) (Yld.loadN 2 T rfl rfl rfl rfl rfl rfl rfl) ?_
  first | refine RAny.tk 7 (bl 16 171) rfl (by kernel_rfl) (by decide) (fun W h => h.holds (Le.refl _) (by first | exact mp rfl | exact mq rfl)) (Yld.loadN 0 T rfl rfl rfl rfl rfl rfl rfl) ?_ | refine RAny.tk 7 (bl 16 171) rfl (by kernel_rfl) (by decide) (fun W h => h.holds (Le.refl _) (by first | exact mp rfl | exact mq rfl)) (Yld.loadN 1 T rfl rfl rfl rfl rfl rfl rfl) ?_ | refine RAny.tk 7 (bl 16 171) rfl (by kernel_rfl) (by decide) (fun W h => h.holds (Le.refl _) (by first | exact mp rfl | exact mq rfl)) (Yld.loadN 2 T rfl rfl rfl rfl rfl rfl rfl) ?_
  refine RAny.tk 9 (bl 16 683) rfl (by kernel_rfl) (by decide) (fun W h => h.holds (Le.refl _) (by first | exact mp rfl | exact mq rfl)) (Yld.eval T rfl rfl) ?_
  first | refine RAny.tk 10 (bl 16 1707) rfl (by kernel_rfl) (by decide) (fun W h => h.holds (Le.refl _) (by first | exact mp rfl | exact mq rfl)) (Yld.loadN 0 T rfl rfl rfl rfl rfl rfl rfl) ?_ | refine RAny.tk 10 (bl 16 1707) rfl (by kernel_rfl) (by decide) (fun W h => h.holds (Le.refl _) (by first | exact mp rfl | exact mq rfl)) (Yld.loadN 1 T rfl rfl rfl rfl rfl rfl rfl) ?_ | refine RAny.tk 10 (bl 16 1707) rfl (by kernel_rfl) (by decide) (fun W h => h.holds (Le.refl _) (by first | exact mp rfl | exact mq rfl)) (Yld.loadN 2 T rfl rfl rfl rfl rfl rfl rfl) ?_
  first | refine RAny.tk 12 (bl 16 5803) rfl (by kernel_rfl) (by decide) (fun W h => h.holds (Le.refl _) (by first | exact mp rfl | exact mq rfl)) (Yld.loadN 0 T rfl rfl rfl rfl rfl rfl rfl) ?_ | refine RAny.tk 12 (bl 16 5803) rfl (by kernel_rfl) (by decide) (fun W h => h.holds (Le.refl _) (by first | exact mp rfl | exact mq rfl)) (Yld.loadN 1 T rfl rfl rfl rfl rfl rfl rfl) ?_ | refine RAny.tk 12 (bl 16 5803) rfl (by kernel_rfl) (by decide) (fun W h => h.holds (Le.refl _) (by first | exact mp rfl | exact mq rfl)) (Yld.loadN 2 T rfl rfl rfl rfl rfl rfl rfl) ?_
  refine RAny.on 2 (bl 16 5807) rfl (by kernel_rfl) rfl (by decide) (Eff.call (Registry_RegistryStr I ins r) call76 rfl fun x2 J2 l2 hx2 => ⟨fun W h => h.holds l2 (by first | exact mp rfl | exact mq rfl), ?_⟩)
  subst hx2
  refine RAny.on 4 (bl 16 5823) rfl (by kernel_rfl) rfl (by decide) (Eff.call (Repository_RepositoryStr J2 ins r p hp) call80 rfl fun x3 J3 k3 hx3 => ⟨fun W h => h.holds (l2.trans k3) (by first | exact mp rfl | exact mq rfl), ?_⟩)
  subst hx3
  have l3 := l2.trans k3
  refine RAny.on 6 (bl 16 5887) rfl (by kernel_rfl) rfl (by decide) (Eff.call (Repository_Name J3 ins r p hr hp hne) call73 rfl fun x4 J4 k4 hx4 => ⟨fun W h => h.holds (l3.trans k4) (by first | exact mp rfl | exact mq rfl), ?_⟩)
  subst hx4
  have l4 := l3.trans k4
  refine RAny.on 8 (bl 16 6143) rfl (by kernel_rfl) rfl (by decide) (Eff.call (Repository_String J4 ins r p hr hp hne) call66 rfl fun x5 J5 k5 hx5 => ⟨fun W h => h.holds (l4.trans k5) (by first | exact mp rfl | exact mq rfl), ?_⟩)
  subst hx5
  have l5 := l4.trans k5
  refine RAny.on 11 (bl 16 8191) rfl (by kernel_rfl) rfl (by decide) (Eff.call (Registry_Scheme J5 ins r hr) call78 rfl fun x6 J6 k6 hx6 => ⟨fun W h => h.holds (l5.trans k6) (by first | exact mp rfl | exact mq rfl), ?_⟩)
  subst hx6
  have l6 := l5.trans k6
  refine RAny.on 13 (bl 16 16383) rfl (by kernel_rfl) rfl (by decide) (Eff.call (Repository_Scope J6 ins r p hp) call81 rfl fun x7 J7 k7 hx7 => ⟨fun W h => h.holds (l6.trans k7) (by first | exact mp rfl | exact mq rfl), ?_⟩)
  subst hx7
  have l7 := l6.trans k7
  skip
  refine RAny.tk 14 (bl 16 32767) rfl (by kernel_rfl) (by decide) (fun W h => h.holds l7 (by first | exact mp rfl | exact mq rfl)) (Yld.buildL bd26 rfl rfl rfl) ?_
  refine RAny.os 15 (bl 16 65535) rfl (by kernel_rfl) rfl (Eff.store 0 rfl rfl rfl rfl (T.sizeOk rfl) rfl (Nat.le_of_ble_eq_true rfl) rfl rfl ⟨fun W h => h.holds l7 (by first | exact mp rfl | exact mq rfl), ?_⟩)
  refine RAny.done _ (by kernel_rfl) ?_
  skip
  refine Run.retC T 0 (by rw [hCf]; exact func37) results37 rfl rfl rfl rfl rfl rfl (hR _ _ _ ?_)
  exact ⟨rfl, rfl⟩
end Go.V
namespace Go.V
open Go.Proofs.Tryz
open Go.RowKit
set_option linter.unusedVariables false
set_option linter.unusedSimpArgs false
set_option maxRecDepth 10000
attribute [local irreducible] Run Ops
theorem Registry_MarshalText (I : Imm) (ins : Bool) (r : Tx) : Pure prog 20 [.agg [.bool ins, str r].toArray] I fun w J => ∃ v, w = .tuple #[v, .nilIface] ∧ Sl tU8 J v r := by
  refine Spec.enter 7 [(0, _)] func20 rfl ntmps20 (by simp) rfl ?_
  intro C hCf hR hCI
  repeat (first | refine Run.seq ?_ | refine Run.region ?_)
  refine Ops.box rfl (by decide) rfl rfl (fun b => ?_)
  repeat (first | refine Run.seq ?_ | refine Run.region ?_ | refine Ops.nil ?_ | refine Ops.pure T rfl (by decide) rfl ?_ | refine Ops.loadN 0 rfl (by decide) rfl rfl (T.aggOk rfl) (T.sizeOk rfl) rfl rfl ?_)
  refine Ops.call ((Registry_String I ins r)) rfl (by decide) call60 rfl ?_
  rintro _ J1 l1 rfl
  skip
  refine Ops.convBytes T rfl (by decide) rfl rfl rfl rfl ?_
  intro v J2 hle2 hv
  repeat (first | refine Ops.nil ?_ | refine Ops.pure T rfl (by decide) rfl ?_)
  refine Run.fin (Run.ret2 (by rw [hCf]; exact func20) results20 rfl rfl (hR _ _ _ ?_))
  exact ⟨rfl, v, rfl, hv⟩
theorem Registry_MarshalJSON (I : Imm) (ins : Bool) (r : Tx) (hpl : plT r) (hsl : (r : Tx).length ≤ 1099511627000) : Pure prog 21 [.agg [.bool ins, str r].toArray] I fun w J => ∃ v, w = .tuple #[v, .nilIface] ∧ Sl tU8 J v ([34] ++ r ++ [34]) := by
  refine Spec.enter 7 [(0, _)] func21 rfl ntmps21 (by simp) rfl ?_
  intro C hCf hR hCI
  repeat (first | refine Run.seq ?_ | refine Run.region ?_)
  refine Ops.box rfl (by decide) rfl rfl (fun b => ?_)
  repeat (first | refine Run.seq ?_ | refine Run.region ?_ | refine Ops.nil ?_ | refine Ops.pure T rfl (by decide) rfl ?_ | refine Ops.loadN 0 rfl (by decide) rfl rfl (T.aggOk rfl) (T.sizeOk rfl) rfl rfl ?_)
  refine Ops.call ((Registry_String I ins r)) rfl (by decide) call60 rfl ?_
  rintro _ J1 l1 rfl
  refine Ops.call ((zz_Quoted J1 _ hsl hpl)) rfl (by decide) call61 rfl ?_
  rintro v J2 l2 hv
  repeat (first | refine Ops.nil ?_ | refine Ops.pure T rfl (by decide) rfl ?_)
  refine Run.fin (Run.ret2 (by rw [hCf]; exact func21) results21 rfl rfl (hR _ _ _ ?_))
  exact ⟨rfl, v, rfl, hv⟩
theorem Repository_MarshalText (I : Imm) (ins : Bool) (r p : Tx) (hr : r.length ≤ 1099511627776) (hp : p.length ≤ 1099511627776) (hne : r ≠ []) : Pure prog 24 [.agg [.bool ins, str r, str p].toArray] I fun w J => ∃ v, w = .tuple #[v, .nilIface] ∧ Sl tU8 J v (repoT r (fullP r p)) := by
  refine Spec.enter 7 [(0, _)] func24 rfl ntmps24 (by simp) rfl ?_
  intro C hCf hR hCI
  repeat (first | refine Run.seq ?_ | refine Run.region ?_)
  refine Ops.box rfl (by decide) rfl rfl (fun b => ?_)
  repeat (first | refine Run.seq ?_ | refine Run.region ?_ | refine Ops.nil ?_ | refine Ops.pure T rfl (by decide) rfl ?_ | refine Ops.loadN 0 rfl (by decide) rfl rfl (T.aggOk rfl) (T.sizeOk rfl) rfl rfl ?_)
  refine Ops.call ((Repository_String I ins r p hr hp hne)) rfl (by decide) call66 rfl ?_
  rintro _ J1 l1 rfl
  skip
  refine Ops.convBytes T rfl (by decide) rfl rfl rfl rfl ?_
  intro v J2 hle2 hv
  repeat (first | refine Ops.nil ?_ | refine Ops.pure T rfl (by decide) rfl ?_)
  refine Run.fin (Run.ret2 (by rw [hCf]; exact func24) results24 rfl rfl (hR _ _ _ ?_))
  exact ⟨rfl, v, rfl, hv⟩
theorem Repository_MarshalJSON (I : Imm) (ins : Bool) (r p : Tx) (hr : r.length ≤ 1099511627776) (hp : p.length ≤ 1099511627776) (hne : r ≠ []) (hpl : plT (repoT r (fullP r p))) (hsl : ((repoT r (fullP r p)) : Tx).length ≤ 1099511627000) : Pure prog 25 [.agg [.bool ins, str r, str p].toArray] I fun w J => ∃ v, w = .tuple #[v, .nilIface] ∧ Sl tU8 J v ([34] ++ (repoT r (fullP r p)) ++ [34]) := by
  refine Spec.enter 7 [(0, _)] func25 rfl ntmps25 (by simp) rfl ?_
  intro C hCf hR hCI
  repeat (first | refine Run.seq ?_ | refine Run.region ?_)
  refine Ops.box rfl (by decide) rfl rfl (fun b => ?_)
  repeat (first | refine Run.seq ?_ | refine Run.region ?_ | refine Ops.nil ?_ | refine Ops.pure T rfl (by decide) rfl ?_ | refine Ops.loadN 0 rfl (by decide) rfl rfl (T.aggOk rfl) (T.sizeOk rfl) rfl rfl ?_)
  refine Ops.call ((Repository_String I ins r p hr hp hne)) rfl (by decide) call66 rfl ?_
  rintro _ J1 l1 rfl
  refine Ops.call ((zz_Quoted J1 _ hsl hpl)) rfl (by decide) call61 rfl ?_
  rintro v J2 l2 hv
  repeat (first | refine Ops.nil ?_ | refine Ops.pure T rfl (by decide) rfl ?_)
  refine Run.fin (Run.ret2 (by rw [hCf]; exact func25) results25 rfl rfl (hR _ _ _ ?_))
  exact ⟨rfl, v, rfl, hv⟩
theorem Tag_MarshalText (I : Imm) (ins : Bool) (r p t s : Tx) : Pure prog 27 [.agg [.bool ins, str r, str p, str t, str s].toArray] I fun w J => ∃ v, w = .tuple #[v, .nilIface] ∧ Sl tU8 J v s := by
  refine Spec.enter 7 [(0, _)] func27 rfl ntmps27 (by simp) rfl ?_
  intro C hCf hR hCI
  repeat (first | refine Run.seq ?_ | refine Run.region ?_)
  refine Ops.box rfl (by decide) rfl rfl (fun b => ?_)
  repeat (first | refine Run.seq ?_ | refine Run.region ?_ | refine Ops.nil ?_ | refine Ops.pure T rfl (by decide) rfl ?_ | refine Ops.loadN 0 rfl (by decide) rfl rfl (T.aggOk rfl) (T.sizeOk rfl) rfl rfl ?_)
  refine Ops.call ((Tag_String I ins r p t s)) rfl (by decide) call71 rfl ?_
  rintro _ J1 l1 rfl
  skip
  refine Ops.convBytes T rfl (by decide) rfl rfl rfl rfl ?_
  intro v J2 hle2 hv
  repeat (first | refine Ops.nil ?_ | refine Ops.pure T rfl (by decide) rfl ?_)
  refine Run.fin (Run.ret2 (by rw [hCf]; exact func27) results27 rfl rfl (hR _ _ _ ?_))
  exact ⟨rfl, v, rfl, hv⟩
theorem Tag_MarshalJSON (I : Imm) (ins : Bool) (r p t s : Tx) (hpl : plT s) (hsl : (s : Tx).length ≤ 1099511627000) : Pure prog 28 [.agg [.bool ins, str r, str p, str t, str s].toArray] I fun w J => ∃ v, w = .tuple #[v, .nilIface] ∧ Sl tU8 J v ([34] ++ s ++ [34]) := by
  refine Spec.enter 7 [(0, _)] func28 rfl ntmps28 (by simp) rfl ?_
  intro C hCf hR hCI
  repeat (first | refine Run.seq ?_ | refine Run.region ?_)
  refine Ops.box rfl (by decide) rfl rfl (fun b => ?_)
  repeat (first | refine Run.seq ?_ | refine Run.region ?_ | refine Ops.nil ?_ | refine Ops.pure T rfl (by decide) rfl ?_ | refine Ops.loadN 0 rfl (by decide) rfl rfl (T.aggOk rfl) (T.sizeOk rfl) rfl rfl ?_)
  refine Ops.call ((Tag_String I ins r p t s)) rfl (by decide) call71 rfl ?_
  rintro _ J1 l1 rfl
  refine Ops.call ((zz_Quoted J1 _ hsl hpl)) rfl (by decide) call61 rfl ?_
  rintro v J2 l2 hv
  repeat (first | refine Ops.nil ?_ | refine Ops.pure T rfl (by decide) rfl ?_)
  refine Run.fin (Run.ret2 (by rw [hCf]; exact func28) results28 rfl rfl (hR _ _ _ ?_))
  exact ⟨rfl, v, rfl, hv⟩
theorem Digest_MarshalText (I : Imm) (ins : Bool) (r p t s : Tx) : Pure prog 30 [.agg [.bool ins, str r, str p, str t, str s].toArray] I fun w J => ∃ v, w = .tuple #[v, .nilIface] ∧ Sl tU8 J v s := by
  refine Spec.enter 7 [(0, _)] func30 rfl ntmps30 (by simp) rfl ?_
  intro C hCf hR hCI
  repeat (first | refine Run.seq ?_ | refine Run.region ?_)
  refine Ops.box rfl (by decide) rfl rfl (fun b => ?_)
  repeat (first | refine Run.seq ?_ | refine Run.region ?_ | refine Ops.nil ?_ | refine Ops.pure T rfl (by decide) rfl ?_ | refine Ops.loadN 0 rfl (by decide) rfl rfl (T.aggOk rfl) (T.sizeOk rfl) rfl rfl ?_)
  refine Ops.call ((Digest_String I ins r p t s)) rfl (by decide) call74 rfl ?_
  rintro _ J1 l1 rfl
  skip
  refine Ops.convBytes T rfl (by decide) rfl rfl rfl rfl ?_
  intro v J2 hle2 hv
  repeat (first | refine Ops.nil ?_ | refine Ops.pure T rfl (by decide) rfl ?_)
  refine Run.fin (Run.ret2 (by rw [hCf]; exact func30) results30 rfl rfl (hR _ _ _ ?_))
  exact ⟨rfl, v, rfl, hv⟩
theorem Digest_MarshalJSON (I : Imm) (ins : Bool) (r p t s : Tx) (hpl : plT s) (hsl : (s : Tx).length ≤ 1099511627000) : Pure prog 31 [.agg [.bool ins, str r, str p, str t, str s].toArray] I fun w J => ∃ v, w = .tuple #[v, .nilIface] ∧ Sl tU8 J v ([34] ++ s ++ [34]) := by
  refine Spec.enter 7 [(0, _)] func31 rfl ntmps31 (by simp) rfl ?_
  intro C hCf hR hCI
  repeat (first | refine Run.seq ?_ | refine Run.region ?_)
  refine Ops.box rfl (by decide) rfl rfl (fun b => ?_)
  repeat (first | refine Run.seq ?_ | refine Run.region ?_ | refine Ops.nil ?_ | refine Ops.pure T rfl (by decide) rfl ?_ | refine Ops.loadN 0 rfl (by decide) rfl rfl (T.aggOk rfl) (T.sizeOk rfl) rfl rfl ?_)
  refine Ops.call ((Digest_String I ins r p t s)) rfl (by decide) call74 rfl ?_
  rintro _ J1 l1 rfl
  refine Ops.call ((zz_Quoted J1 _ hsl hpl)) rfl (by decide) call61 rfl ?_
  rintro v J2 l2 hv
  repeat (first | refine Ops.nil ?_ | refine Ops.pure T rfl (by decide) rfl ?_)
  refine Run.fin (Run.ret2 (by rw [hCf]; exact func31) results31 rfl rfl (hR _ _ _ ?_))
  exact ⟨rfl, v, rfl, hv⟩
def RegIs (s r : Tx) (cs : List Value) : Prop := cs = [.bool false, str r]
def RepoIs (s r p : Tx) (cs : List Value) : Prop := ∃ q, cs = [.bool false, str r, str q] ∧ fullP r q = p ∧ r ≠ [] ∧ r.length ≤ s.length + 30 ∧ q.length ≤ s.length
def TagIs (s r p t : Tx) (cs : List Value) : Prop := ∃ q, cs = [.bool false, str r, str q, str t, str s] ∧ fullP r q = p ∧ r ≠ [] ∧ r.length ≤ 16 * s.length + 3000 ∧ q.length ≤ 16 * s.length + 3000 ∧ t.length ≤ 16 * s.length + 3000
theorem Registry_UnmarshalText (I : Imm) (s : Tx) (v : Value) (hv : Sl tU8 I v s) (hs : s.length ≤ 1048576) (x : Nat) (b0 : Bool) (r0 : Tx) :
    Spec prog 32 [.pointer (some ⟨x, 0, none⟩), v] I [(x, blk [.bool b0, str r0] 47)] fun w J M => ∃ cs, M = [(x, blk cs 47)] ∧ (∃ b r', cs = [.bool b, str r']) ∧ ∀ r, sReg false [] s = (r, true, false) → w = .nilIface ∧ RegIs s r cs := by
  refine Spec.enter 19 [(0, _), (1, _)] func32 rfl ntmps32 (by simp) rfl ?_
  intro C hCf hR hCI
  repeat (first | refine Run.seq ?_ | refine Run.region ?_ | refine Ops.nil ?_ | refine Ops.pure T rfl (by decide) rfl ?_)
  refine Ops.eff rfl (dOk (by decide)) (Eff.yv (Yv.bytesSl T hv rfl rfl rfl rfl) ?_)
  skip
  refine Ops.call ((name_NewRegistry _ s _ noO (OptsAre.none _) (by omega))) rfl (by decide) call19 rfl ?_
  rintro w J2 l2 ⟨a, hres, hans, hlen⟩
  cases a with
  | none =>
    obtain ⟨b, hres2⟩ : ∃ b, w = _ := hres
    subst hres2
    unfold errV
    repeat (first | refine Ops.pure T rfl (by decide) rfl ?_)
    refine Ops.alloc rfl (by decide) (T.zeroOk rfl) rfl (fun b7 => ?_)
    repeat (first | refine Run.seq ?_ | refine Run.region ?_ | refine Ops.nil ?_ | refine Run.cond_t rfl ?_ | refine Ops.neqNil T rfl (by decide) rfl rfl rfl rfl rfl ?_ | refine Ops.pure T rfl (by decide) rfl ?_ | refine Ops.store 0 rfl rfl rfl rfl rfl (T.sizeOk rfl) rfl (Nat.le_of_ble_eq_true rfl) rfl rfl ?_)
    refine Run.dropL (L' := [(x, _)]) (List.sublist_cons_self _ _) ?_
    refine Run.ret1 (by rw [hCf]; exact func32) results32 rfl (hR _ _ _ ?_)
    exact ⟨_, rfl, ⟨_, _, rfl⟩, fun r hp => absurd (hans _ _ hp) (by simp)⟩
  | some y =>
    have hres2 : w = _ := hres
    subst hres2
    repeat (first | refine Ops.pure T rfl (by decide) rfl ?_)
    refine Ops.alloc rfl (by decide) (T.zeroOk rfl) rfl (fun b7 => ?_)
    repeat (first | refine Run.seq ?_ | refine Run.region ?_ | refine Ops.nil ?_ | refine Run.skip ?_ | refine Run.cond_f rfl ?_ | refine Ops.neqNil T rfl (by decide) rfl rfl rfl rfl rfl ?_ | refine Ops.pure T rfl (by decide) rfl ?_ | refine Ops.loadN 0 rfl (by decide) rfl rfl (T.aggOk rfl) (T.sizeOk rfl) rfl rfl ?_ | refine Ops.store 0 rfl rfl rfl rfl rfl (T.sizeOk rfl) rfl (Nat.le_of_ble_eq_true rfl) rfl rfl ?_ | refine Ops.store 1 rfl rfl rfl rfl rfl (T.sizeOk rfl) rfl (Nat.le_of_ble_eq_true rfl) rfl rfl ?_)
    refine Run.dropL (L' := [(x, _)]) (List.sublist_cons_self _ _) ?_
    refine Run.ret1 (by rw [hCf]; exact func32) results32 rfl (hR _ _ _ ?_)
    exact ⟨_, rfl, ⟨_, _, rfl⟩, fun r hp => ⟨rfl, by obtain rfl : y = r := Option.some.inj (hans _ _ hp); rfl⟩⟩
theorem Repository_UnmarshalText (I : Imm) (s : Tx) (v : Value) (hv : Sl tU8 I v s) (hs : s.length ≤ 1048576) (x : Nat) (b0 : Bool) (r0 p0 : Tx) :
    Spec prog 35 [.pointer (some ⟨x, 0, none⟩), v] I [(x, blk [.bool b0, str r0, str p0] 57)] fun w J M => ∃ cs, M = [(x, blk cs 57)] ∧ (∃ b r' p', cs = [.bool b, str r', str p']) ∧ ∀ r p, sRepo false [] s = (r, p, true, false) → w = .nilIface ∧ RepoIs s r p cs := by
  refine Spec.enter 19 [(0, _), (1, _)] func35 rfl ntmps35 (by simp) rfl ?_
  intro C hCf hR hCI
  repeat (first | refine Run.seq ?_ | refine Run.region ?_ | refine Ops.nil ?_ | refine Ops.pure T rfl (by decide) rfl ?_)
  refine Ops.eff rfl (dOk (by decide)) (Eff.yv (Yv.bytesSl T hv rfl rfl rfl rfl) ?_)
  skip
  refine Ops.call ((name_NewRepository _ s _ noO (OptsAre.none _) (by omega))) rfl (by decide) call23 rfl ?_
  rintro w J2 l2 ⟨a, hres, hans, hlen⟩
  cases a with
  | none =>
    obtain ⟨b, hres2⟩ : ∃ b, w = _ := hres
    subst hres2
    unfold errV
    repeat (first | refine Ops.pure T rfl (by decide) rfl ?_)
    refine Ops.alloc rfl (by decide) (T.zeroOk rfl) rfl (fun b7 => ?_)
    repeat (first | refine Run.seq ?_ | refine Run.region ?_ | refine Ops.nil ?_ | refine Run.cond_t rfl ?_ | refine Ops.neqNil T rfl (by decide) rfl rfl rfl rfl rfl ?_ | refine Ops.pure T rfl (by decide) rfl ?_ | refine Ops.store 0 rfl rfl rfl rfl rfl (T.sizeOk rfl) rfl (Nat.le_of_ble_eq_true rfl) rfl rfl ?_)
    refine Run.dropL (L' := [(x, _)]) (List.sublist_cons_self _ _) ?_
    refine Run.ret1 (by rw [hCf]; exact func35) results35 rfl (hR _ _ _ ?_)
    exact ⟨_, rfl, ⟨_, _, _, rfl⟩, fun r p hp => absurd (show true = false from hans _ _ _ hp) (by decide)⟩
  | some y =>
    have hres2 : w = _ := hres
    subst hres2
    repeat (first | refine Ops.pure T rfl (by decide) rfl ?_)
    refine Ops.alloc rfl (by decide) (T.zeroOk rfl) rfl (fun b7 => ?_)
    repeat (first | refine Run.seq ?_ | refine Run.region ?_ | refine Ops.nil ?_ | refine Run.skip ?_ | refine Run.cond_f rfl ?_ | refine Ops.neqNil T rfl (by decide) rfl rfl rfl rfl rfl ?_ | refine Ops.pure T rfl (by decide) rfl ?_ | refine Ops.loadN 0 rfl (by decide) rfl rfl (T.aggOk rfl) (T.sizeOk rfl) rfl rfl ?_ | refine Ops.store 0 rfl rfl rfl rfl rfl (T.sizeOk rfl) rfl (Nat.le_of_ble_eq_true rfl) rfl rfl ?_ | refine Ops.store 1 rfl rfl rfl rfl rfl (T.sizeOk rfl) rfl (Nat.le_of_ble_eq_true rfl) rfl rfl ?_)
    refine Run.dropL (L' := [(x, _)]) (List.sublist_cons_self _ _) ?_
    refine Run.ret1 (by rw [hCf]; exact func35) results35 rfl (hR _ _ _ ?_)
    refine ⟨_, rfl, ⟨_, _, _, rfl⟩, fun r p hp => ⟨rfl, ?_⟩⟩
    obtain ⟨g1, g2, g3⟩ := hlen y rfl
    obtain ⟨_, h3, h4⟩ := hans _ _ _ hp
    subst h3
    exact ⟨y.2, rfl, h4, g1, by simpa using g2, g3⟩
theorem Tag_UnmarshalText (I : Imm) (s : Tx) (v : Value) (hv : Sl tU8 I v s) (hs : s.length ≤ 1048576) (x : Nat) (b0 : Bool) (r0 p0 t0 s0 : Tx) :
    Spec prog 38 [.pointer (some ⟨x, 0, none⟩), v] I [(x, blk [.bool b0, str r0, str p0, str t0, str s0] 61)] fun w J M => ∃ cs, M = [(x, blk cs 61)] ∧ (∃ b r' p' t' s', cs = [.bool b, str r', str p', str t', str s']) ∧ ∀ r p t, sTag noO s = (r, p, t, true, false) → w = .nilIface ∧ TagIs s r p t cs := by
  refine Spec.enter 19 [(0, _), (1, _)] func38 rfl ntmps38 (by simp) rfl ?_
  intro C hCf hR hCI
  repeat (first | refine Run.seq ?_ | refine Run.region ?_ | refine Ops.nil ?_ | refine Ops.pure T rfl (by decide) rfl ?_)
  refine Ops.eff rfl (dOk (by decide)) (Eff.yv (Yv.bytesSl T hv rfl rfl rfl rfl) ?_)
  skip
  refine Ops.call ((name_NewTag _ s _ noO (OptsAre.none _) (by omega))) rfl (by decide) call26 rfl ?_
  rintro w J2 l2 ⟨a, hres, hans, hlen⟩
  cases a with
  | none =>
    obtain ⟨b, hres2⟩ : ∃ b, w = _ := hres
    subst hres2
    unfold errV
    repeat (first | refine Ops.pure T rfl (by decide) rfl ?_)
    refine Ops.alloc rfl (by decide) (T.zeroOk rfl) rfl (fun b7 => ?_)
    repeat (first | refine Run.seq ?_ | refine Run.region ?_ | refine Ops.nil ?_ | refine Run.cond_t rfl ?_ | refine Ops.neqNil T rfl (by decide) rfl rfl rfl rfl rfl ?_ | refine Ops.pure T rfl (by decide) rfl ?_ | refine Ops.store 0 rfl rfl rfl rfl rfl (T.sizeOk rfl) rfl (Nat.le_of_ble_eq_true rfl) rfl rfl ?_)
    refine Run.dropL (L' := [(x, _)]) (List.sublist_cons_self _ _) ?_
    refine Run.ret1 (by rw [hCf]; exact func38) results38 rfl (hR _ _ _ ?_)
    exact ⟨_, rfl, ⟨_, _, _, _, _, rfl⟩, fun r p t hp => absurd (show true = false from hans _ _ _ _ hp) (by decide)⟩
  | some y =>
    have hres2 : w = _ := hres
    subst hres2
    repeat (first | refine Ops.pure T rfl (by decide) rfl ?_)
    refine Ops.alloc rfl (by decide) (T.zeroOk rfl) rfl (fun b7 => ?_)
    repeat (first | refine Run.seq ?_ | refine Run.region ?_ | refine Ops.nil ?_ | refine Run.skip ?_ | refine Run.cond_f rfl ?_ | refine Ops.neqNil T rfl (by decide) rfl rfl rfl rfl rfl ?_ | refine Ops.pure T rfl (by decide) rfl ?_ | refine Ops.loadN 0 rfl (by decide) rfl rfl (T.aggOk rfl) (T.sizeOk rfl) rfl rfl ?_ | refine Ops.store 0 rfl rfl rfl rfl rfl (T.sizeOk rfl) rfl (Nat.le_of_ble_eq_true rfl) rfl rfl ?_ | refine Ops.store 1 rfl rfl rfl rfl rfl (T.sizeOk rfl) rfl (Nat.le_of_ble_eq_true rfl) rfl rfl ?_)
    refine Run.dropL (L' := [(x, _)]) (List.sublist_cons_self _ _) ?_
    refine Run.ret1 (by rw [hCf]; exact func38) results38 rfl (hR _ _ _ ?_)
    refine ⟨_, rfl, ⟨_, _, _, _, _, rfl⟩, fun r p t hp => ⟨rfl, ?_⟩⟩
    obtain ⟨g1, g2, g3, g4⟩ := hlen y rfl
    obtain ⟨_, h3, h4, h5⟩ := hans _ _ _ _ hp
    subst h3
    subst h5
    skip
    simp only [List.length_nil] at g2 g3 g4
    exact ⟨y.2.1, rfl, h4, g1, by omega, by omega, by omega⟩
theorem Digest_UnmarshalText (I : Imm) (s : Tx) (v : Value) (hv : Sl tU8 I v s) (hs : s.length ≤ 1048576) (x : Nat) (b0 : Bool) (r0 p0 t0 s0 : Tx) :
    Spec prog 41 [.pointer (some ⟨x, 0, none⟩), v] I [(x, blk [.bool b0, str r0, str p0, str t0, str s0] 65)] fun w J M => ∃ cs, M = [(x, blk cs 65)] ∧ (∃ b r' p' t' s', cs = [.bool b, str r', str p', str t', str s']) ∧ ∀ r p t, sDig noO s = (r, p, t, true, false) → w = .nilIface ∧ TagIs s r p t cs := by
  refine Spec.enter 19 [(0, _), (1, _)] func41 rfl ntmps41 (by simp) rfl ?_
  intro C hCf hR hCI
  repeat (first | refine Run.seq ?_ | refine Run.region ?_ | refine Ops.nil ?_ | refine Ops.pure T rfl (by decide) rfl ?_)
  refine Ops.eff rfl (dOk (by decide)) (Eff.yv (Yv.bytesSl T hv rfl rfl rfl rfl) ?_)
  skip
  refine Ops.call ((name_NewDigest _ s _ noO (.inl rfl) (OptsAre.none _) (by omega) (by decide))) rfl (by decide) call29 rfl ?_
  rintro w J2 l2 ⟨a, hres, hans, hlen⟩
  cases a with
  | none =>
    obtain ⟨b, hres2⟩ : ∃ b, w = _ := hres
    subst hres2
    unfold errV
    repeat (first | refine Ops.pure T rfl (by decide) rfl ?_)
    refine Ops.alloc rfl (by decide) (T.zeroOk rfl) rfl (fun b7 => ?_)
    repeat (first | refine Run.seq ?_ | refine Run.region ?_ | refine Ops.nil ?_ | refine Run.cond_t rfl ?_ | refine Ops.neqNil T rfl (by decide) rfl rfl rfl rfl rfl ?_ | refine Ops.pure T rfl (by decide) rfl ?_ | refine Ops.store 0 rfl rfl rfl rfl rfl (T.sizeOk rfl) rfl (Nat.le_of_ble_eq_true rfl) rfl rfl ?_)
    refine Run.dropL (L' := [(x, _)]) (List.sublist_cons_self _ _) ?_
    refine Run.ret1 (by rw [hCf]; exact func41) results41 rfl (hR _ _ _ ?_)
    exact ⟨_, rfl, ⟨_, _, _, _, _, rfl⟩, fun r p t hp => absurd (show true = false from hans _ _ _ _ hp) (by decide)⟩
  | some y =>
    have hres2 : w = _ := hres
    subst hres2
    repeat (first | refine Ops.pure T rfl (by decide) rfl ?_)
    refine Ops.alloc rfl (by decide) (T.zeroOk rfl) rfl (fun b7 => ?_)
    repeat (first | refine Run.seq ?_ | refine Run.region ?_ | refine Ops.nil ?_ | refine Run.skip ?_ | refine Run.cond_f rfl ?_ | refine Ops.neqNil T rfl (by decide) rfl rfl rfl rfl rfl ?_ | refine Ops.pure T rfl (by decide) rfl ?_ | refine Ops.loadN 0 rfl (by decide) rfl rfl (T.aggOk rfl) (T.sizeOk rfl) rfl rfl ?_ | refine Ops.store 0 rfl rfl rfl rfl rfl (T.sizeOk rfl) rfl (Nat.le_of_ble_eq_true rfl) rfl rfl ?_ | refine Ops.store 1 rfl rfl rfl rfl rfl (T.sizeOk rfl) rfl (Nat.le_of_ble_eq_true rfl) rfl rfl ?_)
    refine Run.dropL (L' := [(x, _)]) (List.sublist_cons_self _ _) ?_
    refine Run.ret1 (by rw [hCf]; exact func41) results41 rfl (hR _ _ _ ?_)
    refine ⟨_, rfl, ⟨_, _, _, _, _, rfl⟩, fun r p t hp => ⟨rfl, ?_⟩⟩
    obtain ⟨g1, g2, g3, g4⟩ := hlen y rfl
    obtain ⟨_, h3, h4, h5⟩ := hans _ _ _ _ hp
    subst h3
    subst h5
    unfold big at g2 g3 g4
    simp only [List.length_nil] at g2 g3 g4
    exact ⟨y.2.1, rfl, h4, g1, by omega, by omega, by omega⟩
set_option maxHeartbeats 1000000 in
theorem Registry_UnmarshalJSON (I : Imm) (s r : Tx) (v : Value) (db off c : Nat) (hR0 : Rd I v ([34] ++ s ++ [34]) db off c) (hs : s.length ≤ 1048576) (hpl : plT s) (hp : sReg false [] s = (r, true, false)) (x : Nat) :
    Spec prog 33 [.pointer (some ⟨x, 0, none⟩), v] I [(x, blk [.bool false, str []] 47)] fun w J M => w = .nilIface ∧ ∃ cs, M = [(x, blk cs 47)] ∧ RegIs s r cs := by
  refine Spec.enter 26 [(0, _), (1, _)] func33 rfl ntmps33 (by simp) rfl ?_
  intro C hCf hR hCI
  repeat (first | refine Run.seq ?_ | refine Run.region ?_ | refine Ops.nil ?_ | refine Ops.pure T rfl (by decide) rfl ?_)
  refine Ops.alloc rfl (by decide) (T.zeroOk rfl) rfl (fun b5 => ?_)
  repeat (first | refine Run.seq ?_ | refine Run.region ?_ | refine Ops.nil ?_ | refine Ops.pure T rfl (by decide) rfl ?_)
  refine Ops.callP (N := [(x, _)]) (zz_Unmarshal I s [] v db off c b5 hR0 (by omega) hpl) (List.Perm.swap _ _ _) rfl (by decide) call75 rfl ?_
  rintro w J1 M1 l1 ⟨rfl, rfl⟩
  repeat (first | refine Run.seq ?_ | refine Run.region ?_ | refine Ops.nil ?_ | refine Run.skip ?_ | refine Run.cond_f rfl ?_ | refine Ops.neqNil T rfl (by decide) rfl rfl rfl rfl rfl ?_ | refine Ops.pure T rfl (by decide) rfl ?_ | refine Ops.load 1 rfl (by decide) rfl rfl (T.aggOk rfl) rfl ?_)
  refine Ops.call ((name_NewRegistry _ s _ noO (OptsAre.none _) (by omega))) rfl (by decide) call19 rfl ?_
  rintro w J2 l2 ⟨a, hres, hans, hlen⟩
  cases a with
  | none => exact absurd (hans _ _ hp) (by simp)
  | some y =>
    have hres2 : w = _ := hres
    subst hres2
    repeat (first | refine Ops.pure T rfl (by decide) rfl ?_)
    refine Ops.alloc rfl (by decide) (T.zeroOk rfl) rfl (fun b7 => ?_)
    repeat (first | refine Run.seq ?_ | refine Run.region ?_ | refine Ops.nil ?_ | refine Run.skip ?_ | refine Run.cond_f rfl ?_ | refine Ops.neqNil T rfl (by decide) rfl rfl rfl rfl rfl ?_ | refine Ops.pure T rfl (by decide) rfl ?_ | refine Ops.loadN 0 rfl (by decide) rfl rfl (T.aggOk rfl) (T.sizeOk rfl) rfl rfl ?_ | refine Ops.store 0 rfl rfl rfl rfl rfl (T.sizeOk rfl) rfl (Nat.le_of_ble_eq_true rfl) rfl rfl ?_ | refine Ops.store 1 rfl rfl rfl rfl rfl (T.sizeOk rfl) rfl (Nat.le_of_ble_eq_true rfl) rfl rfl ?_)
    refine Run.dropL (L' := [(x, _)]) (List.Sublist.cons _ (List.Sublist.cons_cons _ (List.nil_sublist _))) ?_
    refine Run.ret1 (by rw [hCf]; exact func33) results33 rfl (hR _ _ _ ?_)
    exact ⟨rfl, _, rfl, by obtain rfl : y = r := Option.some.inj (hans _ _ hp); rfl⟩
set_option maxHeartbeats 1000000 in
theorem Repository_UnmarshalJSON (I : Imm) (s r p : Tx) (v : Value) (db off c : Nat) (hR0 : Rd I v ([34] ++ s ++ [34]) db off c) (hs : s.length ≤ 1048576) (hpl : plT s) (hp : sRepo false [] s = (r, p, true, false)) (x : Nat) :
    Spec prog 36 [.pointer (some ⟨x, 0, none⟩), v] I [(x, blk [.bool false, str [], str []] 57)] fun w J M => w = .nilIface ∧ ∃ cs, M = [(x, blk cs 57)] ∧ RepoIs s r p cs := by
  refine Spec.enter 26 [(0, _), (1, _)] func36 rfl ntmps36 (by simp) rfl ?_
  intro C hCf hR hCI
  repeat (first | refine Run.seq ?_ | refine Run.region ?_ | refine Ops.nil ?_ | refine Ops.pure T rfl (by decide) rfl ?_)
  refine Ops.alloc rfl (by decide) (T.zeroOk rfl) rfl (fun b5 => ?_)
  repeat (first | refine Run.seq ?_ | refine Run.region ?_ | refine Ops.nil ?_ | refine Ops.pure T rfl (by decide) rfl ?_)
  refine Ops.callP (N := [(x, _)]) (zz_Unmarshal I s [] v db off c b5 hR0 (by omega) hpl) (List.Perm.swap _ _ _) rfl (by decide) call75 rfl ?_
  rintro w J1 M1 l1 ⟨rfl, rfl⟩
  repeat (first | refine Run.seq ?_ | refine Run.region ?_ | refine Ops.nil ?_ | refine Run.skip ?_ | refine Run.cond_f rfl ?_ | refine Ops.neqNil T rfl (by decide) rfl rfl rfl rfl rfl ?_ | refine Ops.pure T rfl (by decide) rfl ?_ | refine Ops.load 1 rfl (by decide) rfl rfl (T.aggOk rfl) rfl ?_)
  refine Ops.call ((name_NewRepository _ s _ noO (OptsAre.none _) (by omega))) rfl (by decide) call23 rfl ?_
  rintro w J2 l2 ⟨a, hres, hans, hlen⟩
  cases a with
  | none => exact absurd (show true = false from hans _ _ _ hp) (by simp)
  | some y =>
    have hres2 : w = _ := hres
    subst hres2
    repeat (first | refine Ops.pure T rfl (by decide) rfl ?_)
    refine Ops.alloc rfl (by decide) (T.zeroOk rfl) rfl (fun b7 => ?_)
    repeat (first | refine Run.seq ?_ | refine Run.region ?_ | refine Ops.nil ?_ | refine Run.skip ?_ | refine Run.cond_f rfl ?_ | refine Ops.neqNil T rfl (by decide) rfl rfl rfl rfl rfl ?_ | refine Ops.pure T rfl (by decide) rfl ?_ | refine Ops.loadN 0 rfl (by decide) rfl rfl (T.aggOk rfl) (T.sizeOk rfl) rfl rfl ?_ | refine Ops.store 0 rfl rfl rfl rfl rfl (T.sizeOk rfl) rfl (Nat.le_of_ble_eq_true rfl) rfl rfl ?_ | refine Ops.store 1 rfl rfl rfl rfl rfl (T.sizeOk rfl) rfl (Nat.le_of_ble_eq_true rfl) rfl rfl ?_)
    refine Run.dropL (L' := [(x, _)]) (List.Sublist.cons _ (List.Sublist.cons_cons _ (List.nil_sublist _))) ?_
    refine Run.ret1 (by rw [hCf]; exact func36) results36 rfl (hR _ _ _ ?_)
    obtain ⟨g1, g2, g3⟩ := hlen y rfl
    obtain ⟨_, h3, h4⟩ := hans _ _ _ hp
    subst h3
    exact ⟨rfl, _, rfl, y.2, rfl, h4, g1, by simpa using g2, g3⟩
set_option maxHeartbeats 1000000 in
theorem Tag_UnmarshalJSON (I : Imm) (s r p t : Tx) (v : Value) (db off c : Nat) (hR0 : Rd I v ([34] ++ s ++ [34]) db off c) (hs : s.length ≤ 1048576) (hpl : plT s) (hp : sTag noO s = (r, p, t, true, false)) (x : Nat) :
    Spec prog 39 [.pointer (some ⟨x, 0, none⟩), v] I [(x, blk [.bool false, str [], str [], str [], str []] 61)] fun w J M => w = .nilIface ∧ ∃ cs, M = [(x, blk cs 61)] ∧ TagIs s r p t cs := by
  refine Spec.enter 26 [(0, _), (1, _)] func39 rfl ntmps39 (by simp) rfl ?_
  intro C hCf hR hCI
  repeat (first | refine Run.seq ?_ | refine Run.region ?_ | refine Ops.nil ?_ | refine Ops.pure T rfl (by decide) rfl ?_)
  refine Ops.alloc rfl (by decide) (T.zeroOk rfl) rfl (fun b5 => ?_)
  repeat (first | refine Run.seq ?_ | refine Run.region ?_ | refine Ops.nil ?_ | refine Ops.pure T rfl (by decide) rfl ?_)
  refine Ops.callP (N := [(x, _)]) (zz_Unmarshal I s [] v db off c b5 hR0 (by omega) hpl) (List.Perm.swap _ _ _) rfl (by decide) call75 rfl ?_
  rintro w J1 M1 l1 ⟨rfl, rfl⟩
  repeat (first | refine Run.seq ?_ | refine Run.region ?_ | refine Ops.nil ?_ | refine Run.skip ?_ | refine Run.cond_f rfl ?_ | refine Ops.neqNil T rfl (by decide) rfl rfl rfl rfl rfl ?_ | refine Ops.pure T rfl (by decide) rfl ?_ | refine Ops.load 1 rfl (by decide) rfl rfl (T.aggOk rfl) rfl ?_)
  refine Ops.call ((name_NewTag _ s _ noO (OptsAre.none _) (by omega))) rfl (by decide) call26 rfl ?_
  rintro w J2 l2 ⟨a, hres, hans, hlen⟩
  cases a with
  | none => exact absurd (show true = false from hans _ _ _ _ hp) (by simp)
  | some y =>
    have hres2 : w = _ := hres
    subst hres2
    repeat (first | refine Ops.pure T rfl (by decide) rfl ?_)
    refine Ops.alloc rfl (by decide) (T.zeroOk rfl) rfl (fun b7 => ?_)
    repeat (first | refine Run.seq ?_ | refine Run.region ?_ | refine Ops.nil ?_ | refine Run.skip ?_ | refine Run.cond_f rfl ?_ | refine Ops.neqNil T rfl (by decide) rfl rfl rfl rfl rfl ?_ | refine Ops.pure T rfl (by decide) rfl ?_ | refine Ops.loadN 0 rfl (by decide) rfl rfl (T.aggOk rfl) (T.sizeOk rfl) rfl rfl ?_ | refine Ops.store 0 rfl rfl rfl rfl rfl (T.sizeOk rfl) rfl (Nat.le_of_ble_eq_true rfl) rfl rfl ?_ | refine Ops.store 1 rfl rfl rfl rfl rfl (T.sizeOk rfl) rfl (Nat.le_of_ble_eq_true rfl) rfl rfl ?_)
    refine Run.dropL (L' := [(x, _)]) (List.Sublist.cons _ (List.Sublist.cons_cons _ (List.nil_sublist _))) ?_
    refine Run.ret1 (by rw [hCf]; exact func39) results39 rfl (hR _ _ _ ?_)
    obtain ⟨g1, g2, g3, g4⟩ := hlen y rfl
    obtain ⟨_, h3, h4, h5⟩ := hans _ _ _ _ hp
    subst h3
    subst h5
    skip
    simp only [List.length_nil] at g2 g3 g4
    exact ⟨rfl, _, rfl, y.2.1, rfl, h4, g1, by omega, by omega, by omega⟩
set_option maxHeartbeats 1000000 in
theorem Digest_UnmarshalJSON (I : Imm) (s r p t : Tx) (v : Value) (db off c : Nat) (hR0 : Rd I v ([34] ++ s ++ [34]) db off c) (hs : s.length ≤ 1048576) (hpl : plT s) (hp : sDig noO s = (r, p, t, true, false)) (x : Nat) :
    Spec prog 42 [.pointer (some ⟨x, 0, none⟩), v] I [(x, blk [.bool false, str [], str [], str [], str []] 65)] fun w J M => w = .nilIface ∧ ∃ cs, M = [(x, blk cs 65)] ∧ TagIs s r p t cs := by
  refine Spec.enter 26 [(0, _), (1, _)] func42 rfl ntmps42 (by simp) rfl ?_
  intro C hCf hR hCI
  repeat (first | refine Run.seq ?_ | refine Run.region ?_ | refine Ops.nil ?_ | refine Ops.pure T rfl (by decide) rfl ?_)
  refine Ops.alloc rfl (by decide) (T.zeroOk rfl) rfl (fun b5 => ?_)
  repeat (first | refine Run.seq ?_ | refine Run.region ?_ | refine Ops.nil ?_ | refine Ops.pure T rfl (by decide) rfl ?_)
  refine Ops.callP (N := [(x, _)]) (zz_Unmarshal I s [] v db off c b5 hR0 (by omega) hpl) (List.Perm.swap _ _ _) rfl (by decide) call75 rfl ?_
  rintro w J1 M1 l1 ⟨rfl, rfl⟩
  repeat (first | refine Run.seq ?_ | refine Run.region ?_ | refine Ops.nil ?_ | refine Run.skip ?_ | refine Run.cond_f rfl ?_ | refine Ops.neqNil T rfl (by decide) rfl rfl rfl rfl rfl ?_ | refine Ops.pure T rfl (by decide) rfl ?_ | refine Ops.load 1 rfl (by decide) rfl rfl (T.aggOk rfl) rfl ?_)
  refine Ops.call ((name_NewDigest _ s _ noO (.inl rfl) (OptsAre.none _) (by omega) (by decide))) rfl (by decide) call29 rfl ?_
  rintro w J2 l2 ⟨a, hres, hans, hlen⟩
  cases a with
  | none => exact absurd (show true = false from hans _ _ _ _ hp) (by simp)
  | some y =>
    have hres2 : w = _ := hres
    subst hres2
    repeat (first | refine Ops.pure T rfl (by decide) rfl ?_)
    refine Ops.alloc rfl (by decide) (T.zeroOk rfl) rfl (fun b7 => ?_)
    repeat (first | refine Run.seq ?_ | refine Run.region ?_ | refine Ops.nil ?_ | refine Run.skip ?_ | refine Run.cond_f rfl ?_ | refine Ops.neqNil T rfl (by decide) rfl rfl rfl rfl rfl ?_ | refine Ops.pure T rfl (by decide) rfl ?_ | refine Ops.loadN 0 rfl (by decide) rfl rfl (T.aggOk rfl) (T.sizeOk rfl) rfl rfl ?_ | refine Ops.store 0 rfl rfl rfl rfl rfl (T.sizeOk rfl) rfl (Nat.le_of_ble_eq_true rfl) rfl rfl ?_ | refine Ops.store 1 rfl rfl rfl rfl rfl (T.sizeOk rfl) rfl (Nat.le_of_ble_eq_true rfl) rfl rfl ?_)
    refine Run.dropL (L' := [(x, _)]) (List.Sublist.cons _ (List.Sublist.cons_cons _ (List.nil_sublist _))) ?_
    refine Run.ret1 (by rw [hCf]; exact func42) results42 rfl (hR _ _ _ ?_)
    obtain ⟨g1, g2, g3, g4⟩ := hlen y rfl
    obtain ⟨_, h3, h4, h5⟩ := hans _ _ _ _ hp
    subst h3
    subst h5
    unfold big at g2 g3 g4
    simp only [List.length_nil] at g2 g3 g4
    exact ⟨rfl, _, rfl, y.2.1, rfl, h4, g1, by omega, by omega, by omega⟩
end Go.V
namespace Go.V
open Go.Proofs.Tryz
open Go.RowKit
set_option linter.unusedVariables false
set_option linter.unusedSimpArgs false
set_option maxRecDepth 10000
attribute [local irreducible] Run Ops
def t3 (x : Tx × Bool × Bool) : Value := .tuple #[str x.1, .bool x.2.1, .bool x.2.2]
def t4 (x : Tx × Tx × Bool × Bool) : Value := .tuple #[str x.1, str x.2.1, .bool x.2.2.1, .bool x.2.2.2]
def t5 (x : Tx × Tx × Tx × Bool × Bool) : Value := .tuple #[str x.1, str x.2.1, str x.2.2.1, .bool x.2.2.2.1, .bool x.2.2.2.2]
set_option maxHeartbeats 2000000 in
theorem spec_registryOf (I : Imm) (s : Tx) (o : NOpt) (hs : s.length ≤ 4620000000000000000) : Pure prog 11 [str s, .agg o.cs.toArray] I fun w J => w = t3 (sReg o.strict o.reg s) := by
  obtain ⟨st, ins, reg, tag⟩ := o
  refine Spec.enter 28 [(0, _), (1, _)] func11 rfl ntmps11 (by simp) rfl ?_
  intro C hCf hR hCI
  repeat (first | refine Run.seq ?_ | refine Run.region ?_)
  refine Ops.box rfl (by decide) rfl rfl (fun b => ?_)
  repeat (first | refine Run.seq ?_ | refine Run.region ?_ | refine Ops.nil ?_ | refine Ops.pure T rfl (by decide) rfl ?_ | refine Ops.load 0 rfl (by decide) rfl rfl (T.aggOk rfl) rfl ?_)
  cases st with
  | true =>
    repeat (first | refine Ops.eqlStr rfl (by decide) rfl rfl ?_ | refine Ops.pure T rfl (by decide) rfl ?_)
    cases h0 : decide (s = []) with
    | true =>
      repeat (first | refine Run.seq ?_ | refine Run.region ?_ | refine Ops.nil ?_ | refine Run.cond_t rfl ?_ | refine Ops.not rfl (by decide) ?_ | refine Ops.pure T rfl (by decide) rfl ?_)
      refine Run.fin (Run.ret3 (by rw [hCf]; exact func11) results11 rfl rfl rfl (hR _ _ _ ?_))
      exact ⟨rfl, by rw [of_decide_eq_true h0]; rfl⟩
    | false =>
      have hns : (true && decide (s = [])) = false := by rw [h0]; rfl
      repeat (first | refine Ops.pure T rfl (by decide) rfl ?_)
      refine Ops.call ((spec_HostBad I s (by omega))) rfl (by decide) call45 rfl ?_
      rintro _ J1 l1 rfl
      repeat (first | refine Ops.nil ?_ | refine Ops.pure T rfl (by decide) rfl ?_)
      cases hb : hostBad s with
      | true =>
        repeat (first | refine Run.seq ?_ | refine Run.region ?_ | refine Ops.nil ?_ | refine Run.cond_t rfl ?_ | refine Ops.pure T rfl (by decide) rfl ?_)
        refine Run.fin (Run.ret3 (by rw [hCf]; exact func11) results11 rfl rfl rfl (hR _ _ _ ?_))
        exact ⟨rfl, by unfold sReg; rw [hb, Bool.or_true]; rfl⟩
      | false =>
      have hreg : sReg true reg s = (aliasT (if s = [] then hub reg else s), true, !hostPlain s) := by unfold sReg; rw [hb, hns]; rfl
      repeat (first | refine Run.seq ?_ | refine Run.region ?_ | refine Run.skip ?_ | refine Run.cond_f rfl ?_ | refine Ops.pure T rfl (by decide) rfl ?_)
      refine Ops.call ((spec_HostPlain J1 s (by omega))) rfl (by decide) call16 rfl ?_
      rintro _ J2 l2 rfl
      repeat (first | refine Run.seq ?_ | refine Run.region ?_ | refine Ops.nil ?_ | refine Ops.eqlStr rfl (by decide) rfl rfl ?_ | refine Ops.pure T rfl (by decide) rfl ?_)
      refine Run.merge (fun env' L' I' => env' = [(0, str (if s = [] then hub reg else s)), (6, .bool (!hostPlain s))] ∧ L' = [] ) rfl ?_ ?_ ?_
      · intro h k' fin
        repeat (first | refine Run.region ?_ | refine Ops.loadN 0 rfl (by decide) rfl rfl (T.aggOk rfl) (T.sizeOk rfl) rfl rfl ?_)
        refine Ops.call ((spec_hub J2 ⟨true, ins, reg, tag⟩)) rfl (by decide) call46 rfl ?_
        rintro _ J3 l3 rfl
        repeat (first | refine Ops.nil ?_ | refine Ops.pure T rfl (by decide) rfl ?_)
        refine Run.dropL (List.nil_sublist _) ?_
        refine Run.keep [0, 6] [_, _] rfl ?_
        refine fin _ _ _ ⟨?_, rfl⟩
        rw [if_pos (of_decide_eq_true h)]
        rfl
      · intro h k' fin
        repeat (first | refine Run.skip ?_)
        refine Run.dropL (List.nil_sublist _) ?_
        refine Run.keep [0, 6] [_, _] rfl ?_
        refine fin _ _ _ ⟨?_, rfl⟩
        rw [if_neg (of_decide_eq_false h)]
        rfl
      generalize hs1 : (if s = [] then hub reg else s) = s1
      rintro env L J3 ⟨rfl, rfl⟩
      repeat (first | refine Run.seq ?_ | refine Run.region ?_ | refine Ops.nil ?_ | refine Ops.eqlStr rfl (by decide) rfl rfl ?_ | refine Ops.pure T rfl (by decide) rfl ?_)
      cases h31 : decide (s1 = [100, 111, 99, 107, 101, 114, 46, 105, 111]) with
      | true =>
        repeat (first | refine Run.seq ?_ | refine Run.region ?_ | refine Ops.nil ?_ | refine Run.cond_t rfl ?_ | refine Ops.pure T rfl (by decide) rfl ?_)
        refine Run.fin (Run.ret3 (by rw [hCf]; exact func11) results11 rfl rfl rfl (hR _ _ _ ?_))
        refine ⟨rfl, ?_⟩
        rw [hreg, hs1, aliasT, if_pos (of_decide_eq_true h31)]
        rfl
      | false =>
        repeat (first | refine Run.seq ?_ | refine Run.region ?_ | refine Ops.nil ?_ | refine Run.skip ?_ | refine Run.cond_f rfl ?_ | refine Ops.pure T rfl (by decide) rfl ?_)
        refine Run.fin (Run.ret3 (by rw [hCf]; exact func11) results11 rfl rfl rfl (hR _ _ _ ?_))
        refine ⟨rfl, ?_⟩
        rw [hreg, hs1, aliasT, if_neg (of_decide_eq_false h31)]
        rfl
  | false =>
    have hns : (false && decide (s = [])) = false := rfl
    repeat (first | refine Ops.not rfl (by decide) ?_ | refine Ops.pure T rfl (by decide) rfl ?_)
    refine Ops.call ((spec_HostBad I s (by omega))) rfl (by decide) call45 rfl ?_
    rintro _ J1 l1 rfl
    repeat (first | refine Ops.nil ?_ | refine Ops.pure T rfl (by decide) rfl ?_)
    cases hb : hostBad s with
    | true =>
      repeat (first | refine Run.seq ?_ | refine Run.region ?_ | refine Ops.nil ?_ | refine Run.cond_t rfl ?_ | refine Ops.pure T rfl (by decide) rfl ?_)
      refine Run.fin (Run.ret3 (by rw [hCf]; exact func11) results11 rfl rfl rfl (hR _ _ _ ?_))
      exact ⟨rfl, by unfold sReg; rw [hb, Bool.or_true]; rfl⟩
    | false =>
    have hreg : sReg false reg s = (aliasT (if s = [] then hub reg else s), true, !hostPlain s) := by unfold sReg; rw [hb, hns]; rfl
    repeat (first | refine Run.seq ?_ | refine Run.region ?_ | refine Run.skip ?_ | refine Run.cond_f rfl ?_ | refine Ops.pure T rfl (by decide) rfl ?_)
    refine Ops.call ((spec_HostPlain J1 s (by omega))) rfl (by decide) call16 rfl ?_
    rintro _ J2 l2 rfl
    repeat (first | refine Run.seq ?_ | refine Run.region ?_ | refine Ops.nil ?_ | refine Ops.eqlStr rfl (by decide) rfl rfl ?_ | refine Ops.pure T rfl (by decide) rfl ?_)
    refine Run.merge (fun env' L' I' => env' = [(0, str (if s = [] then hub reg else s)), (6, .bool (!hostPlain s))] ∧ L' = [] ) rfl ?_ ?_ ?_
    · intro h k' fin
      repeat (first | refine Run.region ?_ | refine Ops.loadN 0 rfl (by decide) rfl rfl (T.aggOk rfl) (T.sizeOk rfl) rfl rfl ?_)
      refine Ops.call ((spec_hub J2 ⟨false, ins, reg, tag⟩)) rfl (by decide) call46 rfl ?_
      rintro _ J3 l3 rfl
      repeat (first | refine Ops.nil ?_ | refine Ops.pure T rfl (by decide) rfl ?_)
      refine Run.dropL (List.nil_sublist _) ?_
      refine Run.keep [0, 6] [_, _] rfl ?_
      refine fin _ _ _ ⟨?_, rfl⟩
      rw [if_pos (of_decide_eq_true h)]
      rfl
    · intro h k' fin
      repeat (first | refine Run.skip ?_)
      refine Run.dropL (List.nil_sublist _) ?_
      refine Run.keep [0, 6] [_, _] rfl ?_
      refine fin _ _ _ ⟨?_, rfl⟩
      rw [if_neg (of_decide_eq_false h)]
      rfl
    generalize hs1 : (if s = [] then hub reg else s) = s1
    rintro env L J3 ⟨rfl, rfl⟩
    repeat (first | refine Run.seq ?_ | refine Run.region ?_ | refine Ops.nil ?_ | refine Ops.eqlStr rfl (by decide) rfl rfl ?_ | refine Ops.pure T rfl (by decide) rfl ?_)
    cases h31 : decide (s1 = [100, 111, 99, 107, 101, 114, 46, 105, 111]) with
    | true =>
      repeat (first | refine Run.seq ?_ | refine Run.region ?_ | refine Ops.nil ?_ | refine Run.cond_t rfl ?_ | refine Ops.pure T rfl (by decide) rfl ?_)
      refine Run.fin (Run.ret3 (by rw [hCf]; exact func11) results11 rfl rfl rfl (hR _ _ _ ?_))
      refine ⟨rfl, ?_⟩
      rw [hreg, hs1, aliasT, if_pos (of_decide_eq_true h31)]
      rfl
    | false =>
      repeat (first | refine Run.seq ?_ | refine Run.region ?_ | refine Ops.nil ?_ | refine Run.skip ?_ | refine Run.cond_f rfl ?_ | refine Ops.pure T rfl (by decide) rfl ?_)
      refine Run.fin (Run.ret3 (by rw [hCf]; exact func11) results11 rfl rfl rfl (hR _ _ _ ?_))
      refine ⟨rfl, ?_⟩
      rw [hreg, hs1, aliasT, if_neg (of_decide_eq_false h31)]
      rfl
end Go.V
namespace Go.V
open Go.Proofs.Tryz
open Go.RowKit
set_option linter.unusedVariables false
set_option linter.unusedSimpArgs false
set_option maxRecDepth 10000
attribute [local irreducible] Run Ops
set_option maxHeartbeats 8000000 in
theorem spec_repositoryOf (I : Imm) (s : Tx) (o : NOpt) (hs : s.length ≤ 4620000000000000000) : Pure prog 12 [str s, .agg o.cs.toArray] I fun w J => w = t4 (sRepo o.strict o.reg s) := by
  obtain ⟨st, ins, reg, tag⟩ := o
  show Pure prog 12 [str s, .agg (NOpt.mk st ins reg tag).cs.toArray] I fun w J => w = t4 (sRepo st reg s)
  refine Spec.enter 68 [(0, _), (1, _)] func12 rfl ntmps12 (by simp) rfl ?_
  intro C hCf hR hCI
  repeat (first | refine Run.seq ?_ | refine Run.region ?_)
  refine Ops.box rfl (by decide) rfl rfl (fun b => ?_)
  repeat (first | refine Run.seq ?_ | refine Run.region ?_ | refine Ops.nil ?_ | refine Ops.pure T rfl (by decide) rfl ?_)
  refine Ops.call ((spec_firstOf s 47 I (by omega))) rfl (by decide) call47 rfl ?_
  rintro _ J1 l1 rfl
  cases hk : ix 47 s with
  | none =>
    rw [ixI_none hk]
    have hcut : hostCut s = ([], s) := by simp [hostCut, hk]
    have hnil : decide (([] : Tx) = []) = true := rfl
    have hl2 : (s : Tx).length ≤ s.length := by first | (simp; done) | (simp; omega) | omega
    repeat (first | refine Run.seq ?_ | refine Run.region ?_ | refine Ops.nil ?_ | refine Run.skip ?_ | refine Run.cond_f rfl ?_ | refine Ops.not rfl (by decide) ?_ | refine Ops.geq rfl (by decide) rfl rfl ?_ | refine Ops.pure T rfl (by decide) rfl ?_ | refine Ops.load 0 rfl (by decide) rfl rfl (T.aggOk rfl) rfl ?_)
    refine Ops.buildL bd30 rfl (by decide) rfl rfl ?_
    refine Ops.call ((spec_registryOf J1 (([] : Tx)) ⟨false, false, reg, []⟩ (by first | (simp; done) | (simp; omega) | omega))) rfl (by decide) call11 rfl ?_
    rintro _ J3 l3 rfl
    unfold t3
    have hrep0 : sRepo st reg s = if !pathGood (s) || !(sReg false reg (([] : Tx))).2.1 || (st && decide ((([] : Tx)) = [])) then ([], [], false, (sReg false reg (([] : Tx))).2.2) else if implNs (sReg false reg (([] : Tx))).1 (s) && st then ([], [], false, (sReg false reg (([] : Tx))).2.2) else ((sReg false reg (([] : Tx))).1, fullP (sReg false reg (([] : Tx))).1 (s), true, (sReg false reg (([] : Tx))).2.2) := by
      unfold sRepo
      rw [hcut]
    generalize (sReg false reg (([] : Tx))).1 = r at *
    generalize (sReg false reg (([] : Tx))).2.1 = ok at *
    generalize (sReg false reg (([] : Tx))).2.2 = op at *
    have hrep := hrep0
    clear hrep0
    repeat (first | refine Run.seq ?_ | refine Run.region ?_ | refine Ops.nil ?_ | refine Ops.pure T rfl (by decide) rfl ?_)
    refine Ops.call ((spec_pathGood J3 (s) (by omega))) rfl (by decide) call48 rfl ?_
    rintro _ J4 l4 rfl
    cases hpg : pathGood (s) with
    | false =>
      repeat (first | refine Run.seq ?_ | refine Run.region ?_ | refine Ops.nil ?_ | refine Run.cond_t rfl ?_ | refine Ops.not rfl (by decide) ?_ | refine Ops.notU rfl (by decide) ?_ | refine Ops.pure T rfl (by decide) rfl ?_)
      refine Run.fin (Run.ret4 (by rw [hCf]; exact func12) results12 rfl rfl rfl rfl (hR _ _ _ ?_))
      refine ⟨rfl, ?_⟩
      rw [hrep]
      simp only [hpg, Bool.not_false, Bool.not_true, Bool.true_or, Bool.or_true, Bool.false_or, Bool.or_false, Bool.true_and, Bool.false_and, if_true]
      rfl
    | true =>
    repeat (first | refine Ops.pure T rfl (by decide) rfl ?_)
    cases ok with
    | false =>
      repeat (first | refine Run.seq ?_ | refine Run.region ?_ | refine Ops.nil ?_ | refine Run.cond_t rfl ?_ | refine Ops.not rfl (by decide) ?_ | refine Ops.notU rfl (by decide) ?_ | refine Ops.pure T rfl (by decide) rfl ?_)
      refine Run.fin (Run.ret4 (by rw [hCf]; exact func12) results12 rfl rfl rfl rfl (hR _ _ _ ?_))
      refine ⟨rfl, ?_⟩
      rw [hrep]
      simp only [hpg, Bool.not_false, Bool.not_true, Bool.true_or, Bool.or_true, Bool.false_or, Bool.or_false, Bool.true_and, Bool.false_and, if_true]
      rfl
    | true =>
    repeat (first | refine Ops.pure T rfl (by decide) rfl ?_ | refine Ops.load 0 rfl (by decide) rfl rfl (T.aggOk rfl) rfl ?_)
    cases st with
    | false =>
      repeat (first | refine Run.seq ?_ | refine Run.region ?_ | refine Ops.nil ?_ | refine Run.skip ?_ | refine Run.cond_f rfl ?_ | refine Ops.not rfl (by decide) ?_ | refine Ops.eqlStr rfl (by decide) rfl rfl ?_ | refine Ops.pure T rfl (by decide) rfl ?_)
      cases h8 : decide (r = [105, 110, 100, 101, 120, 46, 100, 111, 99, 107, 101, 114, 46, 105, 111]) with
      | false =>
        have h8' : decide (r = hubT) = false := h8
        repeat (first | refine Run.seq ?_ | refine Run.region ?_ | refine Ops.nil ?_ | refine Run.skip ?_ | refine Run.cond_f rfl ?_ | refine Ops.not rfl (by decide) ?_ | refine Ops.pure T rfl (by decide) rfl ?_)
        refine Run.fin (Run.ret4 (by rw [hCf]; exact func12) results12 rfl rfl rfl rfl (hR _ _ _ ?_))
        refine ⟨rfl, ?_⟩
        rw [hrep]
        simp only [hpg, implNs, fullP, h8', Bool.not_false, Bool.not_true, Bool.true_or, Bool.or_true, Bool.false_or, Bool.or_false, Bool.true_and, Bool.false_and, Bool.and_false, Bool.and_true, Bool.false_eq_true, if_true, if_false]
        rfl
      | true =>
        have h8' : decide (r = hubT) = true := h8
        repeat (first | refine Ops.pure T rfl (by decide) rfl ?_)
        refine Ops.call ((spec_firstOf (s) 47 _ (by omega))) rfl (by decide) call47 rfl ?_
        rintro _ J5 l5 rfl
        repeat (first | refine Ops.nil ?_ | refine Ops.lss rfl (by decide) rfl rfl ?_ | refine Ops.pure T rfl (by decide) rfl ?_)
        rw [ixI_has']
        cases h9 : hasB 47 (s) with
        | true =>
          repeat (first | refine Run.seq ?_ | refine Run.region ?_ | refine Ops.nil ?_ | refine Run.skip ?_ | refine Run.cond_f rfl ?_ | refine Ops.pure T rfl (by decide) rfl ?_)
          refine Run.fin (Run.ret4 (by rw [hCf]; exact func12) results12 rfl rfl rfl rfl (hR _ _ _ ?_))
          refine ⟨rfl, ?_⟩
          rw [hrep]
          simp only [hpg, h9, implNs, fullP, h8', Bool.not_false, Bool.not_true, Bool.true_or, Bool.or_true, Bool.false_or, Bool.or_false, Bool.true_and, Bool.false_and, Bool.and_false, Bool.and_true, Bool.false_eq_true, if_true, if_false]
          rfl
        | false =>
          repeat (first | refine Run.seq ?_ | refine Run.region ?_ | refine Ops.nil ?_ | refine Run.skip ?_ | refine Run.cond_t rfl ?_ | refine Run.cond_f rfl ?_ | refine Ops.cat rfl (by decide) rfl rfl (by first | omega | (simp only [List.length_cons, List.length_nil] ; omega) | (simp; omega)) ?_ | refine Ops.pure T rfl (by decide) rfl ?_ | refine Ops.load 0 rfl (by decide) rfl rfl (T.aggOk rfl) rfl ?_)
          refine Run.fin (Run.ret4 (by rw [hCf]; exact func12) results12 rfl rfl rfl rfl (hR _ _ _ ?_))
          refine ⟨rfl, ?_⟩
          rw [hrep]
          simp only [hpg, h9, implNs, fullP, h8', Bool.not_false, Bool.not_true, Bool.true_or, Bool.or_true, Bool.false_or, Bool.or_false, Bool.true_and, Bool.false_and, Bool.and_false, Bool.and_true, Bool.false_eq_true, if_true, if_false]
          rfl
    | true =>
      repeat (first | refine Run.seq ?_ | refine Run.region ?_ | refine Ops.nil ?_ | refine Run.cond_t rfl ?_ | refine Ops.eqlStr rfl (by decide) rfl rfl ?_ | refine Ops.pure T rfl (by decide) rfl ?_)
      refine Run.fin (Run.ret4 (by rw [hCf]; exact func12) results12 rfl rfl rfl rfl (hR _ _ _ ?_))
      refine ⟨rfl, ?_⟩
      rw [hrep]
      simp only [hpg, hnil, Bool.not_false, Bool.not_true, Bool.true_or, Bool.or_true, Bool.false_or, Bool.or_false, Bool.true_and, Bool.false_and, if_true]
      rfl
  | some k =>
    rw [ixI_eq hk]
    have hlt := ix_lt hk
    have hcut0 : hostCut s = if hosted (s.take k) then (s.take k, s.drop (k + 1)) else ([], s) := by simp [hostCut, hk]
    repeat (first | refine Run.seq ?_ | refine Run.region ?_ | refine Ops.nil ?_ | refine Ops.geq rfl (by decide) rfl rfl ?_ | refine Ops.pure T rfl (by decide) rfl ?_ | refine Ops.sliceStrHi rfl (by decide) (T.undOk rfl) rfl rfl (by first | omega | (simp only [List.length_cons, List.length_nil] ; omega) | (simp; omega)) (by first | omega | (simp only [List.length_cons, List.length_nil] ; omega) | (simp; omega)) ?_)
    rw [decide_eq_true (show (0 : Int) ≤ (k : Int) by omega)]
    skip
    have ek : ((k : Int)).toNat = k := by omega
    rw [ek]
    refine Ops.call ((spec_hosted J1 (s.take k) (by simp; omega))) rfl (by decide) call17 rfl ?_
    rintro _ J2 l2 rfl
    cases hho : hosted (s.take k) with
    | false =>
      have hcut : hostCut s = ([], s) := by rw [hcut0, hho]; rfl
      have hnil : decide (([] : Tx) = []) = true := rfl
      have hl2 : (s : Tx).length ≤ s.length := by first | (simp; done) | (simp; omega) | omega
      repeat (first | refine Run.seq ?_ | refine Run.region ?_ | refine Ops.nil ?_ | refine Run.skip ?_ | refine Run.cond_f rfl ?_ | refine Ops.pure T rfl (by decide) rfl ?_ | refine Ops.load 0 rfl (by decide) rfl rfl (T.aggOk rfl) rfl ?_)
      refine Ops.buildL bd30 rfl (by decide) rfl rfl ?_
      refine Ops.call ((spec_registryOf J2 (([] : Tx)) ⟨false, false, reg, []⟩ (by first | (simp; done) | (simp; omega) | omega))) rfl (by decide) call11 rfl ?_
      rintro _ J3 l3 rfl
      unfold t3
      have hrep0 : sRepo st reg s = if !pathGood (s) || !(sReg false reg (([] : Tx))).2.1 || (st && decide ((([] : Tx)) = [])) then ([], [], false, (sReg false reg (([] : Tx))).2.2) else if implNs (sReg false reg (([] : Tx))).1 (s) && st then ([], [], false, (sReg false reg (([] : Tx))).2.2) else ((sReg false reg (([] : Tx))).1, fullP (sReg false reg (([] : Tx))).1 (s), true, (sReg false reg (([] : Tx))).2.2) := by
        unfold sRepo
        rw [hcut]
      generalize (sReg false reg (([] : Tx))).1 = r at *
      generalize (sReg false reg (([] : Tx))).2.1 = ok at *
      generalize (sReg false reg (([] : Tx))).2.2 = op at *
      have hrep := hrep0
      clear hrep0
      repeat (first | refine Run.seq ?_ | refine Run.region ?_ | refine Ops.nil ?_ | refine Ops.pure T rfl (by decide) rfl ?_)
      refine Ops.call ((spec_pathGood J3 (s) (by omega))) rfl (by decide) call48 rfl ?_
      rintro _ J4 l4 rfl
      cases hpg : pathGood (s) with
      | false =>
        repeat (first | refine Run.seq ?_ | refine Run.region ?_ | refine Ops.nil ?_ | refine Run.cond_t rfl ?_ | refine Ops.not rfl (by decide) ?_ | refine Ops.notU rfl (by decide) ?_ | refine Ops.pure T rfl (by decide) rfl ?_)
        refine Run.fin (Run.ret4 (by rw [hCf]; exact func12) results12 rfl rfl rfl rfl (hR _ _ _ ?_))
        refine ⟨rfl, ?_⟩
        rw [hrep]
        simp only [hpg, Bool.not_false, Bool.not_true, Bool.true_or, Bool.or_true, Bool.false_or, Bool.or_false, Bool.true_and, Bool.false_and, if_true]
        rfl
      | true =>
      repeat (first | refine Ops.pure T rfl (by decide) rfl ?_)
      cases ok with
      | false =>
        repeat (first | refine Run.seq ?_ | refine Run.region ?_ | refine Ops.nil ?_ | refine Run.cond_t rfl ?_ | refine Ops.not rfl (by decide) ?_ | refine Ops.notU rfl (by decide) ?_ | refine Ops.pure T rfl (by decide) rfl ?_)
        refine Run.fin (Run.ret4 (by rw [hCf]; exact func12) results12 rfl rfl rfl rfl (hR _ _ _ ?_))
        refine ⟨rfl, ?_⟩
        rw [hrep]
        simp only [hpg, Bool.not_false, Bool.not_true, Bool.true_or, Bool.or_true, Bool.false_or, Bool.or_false, Bool.true_and, Bool.false_and, if_true]
        rfl
      | true =>
      repeat (first | refine Ops.pure T rfl (by decide) rfl ?_ | refine Ops.load 0 rfl (by decide) rfl rfl (T.aggOk rfl) rfl ?_)
      cases st with
      | false =>
        repeat (first | refine Run.seq ?_ | refine Run.region ?_ | refine Ops.nil ?_ | refine Run.skip ?_ | refine Run.cond_f rfl ?_ | refine Ops.not rfl (by decide) ?_ | refine Ops.eqlStr rfl (by decide) rfl rfl ?_ | refine Ops.pure T rfl (by decide) rfl ?_)
        cases h8 : decide (r = [105, 110, 100, 101, 120, 46, 100, 111, 99, 107, 101, 114, 46, 105, 111]) with
        | false =>
          have h8' : decide (r = hubT) = false := h8
          repeat (first | refine Run.seq ?_ | refine Run.region ?_ | refine Ops.nil ?_ | refine Run.skip ?_ | refine Run.cond_f rfl ?_ | refine Ops.not rfl (by decide) ?_ | refine Ops.pure T rfl (by decide) rfl ?_)
          refine Run.fin (Run.ret4 (by rw [hCf]; exact func12) results12 rfl rfl rfl rfl (hR _ _ _ ?_))
          refine ⟨rfl, ?_⟩
          rw [hrep]
          simp only [hpg, implNs, fullP, h8', Bool.not_false, Bool.not_true, Bool.true_or, Bool.or_true, Bool.false_or, Bool.or_false, Bool.true_and, Bool.false_and, Bool.and_false, Bool.and_true, Bool.false_eq_true, if_true, if_false]
          rfl
        | true =>
          have h8' : decide (r = hubT) = true := h8
          repeat (first | refine Ops.pure T rfl (by decide) rfl ?_)
          refine Ops.call ((spec_firstOf (s) 47 _ (by omega))) rfl (by decide) call47 rfl ?_
          rintro _ J5 l5 rfl
          repeat (first | refine Ops.nil ?_ | refine Ops.lss rfl (by decide) rfl rfl ?_ | refine Ops.pure T rfl (by decide) rfl ?_)
          rw [ixI_has']
          cases h9 : hasB 47 (s) with
          | true =>
            repeat (first | refine Run.seq ?_ | refine Run.region ?_ | refine Ops.nil ?_ | refine Run.skip ?_ | refine Run.cond_f rfl ?_ | refine Ops.pure T rfl (by decide) rfl ?_)
            refine Run.fin (Run.ret4 (by rw [hCf]; exact func12) results12 rfl rfl rfl rfl (hR _ _ _ ?_))
            refine ⟨rfl, ?_⟩
            rw [hrep]
            simp only [hpg, h9, implNs, fullP, h8', Bool.not_false, Bool.not_true, Bool.true_or, Bool.or_true, Bool.false_or, Bool.or_false, Bool.true_and, Bool.false_and, Bool.and_false, Bool.and_true, Bool.false_eq_true, if_true, if_false]
            rfl
          | false =>
            repeat (first | refine Run.seq ?_ | refine Run.region ?_ | refine Ops.nil ?_ | refine Run.skip ?_ | refine Run.cond_t rfl ?_ | refine Run.cond_f rfl ?_ | refine Ops.cat rfl (by decide) rfl rfl (by first | omega | (simp only [List.length_cons, List.length_nil] ; omega) | (simp; omega)) ?_ | refine Ops.pure T rfl (by decide) rfl ?_ | refine Ops.load 0 rfl (by decide) rfl rfl (T.aggOk rfl) rfl ?_)
            refine Run.fin (Run.ret4 (by rw [hCf]; exact func12) results12 rfl rfl rfl rfl (hR _ _ _ ?_))
            refine ⟨rfl, ?_⟩
            rw [hrep]
            simp only [hpg, h9, implNs, fullP, h8', Bool.not_false, Bool.not_true, Bool.true_or, Bool.or_true, Bool.false_or, Bool.or_false, Bool.true_and, Bool.false_and, Bool.and_false, Bool.and_true, Bool.false_eq_true, if_true, if_false]
            rfl
      | true =>
        repeat (first | refine Run.seq ?_ | refine Run.region ?_ | refine Ops.nil ?_ | refine Run.cond_t rfl ?_ | refine Ops.eqlStr rfl (by decide) rfl rfl ?_ | refine Ops.pure T rfl (by decide) rfl ?_)
        refine Run.fin (Run.ret4 (by rw [hCf]; exact func12) results12 rfl rfl rfl rfl (hR _ _ _ ?_))
        refine ⟨rfl, ?_⟩
        rw [hrep]
        simp only [hpg, hnil, Bool.not_false, Bool.not_true, Bool.true_or, Bool.or_true, Bool.false_or, Bool.or_false, Bool.true_and, Bool.false_and, if_true]
        rfl
    | true =>
      have hcut : hostCut s = (s.take k, s.drop (k + 1)) := by rw [hcut0, if_pos hho]
      repeat (first | refine Ops.nil ?_ | refine Run.cond_t rfl ?_ | refine Ops.pure T rfl (by decide) rfl ?_)
      refine Run.regionAny (Holds J2 []) (bl 9 0) (by kernel_rfl) (by kernel_rfl) ?_
      refine RAny.tk 0 (bl 9 1) rfl (by kernel_rfl) (by decide) (fun W h => h.holds (Le.refl _) (by first | exact mp rfl | exact mq rfl)) (Yld.eval T rfl rfl) ?_
      refine RAny.tk 1 (bl 9 3) rfl (by kernel_rfl) (by decide) (fun W h => h.holds (Le.refl _) (by first | exact mp rfl | exact mq rfl)) (Yld.eval T rfl rfl) ?_
      refine RAny.tk 2 (bl 9 7) rfl (by kernel_rfl) (by decide) (fun W h => h.holds (Le.refl _) (by first | exact mp rfl | exact mq rfl)) (Yld.as (v' := str (s.take k)) (Yld.sliceHi T rfl rfl rfl rfl (by omega) (by omega)) (by rw [ek])) ?_
      refine RAny.tk 3 (bl 9 15) rfl (by kernel_rfl) (by decide) (fun W h => h.holds (Le.refl _) (by first | exact mp rfl | exact mq rfl)) (Yld.eval T rfl rfl) ?_
      refine RAny.tk 4 (bl 9 31) rfl (by kernel_rfl) (by decide) (fun W h => h.holds (Le.refl _) (by first | exact mp rfl | exact mq rfl)) (Yld.eval T rfl rfl) ?_
      refine RAny.tk 5 (bl 9 63) rfl (by kernel_rfl) (by decide) (fun W h => h.holds (Le.refl _) (by first | exact mp rfl | exact mq rfl)) (Yld.add rfl rfl rfl (wI (by omega) (by omega))) ?_
      refine RAny.tk 6 (bl 9 127) rfl (by kernel_rfl) (by decide) (fun W h => h.holds (Le.refl _) (by first | exact mp rfl | exact mq rfl)) (Yld.as (v' := str (s.drop (k + 1))) (Yld.sliceLo T rfl rfl rfl rfl (by omega) (by omega)) (by congr 2)) ?_
      refine RAny.tk 7 (bl 9 255) rfl (by kernel_rfl) (by decide) (fun W h => h.holds (Le.refl _) (by first | exact mp rfl | exact mq rfl)) (Yld.eval T rfl rfl) ?_
      refine RAny.tk 8 (bl 9 511) rfl (by kernel_rfl) (by decide) (fun W h => h.holds (Le.refl _) (by first | exact mp rfl | exact mq rfl)) (Yld.eval T rfl rfl) ?_
      refine RAny.done _ (by kernel_rfl) ?_
      have hne : decide (s.take k = []) = false := decide_eq_false (hosted_ne hho)
      have hl2 : (s.drop (k + 1) : Tx).length ≤ s.length := by first | (simp; done) | (simp; omega) | omega
      repeat (first | refine Run.seq ?_ | refine Run.region ?_ | refine Ops.pure T rfl (by decide) rfl ?_ | refine Ops.load 0 rfl (by decide) rfl rfl (T.aggOk rfl) rfl ?_)
      refine Ops.buildL bd30 rfl (by decide) rfl rfl ?_
      refine Ops.call ((spec_registryOf J2 (s.take k) ⟨false, false, reg, []⟩ (by first | (simp; done) | (simp; omega) | omega))) rfl (by decide) call11 rfl ?_
      rintro _ J3 l3 rfl
      unfold t3
      have hrep0 : sRepo st reg s = if !pathGood (s.drop (k + 1)) || !(sReg false reg (s.take k)).2.1 || (st && decide ((s.take k) = [])) then ([], [], false, (sReg false reg (s.take k)).2.2) else if implNs (sReg false reg (s.take k)).1 (s.drop (k + 1)) && st then ([], [], false, (sReg false reg (s.take k)).2.2) else ((sReg false reg (s.take k)).1, fullP (sReg false reg (s.take k)).1 (s.drop (k + 1)), true, (sReg false reg (s.take k)).2.2) := by
        unfold sRepo
        rw [hcut]
      generalize (sReg false reg (s.take k)).1 = r at *
      generalize (sReg false reg (s.take k)).2.1 = ok at *
      generalize (sReg false reg (s.take k)).2.2 = op at *
      have hrep := hrep0
      clear hrep0
      repeat (first | refine Run.seq ?_ | refine Run.region ?_ | refine Ops.nil ?_ | refine Ops.pure T rfl (by decide) rfl ?_)
      refine Ops.call ((spec_pathGood J3 (s.drop (k + 1)) (by omega))) rfl (by decide) call48 rfl ?_
      rintro _ J4 l4 rfl
      cases hpg : pathGood (s.drop (k + 1)) with
      | false =>
        repeat (first | refine Run.seq ?_ | refine Run.region ?_ | refine Ops.nil ?_ | refine Run.cond_t rfl ?_ | refine Ops.not rfl (by decide) ?_ | refine Ops.notU rfl (by decide) ?_ | refine Ops.pure T rfl (by decide) rfl ?_)
        refine Run.fin (Run.ret4 (by rw [hCf]; exact func12) results12 rfl rfl rfl rfl (hR _ _ _ ?_))
        refine ⟨rfl, ?_⟩
        rw [hrep]
        simp only [hpg, Bool.not_false, Bool.not_true, Bool.true_or, Bool.or_true, Bool.false_or, Bool.or_false, Bool.true_and, Bool.false_and, if_true]
        rfl
      | true =>
      repeat (first | refine Ops.pure T rfl (by decide) rfl ?_)
      cases ok with
      | false =>
        repeat (first | refine Run.seq ?_ | refine Run.region ?_ | refine Ops.nil ?_ | refine Run.cond_t rfl ?_ | refine Ops.not rfl (by decide) ?_ | refine Ops.notU rfl (by decide) ?_ | refine Ops.pure T rfl (by decide) rfl ?_)
        refine Run.fin (Run.ret4 (by rw [hCf]; exact func12) results12 rfl rfl rfl rfl (hR _ _ _ ?_))
        refine ⟨rfl, ?_⟩
        rw [hrep]
        simp only [hpg, Bool.not_false, Bool.not_true, Bool.true_or, Bool.or_true, Bool.false_or, Bool.or_false, Bool.true_and, Bool.false_and, if_true]
        rfl
      | true =>
      repeat (first | refine Ops.pure T rfl (by decide) rfl ?_ | refine Ops.load 0 rfl (by decide) rfl rfl (T.aggOk rfl) rfl ?_)
      cases st with
      | false =>
        repeat (first | refine Run.seq ?_ | refine Run.region ?_ | refine Ops.nil ?_ | refine Run.skip ?_ | refine Run.cond_f rfl ?_ | refine Ops.not rfl (by decide) ?_ | refine Ops.eqlStr rfl (by decide) rfl rfl ?_ | refine Ops.pure T rfl (by decide) rfl ?_)
        cases h8 : decide (r = [105, 110, 100, 101, 120, 46, 100, 111, 99, 107, 101, 114, 46, 105, 111]) with
        | false =>
          have h8' : decide (r = hubT) = false := h8
          repeat (first | refine Run.seq ?_ | refine Run.region ?_ | refine Ops.nil ?_ | refine Run.skip ?_ | refine Run.cond_f rfl ?_ | refine Ops.not rfl (by decide) ?_ | refine Ops.pure T rfl (by decide) rfl ?_)
          refine Run.fin (Run.ret4 (by rw [hCf]; exact func12) results12 rfl rfl rfl rfl (hR _ _ _ ?_))
          refine ⟨rfl, ?_⟩
          rw [hrep]
          simp only [hpg, implNs, fullP, h8', Bool.not_false, Bool.not_true, Bool.true_or, Bool.or_true, Bool.false_or, Bool.or_false, Bool.true_and, Bool.false_and, Bool.and_false, Bool.and_true, Bool.false_eq_true, if_true, if_false]
          rfl
        | true =>
          have h8' : decide (r = hubT) = true := h8
          repeat (first | refine Ops.pure T rfl (by decide) rfl ?_)
          refine Ops.call ((spec_firstOf (s.drop (k + 1)) 47 _ (by omega))) rfl (by decide) call47 rfl ?_
          rintro _ J5 l5 rfl
          repeat (first | refine Ops.nil ?_ | refine Ops.lss rfl (by decide) rfl rfl ?_ | refine Ops.pure T rfl (by decide) rfl ?_)
          rw [ixI_has']
          cases h9 : hasB 47 (s.drop (k + 1)) with
          | true =>
            repeat (first | refine Run.seq ?_ | refine Run.region ?_ | refine Ops.nil ?_ | refine Run.skip ?_ | refine Run.cond_f rfl ?_ | refine Ops.pure T rfl (by decide) rfl ?_)
            refine Run.fin (Run.ret4 (by rw [hCf]; exact func12) results12 rfl rfl rfl rfl (hR _ _ _ ?_))
            refine ⟨rfl, ?_⟩
            rw [hrep]
            simp only [hpg, h9, implNs, fullP, h8', Bool.not_false, Bool.not_true, Bool.true_or, Bool.or_true, Bool.false_or, Bool.or_false, Bool.true_and, Bool.false_and, Bool.and_false, Bool.and_true, Bool.false_eq_true, if_true, if_false]
            rfl
          | false =>
            repeat (first | refine Run.seq ?_ | refine Run.region ?_ | refine Ops.nil ?_ | refine Run.skip ?_ | refine Run.cond_t rfl ?_ | refine Run.cond_f rfl ?_ | refine Ops.cat rfl (by decide) rfl rfl (by first | omega | (simp only [List.length_cons, List.length_nil] ; omega) | (simp; omega)) ?_ | refine Ops.pure T rfl (by decide) rfl ?_ | refine Ops.load 0 rfl (by decide) rfl rfl (T.aggOk rfl) rfl ?_)
            refine Run.fin (Run.ret4 (by rw [hCf]; exact func12) results12 rfl rfl rfl rfl (hR _ _ _ ?_))
            refine ⟨rfl, ?_⟩
            rw [hrep]
            simp only [hpg, h9, implNs, fullP, h8', Bool.not_false, Bool.not_true, Bool.true_or, Bool.or_true, Bool.false_or, Bool.or_false, Bool.true_and, Bool.false_and, Bool.and_false, Bool.and_true, Bool.false_eq_true, if_true, if_false]
            rfl
      | true =>
        repeat (first | refine Ops.nil ?_ | refine Ops.eqlStr rfl (by decide) rfl rfl ?_ | refine Ops.pure T rfl (by decide) rfl ?_)
        rw [hne]
        repeat (first | refine Run.seq ?_ | refine Run.region ?_ | refine Run.skip ?_ | refine Run.cond_f rfl ?_ | refine Ops.eqlStr rfl (by decide) rfl rfl ?_ | refine Ops.pure T rfl (by decide) rfl ?_)
        cases h8 : decide (r = [105, 110, 100, 101, 120, 46, 100, 111, 99, 107, 101, 114, 46, 105, 111]) with
        | false =>
          have h8' : decide (r = hubT) = false := h8
          repeat (first | refine Run.seq ?_ | refine Run.region ?_ | refine Ops.nil ?_ | refine Run.skip ?_ | refine Run.cond_f rfl ?_ | refine Ops.not rfl (by decide) ?_ | refine Ops.pure T rfl (by decide) rfl ?_)
          refine Run.fin (Run.ret4 (by rw [hCf]; exact func12) results12 rfl rfl rfl rfl (hR _ _ _ ?_))
          refine ⟨rfl, ?_⟩
          rw [hrep]
          simp only [hpg, hne, implNs, fullP, h8', Bool.not_false, Bool.not_true, Bool.true_or, Bool.or_true, Bool.false_or, Bool.or_false, Bool.true_and, Bool.false_and, Bool.and_false, Bool.and_true, Bool.false_eq_true, if_true, if_false]
          rfl
        | true =>
          have h8' : decide (r = hubT) = true := h8
          repeat (first | refine Ops.pure T rfl (by decide) rfl ?_)
          refine Ops.call ((spec_firstOf (s.drop (k + 1)) 47 _ (by omega))) rfl (by decide) call47 rfl ?_
          rintro _ J5 l5 rfl
          repeat (first | refine Ops.nil ?_ | refine Ops.lss rfl (by decide) rfl rfl ?_ | refine Ops.pure T rfl (by decide) rfl ?_)
          rw [ixI_has']
          cases h9 : hasB 47 (s.drop (k + 1)) with
          | true =>
            repeat (first | refine Run.seq ?_ | refine Run.region ?_ | refine Ops.nil ?_ | refine Run.skip ?_ | refine Run.cond_f rfl ?_ | refine Ops.pure T rfl (by decide) rfl ?_)
            refine Run.fin (Run.ret4 (by rw [hCf]; exact func12) results12 rfl rfl rfl rfl (hR _ _ _ ?_))
            refine ⟨rfl, ?_⟩
            rw [hrep]
            simp only [hpg, hne, h9, implNs, fullP, h8', Bool.not_false, Bool.not_true, Bool.true_or, Bool.or_true, Bool.false_or, Bool.or_false, Bool.true_and, Bool.false_and, Bool.and_false, Bool.and_true, Bool.false_eq_true, if_true, if_false]
            rfl
          | false =>
            repeat (first | refine Run.seq ?_ | refine Run.region ?_ | refine Ops.nil ?_ | refine Run.cond_t rfl ?_ | refine Ops.pure T rfl (by decide) rfl ?_ | refine Ops.load 0 rfl (by decide) rfl rfl (T.aggOk rfl) rfl ?_)
            refine Run.fin (Run.ret4 (by rw [hCf]; exact func12) results12 rfl rfl rfl rfl (hR _ _ _ ?_))
            refine ⟨rfl, ?_⟩
            rw [hrep]
            simp only [hpg, hne, h9, implNs, fullP, h8', Bool.not_false, Bool.not_true, Bool.true_or, Bool.or_true, Bool.false_or, Bool.or_false, Bool.true_and, Bool.false_and, Bool.and_false, Bool.and_true, Bool.false_eq_true, if_true, if_false]
            rfl
end Go.V
