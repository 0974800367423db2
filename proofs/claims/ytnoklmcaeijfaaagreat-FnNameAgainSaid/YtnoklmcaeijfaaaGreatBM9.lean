import Derived.Test.YtnoklmcaeijfaaaGreatBM8
import Derived.Test.YtnoklmcaeijfaaaGreatBM6
/-
  A name read, as the package does.
-/
namespace Go.V
open Go.RowKit
set_option linter.unusedVariables false
set_option linter.unusedSimpArgs false
set_option maxRecDepth 10000
attribute [local irreducible] Run Ops
theorem meth_tag_name (x : Value) (w : World) : (callMethod (.iface 56 x) "Name" #[]).run Proofs.Tryz.prog w = .ok (.enter 54 #[x]) w := by kernel_rfl
theorem meth_tag_str (x : Value) (w : World) : (callMethod (.iface 56 x) "String" #[]).run Proofs.Tryz.prog w = .ok (.enter 55 #[x]) w := by kernel_rfl
theorem meth_tag_scope (x y : Value) (w : World) : (callMethod (.iface 56 x) "Scope" #[y]).run Proofs.Tryz.prog w = .ok (.enter 57 #[x, y]) w := by kernel_rfl
theorem meth_dig_id (x : Value) (w : World) : (callMethod (.iface 59 x) "Identifier" #[]).run Proofs.Tryz.prog w = .ok (.enter 138 #[x]) w := by kernel_rfl
theorem meth_dig_name (x : Value) (w : World) : (callMethod (.iface 59 x) "Name" #[]).run Proofs.Tryz.prog w = .ok (.enter 63 #[x]) w := by kernel_rfl
theorem meth_dig_str (x : Value) (w : World) : (callMethod (.iface 59 x) "String" #[]).run Proofs.Tryz.prog w = .ok (.enter 64 #[x]) w := by kernel_rfl
theorem meth_dig_scope (a b c d e y : Value) (w : World) : (callMethod (.iface 59 (.agg #[a, b, c, d, e])) "Scope" #[y]).run Proofs.Tryz.prog w = .ok (.enter 65 #[.agg #[a, b, c], y]) w := by kernel_rfl
def NmAns (o : NOpt) (which : Int) (s : Tx) (a : Option Nm) : Prop := ∀ k r p t ok, sParts o which s = (k, r, p, t, ok, false) → match a with
  | some n => ok = true ∧ n = nmd (o.ins || pHttp r) k r p t s
  | none => ok = false
def nmRes (a : Option Nm) (w : Value) : Prop := match a with
  | some n => w = .tuple #[.agg n.cs.toArray, .bool true, .bool false]
  | none => w = .tuple #[.agg Nm.zero.cs.toArray, .bool false, .bool true]
def nmBig (s : Tx) (o : NOpt) : Nat := 12 * (s.length + o.reg.length + o.tag.length) + 3000
def nmOk (s : Tx) (o : NOpt) (a : Option Nm) : Prop := ∀ n, a = some n → n.name.length ≤ nmBig s o ∧ (n.kind = 1 ∨ n.kind = 2 ∨ n.kind = 3 ∨ n.kind = 4)
theorem NmAns.reg {o : NOpt} {s : Tx} {a : Option Tx} (h : RegAns o.strict o.reg s a) : NmAns o 1 s (a.map fun r => nmd (o.ins || pHttp r) 1 r [] [] s) := by
  intro k r p t ok hs
  simp only [sParts, if_true, Prod.mk.injEq] at hs
  obtain ⟨rfl, h1, rfl, rfl, h4, h5⟩ := hs
  have := h r ok (Prod.ext h1 (Prod.ext h4 h5))
  subst this
  cases ok with
  | true => exact ⟨rfl, rfl⟩
  | false => rfl
theorem NmAns.repo {o : NOpt} {s : Tx} {a : Option (Tx × Tx)} (h : RepoAns o.strict o.reg s a) : NmAns o 2 s (a.map fun x => nmd (o.ins || pHttp x.1) 2 x.1 (fullP x.1 x.2) [] s) := by
  intro k r p t ok hs
  simp only [sParts, show ¬ (2 : Int) = 1 by decide, if_false, if_true, Prod.mk.injEq] at hs
  obtain ⟨rfl, h1, h2, rfl, h4, h5⟩ := hs
  have := h r p ok (Prod.ext h1 (Prod.ext h2 (Prod.ext h4 h5)))
  cases a with
  | none => exact this
  | some x =>
    obtain ⟨g1, g2, g3⟩ := this
    exact ⟨g1, by simp only [g2, g3]⟩
theorem NmAns.tag {o : NOpt} {s : Tx} {a : Option (Tx × Tx × Tx)} (h : TagAns o s a) : NmAns o 3 s (a.map fun x => nmd (o.ins || pHttp x.1) 3 x.1 (fullP x.1 x.2.1) x.2.2 s) := by
  intro k r p t ok hs
  simp only [sParts, show ¬ (3 : Int) = 1 by decide, show ¬ (3 : Int) = 2 by decide, if_false, if_true, Prod.mk.injEq] at hs
  obtain ⟨rfl, h1, h2, h3, h4, h5⟩ := hs
  have := h r p t ok (Prod.ext h1 (Prod.ext h2 (Prod.ext h3 (Prod.ext h4 h5))))
  cases a with
  | none => exact this
  | some x =>
    obtain ⟨g1, g2, g3, g4⟩ := this
    exact ⟨g1, by simp only [g2, g3, g4]⟩
theorem NmAns.dig {o : NOpt} {s : Tx} {a : Option (Tx × Tx × Tx)} (h : DigAns o s a) : NmAns o 4 s (a.map fun x => nmd (o.ins || pHttp x.1) 4 x.1 (fullP x.1 x.2.1) x.2.2 s) := by
  intro k r p t ok hs
  simp only [sParts, show ¬ (4 : Int) = 1 by decide, show ¬ (4 : Int) = 2 by decide, show ¬ (4 : Int) = 3 by decide, if_false, if_true, Prod.mk.injEq] at hs
  obtain ⟨rfl, h1, h2, h3, h4, h5⟩ := hs
  have := h r p t ok (Prod.ext h1 (Prod.ext h2 (Prod.ext h3 (Prod.ext h4 h5))))
  cases a with
  | none => exact this
  | some x =>
    obtain ⟨g1, g2, g3, g4⟩ := this
    exact ⟨g1, by simp only [g2, g3, g4]⟩
theorem NmAns.ref {o : NOpt} {s : Tx} {a : Option (Bool × Tx × Tx × Tx)} (h : RefAns o s a) : NmAns o 0 s (a.map fun x => nmd (o.ins || pHttp x.2.1) (if x.1 then 4 else 3) x.2.1 (fullP x.2.1 x.2.2.1) x.2.2.2 s) := by
  intro k r p t ok hs
  have := h k r p t ok hs
  cases a with
  | none => exact this
  | some x =>
    obtain ⟨g1, g2, g3, g4, g5⟩ := this
    exact ⟨g1, by simp only [g2, g3, g4, g5]⟩
theorem regOk_len {reg : Tx} (h : regOk reg) : reg.length ≤ 306 := by
  rcases h with rfl | h
  · decide
  · simp only [hostNamed, Bool.and_eq_true] at h
    have h1 := h.1
    unfold hostPlain at h1
    cases hk : ix 58 reg with
    | none =>
      rw [hk] at h1
      simp only [hp, Bool.and_eq_true] at h1
      have := (sWithin_all h1.1).2.2
      omega
    | some k =>
      rw [hk] at h1
      simp only [hp, Bool.and_eq_true] at h1
      have a1 := (sWithin_all h1.1).2.2
      have a2 := (sWithin_all h1.2.1).2.2
      have := ix_lt hk
      simp at a1 a2
      omega
theorem nmOk.none {s : Tx} {o : NOpt} : nmOk s o none := fun n h => by cases h
theorem nmOk.some {sch : Bool} {k : Int} {r p t s s' : Tx} {o : NOpt} (hk : k = 1 ∨ k = 2 ∨ k = 3 ∨ k = 4) (h : r.length + p.length + t.length + 10 ≤ nmBig s o) : nmOk s o (some (nmd sch k r p t s')) := by
  intro n hn
  cases hn
  unfold nmd
  rcases hk with rfl | rfl | rfl | rfl <;> simp [repoT] <;> omega
set_option maxHeartbeats 8000000 in
theorem impl_NameParse (I : Imm) (s : Tx) (which : Int) (o : NOpt) (hro : regOk o.reg) (hsz : nmBig s o ≤ 137438950000) (hw : which = 0 ∨ which = 1 ∨ which = 2 ∨ which = 3 ∨ which = 4) : Pure Proofs.Tryz.prog 11 [str s, .int .i64 which, .agg o.cs.toArray] I fun w J =>
    ∃ a, nmRes a w ∧ NmAns o which s a ∧ nmOk s o a := by
  have hsz' : 12 * (s.length + o.reg.length + o.tag.length) + 3000 ≤ 137438950000 := hsz
  have hrl := regOk_len hro
  rcases hw with rfl | rfl | rfl | rfl | rfl
  · skip
    refine Spec.enter 135 [(0, _), (1, _), (2, _)] Proofs.Tryz.func11 rfl Proofs.Tryz.ntmps11 (by simp) rfl ?_
    intro C hCf hR hCI
    repeat (first | refine Run.seq ?_ | refine Run.region ?_)
    refine Ops.box rfl (by decide) rfl rfl (fun b1 => ?_)
    refine Ops.alloc rfl (by decide) (T.zeroOk rfl) rfl (fun b2 => ?_)
    repeat (first | refine Run.seq ?_ | refine Run.region ?_ | refine Ops.nil ?_ | refine Run.block ?_ | refine Run.cond_t rfl ?_ | refine Ops.eql rfl (by decide) rfl rfl ?_ | refine Ops.pure T rfl (by decide) rfl ?_ | refine Ops.loadN 1 rfl (by decide) rfl rfl (T.aggOk rfl) (T.sizeOk rfl) rfl rfl ?_)
    refine Ops.call ((NameOpts_options I o)) rfl (by decide) Proofs.Tryz.call22 rfl ?_
    rintro v J1 l1 hS
    refine Ops.call ((name_ParseReference J1 s v o hro (OptsAre.of hS) (by omega) (by omega))) rfl (by decide) Proofs.Tryz.call21 rfl ?_
    rintro w J2 l2 ⟨a, hres, hans, hlen⟩
    match a, hres, hans, hlen with
    | none, hres, hans, hlen =>
      obtain ⟨b5, rfl⟩ := hres
      unfold errV
      repeat (first | refine Run.seq ?_ | refine Run.region ?_ | refine Ops.nil ?_ | refine Run.cond_t rfl ?_ | refine Ops.neqNil T rfl (by decide) rfl rfl rfl rfl rfl ?_ | refine Ops.pure T rfl (by decide) rfl ?_)
      refine Ops.call ((impl_bad _ b5)) rfl (by decide) Proofs.Tryz.call23 rfl ?_
      rintro _ J9 l9 rfl
      repeat (first | refine Ops.nil ?_ | refine Ops.pure T rfl (by decide) rfl ?_ | refine Ops.store 0 rfl rfl rfl rfl rfl (T.sizeOk rfl) rfl (Nat.le_of_ble_eq_true rfl) rfl rfl ?_)
      refine Run.retCTT T 0 (by rw [hCf]; exact Proofs.Tryz.func11) Proofs.Tryz.results11 rfl rfl rfl rfl rfl rfl rfl rfl (hR _ _ _ ?_)
      exact ⟨rfl, none, rfl, NmAns.ref hans, nmOk.none⟩
    | some (false, x), hres, hans, hlen =>
      obtain ⟨p1, p2, p3, p4⟩ := hlen _ rfl
      unfold big at p2 p3 p4
      simp only at p1 p2 p3 p4
      have q := fullP_len x.1 x.2.1
      have hres2 : w = _ := hres
      subst hres2
      repeat (first | refine Run.seq ?_ | refine Run.region ?_ | refine Ops.nil ?_ | refine Run.skip ?_ | refine Run.block ?_ | refine Run.cond_f rfl ?_ | refine Ops.neqNil T rfl (by decide) rfl rfl rfl rfl rfl ?_ | refine Ops.pure T rfl (by decide) rfl ?_)
      refine Ops.assertYes T rfl (by decide) rfl rfl rfl ?_
      repeat (first | refine Run.seq ?_ | refine Run.region ?_ | refine Ops.nil ?_ | refine Run.cond_t rfl ?_ | refine Ops.pure T rfl (by decide) rfl ?_)
      refine Ops.alloc rfl (by decide) (T.zeroOk rfl) rfl (fun b6 => ?_)
      repeat (first | refine Run.region ?_ | refine Ops.nil ?_ | refine Ops.loadN 0 rfl (by decide) rfl rfl (T.aggOk rfl) (T.sizeOk rfl) rfl rfl ?_ | refine Ops.store 0 rfl rfl rfl rfl rfl (T.sizeOk rfl) rfl (Nat.le_of_ble_eq_true rfl) rfl rfl ?_)
      refine Ops.call ((impl_tagNamed J2 o.ins x.1 x.2.1 x.2.2 s (by omega) (by omega) (by omega) p1)) rfl (by decide) Proofs.Tryz.call24 rfl ?_
      rintro _ J3 l3 rfl
      rw [show nmd (o.ins || pHttp x.1) 3 x.1 (fullP x.1 x.2.1) x.2.2 s = Nm.mk 3 x.1 (fullP x.1 x.2.1) x.2.2 (repoT x.1 (fullP x.1 x.2.1) ++ [58] ++ x.2.2) s (schemeT (o.ins || pHttp x.1)) (scopeT (fullP x.1 x.2.1)) (repoT x.1 (fullP x.1 x.2.1)) (repoT x.1 (fullP x.1 x.2.1)) x.1 from rfl]
      repeat (first | refine Run.region ?_ | refine Ops.nil ?_ | refine Run.inBlock ?_ | refine Ops.pure T rfl (by decide) rfl ?_ | refine Ops.store 1 rfl rfl rfl rfl rfl (T.sizeOk rfl) rfl (Nat.le_of_ble_eq_true rfl) rfl rfl ?_)
      refine Ops.callI (Tag_Identifier J3 o.ins x.1 x.2.1 x.2.2 s) rfl (by decide) rfl rfl (fun w => meth_tag_id _ w) ?_
      rintro _ J4 l4 rfl
      repeat (first | refine Ops.pure T rfl (by decide) rfl ?_)
      refine Ops.callI (Tag_Name J4 o.ins x.1 x.2.1 x.2.2 s (by omega) (by omega) (by omega) p1) rfl (by decide) rfl rfl (fun w => meth_tag_name _ w) ?_
      rintro _ J5 l5 rfl
      repeat (first | refine Ops.pure T rfl (by decide) rfl ?_)
      refine Ops.callI (Tag_String J5 o.ins x.1 x.2.1 x.2.2 s) rfl (by decide) rfl rfl (fun w => meth_tag_str _ w) ?_
      rintro _ J6 l6 rfl
      repeat (first | refine Ops.pure T rfl (by decide) rfl ?_)
      refine Ops.callI (Tag_Scope J6 o.ins x.1 x.2.1 x.2.2 s (by omega)) rfl (by decide) rfl rfl (fun w => meth_tag_scope _ _ w) ?_
      rintro _ J7 l7 rfl
      repeat (first | refine Run.seq ?_ | refine Run.region ?_ | refine Ops.nil ?_ | refine Run.inBlock ?_ | refine Ops.pure T rfl (by decide) rfl ?_ | refine Ops.loadN 1 rfl (by decide) rfl rfl (T.aggOk rfl) (T.sizeOk rfl) rfl rfl ?_ | refine Ops.store 1 rfl rfl rfl rfl rfl (T.sizeOk rfl) rfl (Nat.le_of_ble_eq_true rfl) rfl rfl ?_)
      refine Run.retCTT T 1 (by rw [hCf]; exact Proofs.Tryz.func11) Proofs.Tryz.results11 rfl rfl rfl rfl rfl rfl rfl rfl (hR _ _ _ ?_)
      refine ⟨rfl, some (nmd (o.ins || pHttp x.1) 3 x.1 (fullP x.1 x.2.1) x.2.2 s), rfl, NmAns.ref hans, nmOk.some (by decide) ?_⟩
      unfold nmBig; omega
    | some (true, x), hres, hans, hlen =>
      obtain ⟨p1, p2, p3, p4⟩ := hlen _ rfl
      unfold big at p2 p3 p4
      simp only at p1 p2 p3 p4
      have q := fullP_len x.1 x.2.1
      have hres2 : w = _ := hres
      subst hres2
      repeat (first | refine Run.seq ?_ | refine Run.region ?_ | refine Ops.nil ?_ | refine Run.skip ?_ | refine Run.block ?_ | refine Run.cond_f rfl ?_ | refine Ops.neqNil T rfl (by decide) rfl rfl rfl rfl rfl ?_ | refine Ops.pure T rfl (by decide) rfl ?_)
      refine Ops.assertNo T rfl (by decide) rfl rfl rfl rfl rfl ?_
      repeat (first | refine Run.seq ?_ | refine Run.region ?_ | refine Ops.nil ?_ | refine Run.cond_f rfl ?_ | refine Ops.pure T rfl (by decide) rfl ?_)
      refine Ops.assertYes T rfl (by decide) rfl rfl rfl ?_
      repeat (first | refine Run.seq ?_ | refine Run.region ?_ | refine Ops.nil ?_ | refine Run.cond_t rfl ?_ | refine Ops.pure T rfl (by decide) rfl ?_)
      refine Ops.alloc rfl (by decide) (T.zeroOk rfl) rfl (fun b6 => ?_)
      repeat (first | refine Run.region ?_ | refine Ops.nil ?_ | refine Ops.loadN 0 rfl (by decide) rfl rfl (T.aggOk rfl) (T.sizeOk rfl) rfl rfl ?_ | refine Ops.store 0 rfl rfl rfl rfl rfl (T.sizeOk rfl) rfl (Nat.le_of_ble_eq_true rfl) rfl rfl ?_)
      refine Ops.call ((impl_digestNamed J2 o.ins x.1 x.2.1 x.2.2 s (by omega) (by omega) (by omega) p1)) rfl (by decide) Proofs.Tryz.call25 rfl ?_
      rintro _ J3 l3 rfl
      rw [show nmd (o.ins || pHttp x.1) 4 x.1 (fullP x.1 x.2.1) x.2.2 s = Nm.mk 4 x.1 (fullP x.1 x.2.1) x.2.2 (repoT x.1 (fullP x.1 x.2.1) ++ [64] ++ x.2.2) s (schemeT (o.ins || pHttp x.1)) (scopeT (fullP x.1 x.2.1)) (repoT x.1 (fullP x.1 x.2.1)) (repoT x.1 (fullP x.1 x.2.1)) x.1 from rfl]
      repeat (first | refine Run.region ?_ | refine Ops.nil ?_ | refine Run.inBlock ?_ | refine Ops.pure T rfl (by decide) rfl ?_ | refine Ops.store 1 rfl rfl rfl rfl rfl (T.sizeOk rfl) rfl (Nat.le_of_ble_eq_true rfl) rfl rfl ?_)
      refine Ops.callI (Digest_Identifier J3 o.ins x.1 x.2.1 x.2.2 s) rfl (by decide) rfl rfl (fun w => meth_dig_id _ w) ?_
      rintro _ J4 l4 rfl
      repeat (first | refine Ops.pure T rfl (by decide) rfl ?_)
      refine Ops.callI (Digest_Name J4 o.ins x.1 x.2.1 x.2.2 s (by omega) (by omega) (by omega) p1) rfl (by decide) rfl rfl (fun w => meth_dig_name _ w) ?_
      rintro _ J5 l5 rfl
      repeat (first | refine Ops.pure T rfl (by decide) rfl ?_)
      refine Ops.callI (Digest_String J5 o.ins x.1 x.2.1 x.2.2 s) rfl (by decide) rfl rfl (fun w => meth_dig_str _ w) ?_
      rintro _ J6 l6 rfl
      repeat (first | refine Ops.pure T rfl (by decide) rfl ?_)
      refine Ops.callI (Repository_Scope J6 o.ins x.1 x.2.1 (by omega)) rfl (by decide) rfl rfl (fun w => meth_dig_scope _ _ _ _ _ _ w) ?_
      rintro _ J7 l7 rfl
      repeat (first | refine Run.seq ?_ | refine Run.region ?_ | refine Ops.nil ?_ | refine Run.inBlock ?_ | refine Ops.pure T rfl (by decide) rfl ?_ | refine Ops.loadN 1 rfl (by decide) rfl rfl (T.aggOk rfl) (T.sizeOk rfl) rfl rfl ?_ | refine Ops.store 1 rfl rfl rfl rfl rfl (T.sizeOk rfl) rfl (Nat.le_of_ble_eq_true rfl) rfl rfl ?_)
      refine Run.retCTT T 1 (by rw [hCf]; exact Proofs.Tryz.func11) Proofs.Tryz.results11 rfl rfl rfl rfl rfl rfl rfl rfl (hR _ _ _ ?_)
      refine ⟨rfl, some (nmd (o.ins || pHttp x.1) 4 x.1 (fullP x.1 x.2.1) x.2.2 s), rfl, NmAns.ref hans, nmOk.some (by decide) ?_⟩
      unfold nmBig; omega
  · skip
    refine Spec.enter 135 [(0, _), (1, _), (2, _)] Proofs.Tryz.func11 rfl Proofs.Tryz.ntmps11 (by simp) rfl ?_
    intro C hCf hR hCI
    repeat (first | refine Run.seq ?_ | refine Run.region ?_)
    refine Ops.box rfl (by decide) rfl rfl (fun b1 => ?_)
    refine Ops.alloc rfl (by decide) (T.zeroOk rfl) rfl (fun b2 => ?_)
    repeat (first | refine Run.seq ?_ | refine Run.region ?_ | refine Ops.nil ?_ | refine Run.block ?_ | refine Run.cond_t rfl ?_ | refine Run.cond_f rfl ?_ | refine Ops.eql rfl (by decide) rfl rfl ?_ | refine Ops.pure T rfl (by decide) rfl ?_ | refine Ops.loadN 1 rfl (by decide) rfl rfl (T.aggOk rfl) (T.sizeOk rfl) rfl rfl ?_)
    refine Ops.call ((NameOpts_options I o)) rfl (by decide) Proofs.Tryz.call22 rfl ?_
    rintro v J1 l1 hS
    refine Ops.call ((name_NewRegistry J1 s v o (OptsAre.of hS) (by omega))) rfl (by decide) Proofs.Tryz.call26 rfl ?_
    rintro w J2 l2 ⟨a, hres, hans, hlen⟩
    cases a with
    | none =>
      obtain ⟨b5, rfl⟩ := hres
      unfold errV
      repeat (first | refine Ops.pure T rfl (by decide) rfl ?_)
      refine Ops.alloc rfl (by decide) (T.zeroOk rfl) rfl (fun b4 => ?_)
      repeat (first | refine Run.seq ?_ | refine Run.region ?_ | refine Ops.nil ?_ | refine Run.cond_t rfl ?_ | refine Ops.neqNil T rfl (by decide) rfl rfl rfl rfl rfl ?_ | refine Ops.pure T rfl (by decide) rfl ?_ | refine Ops.store 0 rfl rfl rfl rfl rfl (T.sizeOk rfl) rfl (Nat.le_of_ble_eq_true rfl) rfl rfl ?_)
      refine Ops.call ((impl_bad _ b5)) rfl (by decide) Proofs.Tryz.call23 rfl ?_
      rintro _ J9 l9 rfl
      repeat (first | refine Ops.nil ?_ | refine Ops.pure T rfl (by decide) rfl ?_ | refine Ops.store 1 rfl rfl rfl rfl rfl (T.sizeOk rfl) rfl (Nat.le_of_ble_eq_true rfl) rfl rfl ?_)
      refine Run.retCTT T 1 (by rw [hCf]; exact Proofs.Tryz.func11) Proofs.Tryz.results11 rfl rfl rfl rfl rfl rfl rfl rfl (hR _ _ _ ?_)
      exact ⟨rfl, none, rfl, NmAns.reg hans, nmOk.none⟩
    | some r =>
      obtain ⟨p1, p2⟩ := hlen r rfl
      have hres2 : w = _ := hres
      subst hres2
      repeat (first | refine Ops.pure T rfl (by decide) rfl ?_)
      refine Ops.alloc rfl (by decide) (T.zeroOk rfl) rfl (fun b4 => ?_)
      repeat (first | refine Run.seq ?_ | refine Run.region ?_ | refine Ops.nil ?_ | refine Run.skip ?_ | refine Run.cond_f rfl ?_ | refine Ops.neqNil T rfl (by decide) rfl rfl rfl rfl rfl ?_ | refine Ops.pure T rfl (by decide) rfl ?_ | refine Ops.loadN 0 rfl (by decide) rfl rfl (T.aggOk rfl) (T.sizeOk rfl) rfl rfl ?_ | refine Ops.store 0 rfl rfl rfl rfl rfl (T.sizeOk rfl) rfl (Nat.le_of_ble_eq_true rfl) rfl rfl ?_)
      refine Ops.call ((impl_registryNamed J2 o.ins r (by omega))) rfl (by decide) Proofs.Tryz.call27 rfl ?_
      rintro _ J3 l3 rfl
      repeat (first | refine Run.seq ?_ | refine Run.region ?_ | refine Ops.nil ?_ | refine Run.inBlock ?_ | refine Ops.pure T rfl (by decide) rfl ?_ | refine Ops.loadN 1 rfl (by decide) rfl rfl (T.aggOk rfl) (T.sizeOk rfl) rfl rfl ?_ | refine Ops.store 1 rfl rfl rfl rfl rfl (T.sizeOk rfl) rfl (Nat.le_of_ble_eq_true rfl) rfl rfl ?_)
      refine Run.retCTT T 1 (by rw [hCf]; exact Proofs.Tryz.func11) Proofs.Tryz.results11 rfl rfl rfl rfl rfl rfl rfl rfl (hR _ _ _ ?_)
      refine ⟨rfl, some (nmd (o.ins || pHttp r) 1 r [] [] s), rfl, NmAns.reg hans, nmOk.some (by decide) ?_⟩
      unfold nmBig; simp; omega
  · skip
    refine Spec.enter 135 [(0, _), (1, _), (2, _)] Proofs.Tryz.func11 rfl Proofs.Tryz.ntmps11 (by simp) rfl ?_
    intro C hCf hR hCI
    repeat (first | refine Run.seq ?_ | refine Run.region ?_)
    refine Ops.box rfl (by decide) rfl rfl (fun b1 => ?_)
    refine Ops.alloc rfl (by decide) (T.zeroOk rfl) rfl (fun b2 => ?_)
    repeat (first | refine Run.seq ?_ | refine Run.region ?_ | refine Ops.nil ?_ | refine Run.block ?_ | refine Run.cond_t rfl ?_ | refine Run.cond_f rfl ?_ | refine Ops.eql rfl (by decide) rfl rfl ?_ | refine Ops.pure T rfl (by decide) rfl ?_ | refine Ops.loadN 1 rfl (by decide) rfl rfl (T.aggOk rfl) (T.sizeOk rfl) rfl rfl ?_)
    refine Ops.call ((NameOpts_options I o)) rfl (by decide) Proofs.Tryz.call22 rfl ?_
    rintro v J1 l1 hS
    refine Ops.call ((name_NewRepository J1 s v o (OptsAre.of hS) (by omega))) rfl (by decide) Proofs.Tryz.call28 rfl ?_
    rintro w J2 l2 ⟨a, hres, hans, hlen⟩
    cases a with
    | none =>
      obtain ⟨b5, rfl⟩ := hres
      unfold errV
      repeat (first | refine Ops.pure T rfl (by decide) rfl ?_)
      refine Ops.alloc rfl (by decide) (T.zeroOk rfl) rfl (fun b4 => ?_)
      repeat (first | refine Run.seq ?_ | refine Run.region ?_ | refine Ops.nil ?_ | refine Run.cond_t rfl ?_ | refine Ops.neqNil T rfl (by decide) rfl rfl rfl rfl rfl ?_ | refine Ops.pure T rfl (by decide) rfl ?_ | refine Ops.store 0 rfl rfl rfl rfl rfl (T.sizeOk rfl) rfl (Nat.le_of_ble_eq_true rfl) rfl rfl ?_)
      refine Ops.call ((impl_bad _ b5)) rfl (by decide) Proofs.Tryz.call23 rfl ?_
      rintro _ J9 l9 rfl
      repeat (first | refine Ops.nil ?_ | refine Ops.pure T rfl (by decide) rfl ?_ | refine Ops.store 1 rfl rfl rfl rfl rfl (T.sizeOk rfl) rfl (Nat.le_of_ble_eq_true rfl) rfl rfl ?_)
      refine Run.retCTT T 1 (by rw [hCf]; exact Proofs.Tryz.func11) Proofs.Tryz.results11 rfl rfl rfl rfl rfl rfl rfl rfl (hR _ _ _ ?_)
      exact ⟨rfl, none, rfl, NmAns.repo hans, nmOk.none⟩
    | some x =>
      obtain ⟨p1, p2, p3⟩ := hlen x rfl
      have q := fullP_len x.1 x.2
      have hres2 : w = _ := hres
      subst hres2
      repeat (first | refine Ops.pure T rfl (by decide) rfl ?_)
      refine Ops.alloc rfl (by decide) (T.zeroOk rfl) rfl (fun b4 => ?_)
      repeat (first | refine Run.seq ?_ | refine Run.region ?_ | refine Ops.nil ?_ | refine Run.skip ?_ | refine Run.cond_f rfl ?_ | refine Ops.neqNil T rfl (by decide) rfl rfl rfl rfl rfl ?_ | refine Ops.pure T rfl (by decide) rfl ?_ | refine Ops.loadN 0 rfl (by decide) rfl rfl (T.aggOk rfl) (T.sizeOk rfl) rfl rfl ?_ | refine Ops.store 0 rfl rfl rfl rfl rfl (T.sizeOk rfl) rfl (Nat.le_of_ble_eq_true rfl) rfl rfl ?_)
      refine Ops.call ((impl_repositoryNamed J2 o.ins x.1 x.2 (by omega) (by omega) p1)) rfl (by decide) Proofs.Tryz.call29 rfl ?_
      rintro _ J3 l3 rfl
      repeat (first | refine Run.seq ?_ | refine Run.region ?_ | refine Ops.nil ?_ | refine Run.inBlock ?_ | refine Ops.pure T rfl (by decide) rfl ?_ | refine Ops.loadN 1 rfl (by decide) rfl rfl (T.aggOk rfl) (T.sizeOk rfl) rfl rfl ?_ | refine Ops.store 1 rfl rfl rfl rfl rfl (T.sizeOk rfl) rfl (Nat.le_of_ble_eq_true rfl) rfl rfl ?_)
      refine Run.retCTT T 1 (by rw [hCf]; exact Proofs.Tryz.func11) Proofs.Tryz.results11 rfl rfl rfl rfl rfl rfl rfl rfl (hR _ _ _ ?_)
      refine ⟨rfl, some (nmd (o.ins || pHttp x.1) 2 x.1 (fullP x.1 x.2) [] s), rfl, NmAns.repo hans, nmOk.some (by decide) ?_⟩
      unfold nmBig; simp; omega
  · skip
    refine Spec.enter 135 [(0, _), (1, _), (2, _)] Proofs.Tryz.func11 rfl Proofs.Tryz.ntmps11 (by simp) rfl ?_
    intro C hCf hR hCI
    repeat (first | refine Run.seq ?_ | refine Run.region ?_)
    refine Ops.box rfl (by decide) rfl rfl (fun b1 => ?_)
    refine Ops.alloc rfl (by decide) (T.zeroOk rfl) rfl (fun b2 => ?_)
    repeat (first | refine Run.seq ?_ | refine Run.region ?_ | refine Ops.nil ?_ | refine Run.block ?_ | refine Run.cond_t rfl ?_ | refine Run.cond_f rfl ?_ | refine Ops.eql rfl (by decide) rfl rfl ?_ | refine Ops.pure T rfl (by decide) rfl ?_ | refine Ops.loadN 1 rfl (by decide) rfl rfl (T.aggOk rfl) (T.sizeOk rfl) rfl rfl ?_)
    refine Ops.call ((NameOpts_options I o)) rfl (by decide) Proofs.Tryz.call22 rfl ?_
    rintro v J1 l1 hS
    refine Ops.call ((name_NewTag J1 s v o (OptsAre.of hS) (by omega))) rfl (by decide) Proofs.Tryz.call30 rfl ?_
    rintro w J2 l2 ⟨a, hres, hans, hlen⟩
    cases a with
    | none =>
      obtain ⟨b5, rfl⟩ := hres
      unfold errV
      repeat (first | refine Ops.pure T rfl (by decide) rfl ?_)
      refine Ops.alloc rfl (by decide) (T.zeroOk rfl) rfl (fun b4 => ?_)
      repeat (first | refine Run.seq ?_ | refine Run.region ?_ | refine Ops.nil ?_ | refine Run.cond_t rfl ?_ | refine Ops.neqNil T rfl (by decide) rfl rfl rfl rfl rfl ?_ | refine Ops.pure T rfl (by decide) rfl ?_ | refine Ops.store 0 rfl rfl rfl rfl rfl (T.sizeOk rfl) rfl (Nat.le_of_ble_eq_true rfl) rfl rfl ?_)
      refine Ops.call ((impl_bad _ b5)) rfl (by decide) Proofs.Tryz.call23 rfl ?_
      rintro _ J9 l9 rfl
      repeat (first | refine Ops.nil ?_ | refine Ops.pure T rfl (by decide) rfl ?_ | refine Ops.store 1 rfl rfl rfl rfl rfl (T.sizeOk rfl) rfl (Nat.le_of_ble_eq_true rfl) rfl rfl ?_)
      refine Run.retCTT T 1 (by rw [hCf]; exact Proofs.Tryz.func11) Proofs.Tryz.results11 rfl rfl rfl rfl rfl rfl rfl rfl (hR _ _ _ ?_)
      exact ⟨rfl, none, rfl, NmAns.tag hans, nmOk.none⟩
    | some x =>
      obtain ⟨p1, p2, p3, p4⟩ := hlen x rfl
      have q := fullP_len x.1 x.2.1
      have hres2 : w = _ := hres
      subst hres2
      repeat (first | refine Ops.pure T rfl (by decide) rfl ?_)
      refine Ops.alloc rfl (by decide) (T.zeroOk rfl) rfl (fun b4 => ?_)
      repeat (first | refine Run.seq ?_ | refine Run.region ?_ | refine Ops.nil ?_ | refine Run.skip ?_ | refine Run.cond_f rfl ?_ | refine Ops.neqNil T rfl (by decide) rfl rfl rfl rfl rfl ?_ | refine Ops.pure T rfl (by decide) rfl ?_ | refine Ops.loadN 0 rfl (by decide) rfl rfl (T.aggOk rfl) (T.sizeOk rfl) rfl rfl ?_ | refine Ops.store 0 rfl rfl rfl rfl rfl (T.sizeOk rfl) rfl (Nat.le_of_ble_eq_true rfl) rfl rfl ?_)
      refine Ops.call ((impl_tagNamed J2 o.ins x.1 x.2.1 x.2.2 s (by omega) (by omega) (by omega) p1)) rfl (by decide) Proofs.Tryz.call24 rfl ?_
      rintro _ J3 l3 rfl
      repeat (first | refine Run.seq ?_ | refine Run.region ?_ | refine Ops.nil ?_ | refine Run.inBlock ?_ | refine Ops.pure T rfl (by decide) rfl ?_ | refine Ops.loadN 1 rfl (by decide) rfl rfl (T.aggOk rfl) (T.sizeOk rfl) rfl rfl ?_ | refine Ops.store 1 rfl rfl rfl rfl rfl (T.sizeOk rfl) rfl (Nat.le_of_ble_eq_true rfl) rfl rfl ?_)
      refine Run.retCTT T 1 (by rw [hCf]; exact Proofs.Tryz.func11) Proofs.Tryz.results11 rfl rfl rfl rfl rfl rfl rfl rfl (hR _ _ _ ?_)
      refine ⟨rfl, some (nmd (o.ins || pHttp x.1) 3 x.1 (fullP x.1 x.2.1) x.2.2 s), rfl, NmAns.tag hans, nmOk.some (by decide) ?_⟩
      unfold nmBig; omega
  · skip
    refine Spec.enter 135 [(0, _), (1, _), (2, _)] Proofs.Tryz.func11 rfl Proofs.Tryz.ntmps11 (by simp) rfl ?_
    intro C hCf hR hCI
    repeat (first | refine Run.seq ?_ | refine Run.region ?_)
    refine Ops.box rfl (by decide) rfl rfl (fun b1 => ?_)
    refine Ops.alloc rfl (by decide) (T.zeroOk rfl) rfl (fun b2 => ?_)
    repeat (first | refine Run.seq ?_ | refine Run.region ?_ | refine Ops.nil ?_ | refine Run.block ?_ | refine Run.cond_t rfl ?_ | refine Run.cond_f rfl ?_ | refine Ops.eql rfl (by decide) rfl rfl ?_ | refine Ops.pure T rfl (by decide) rfl ?_ | refine Ops.loadN 1 rfl (by decide) rfl rfl (T.aggOk rfl) (T.sizeOk rfl) rfl rfl ?_)
    refine Ops.call ((NameOpts_options I o)) rfl (by decide) Proofs.Tryz.call22 rfl ?_
    rintro v J1 l1 hS
    refine Ops.call ((name_NewDigest J1 s v o hro (OptsAre.of hS) (by omega) (by omega))) rfl (by decide) Proofs.Tryz.call31 rfl ?_
    rintro w J2 l2 ⟨a, hres, hans, hlen⟩
    cases a with
    | none =>
      obtain ⟨b5, rfl⟩ := hres
      unfold errV
      repeat (first | refine Ops.pure T rfl (by decide) rfl ?_)
      refine Ops.alloc rfl (by decide) (T.zeroOk rfl) rfl (fun b4 => ?_)
      repeat (first | refine Run.seq ?_ | refine Run.region ?_ | refine Ops.nil ?_ | refine Run.cond_t rfl ?_ | refine Ops.neqNil T rfl (by decide) rfl rfl rfl rfl rfl ?_ | refine Ops.pure T rfl (by decide) rfl ?_ | refine Ops.store 0 rfl rfl rfl rfl rfl (T.sizeOk rfl) rfl (Nat.le_of_ble_eq_true rfl) rfl rfl ?_)
      refine Ops.call ((impl_bad _ b5)) rfl (by decide) Proofs.Tryz.call23 rfl ?_
      rintro _ J9 l9 rfl
      repeat (first | refine Ops.nil ?_ | refine Ops.pure T rfl (by decide) rfl ?_ | refine Ops.store 1 rfl rfl rfl rfl rfl (T.sizeOk rfl) rfl (Nat.le_of_ble_eq_true rfl) rfl rfl ?_)
      refine Run.retCTT T 1 (by rw [hCf]; exact Proofs.Tryz.func11) Proofs.Tryz.results11 rfl rfl rfl rfl rfl rfl rfl rfl (hR _ _ _ ?_)
      exact ⟨rfl, none, rfl, NmAns.dig hans, nmOk.none⟩
    | some x =>
      obtain ⟨p1, p2, p3, p4⟩ := hlen x rfl
      unfold big at p2 p3 p4
      have q := fullP_len x.1 x.2.1
      have hres2 : w = _ := hres
      subst hres2
      repeat (first | refine Ops.pure T rfl (by decide) rfl ?_)
      refine Ops.alloc rfl (by decide) (T.zeroOk rfl) rfl (fun b4 => ?_)
      repeat (first | refine Run.seq ?_ | refine Run.region ?_ | refine Ops.nil ?_ | refine Run.skip ?_ | refine Run.cond_f rfl ?_ | refine Ops.neqNil T rfl (by decide) rfl rfl rfl rfl rfl ?_ | refine Ops.pure T rfl (by decide) rfl ?_ | refine Ops.loadN 0 rfl (by decide) rfl rfl (T.aggOk rfl) (T.sizeOk rfl) rfl rfl ?_ | refine Ops.store 0 rfl rfl rfl rfl rfl (T.sizeOk rfl) rfl (Nat.le_of_ble_eq_true rfl) rfl rfl ?_)
      refine Ops.call ((impl_digestNamed J2 o.ins x.1 x.2.1 x.2.2 s (by omega) (by omega) (by omega) p1)) rfl (by decide) Proofs.Tryz.call25 rfl ?_
      rintro _ J3 l3 rfl
      repeat (first | refine Run.seq ?_ | refine Run.region ?_ | refine Ops.nil ?_ | refine Run.inBlock ?_ | refine Ops.pure T rfl (by decide) rfl ?_ | refine Ops.loadN 1 rfl (by decide) rfl rfl (T.aggOk rfl) (T.sizeOk rfl) rfl rfl ?_ | refine Ops.store 1 rfl rfl rfl rfl rfl (T.sizeOk rfl) rfl (Nat.le_of_ble_eq_true rfl) rfl rfl ?_)
      refine Run.retCTT T 1 (by rw [hCf]; exact Proofs.Tryz.func11) Proofs.Tryz.results11 rfl rfl rfl rfl rfl rfl rfl rfl (hR _ _ _ ?_)
      refine ⟨rfl, some (nmd (o.ins || pHttp x.1) 4 x.1 (fullP x.1 x.2.1) x.2.2 s), rfl, NmAns.dig hans, nmOk.some (by decide) ?_⟩
      unfold nmBig; omega
end Go.V
/-
  Tags and digests read, as the document's functions do.
-/
namespace Go.V
open Go.RowKit
set_option linter.unusedVariables false
set_option linter.unusedSimpArgs false
set_option maxRecDepth 10000
attribute [local irreducible] Run Ops
theorem lxI_none {c : UInt8} {s : Tx} (h : lx c s = none) : lxI c s = -1 := by simp [lxI, h]
theorem lxI_eq {c : UInt8} {s : Tx} {k : Nat} (h : lx c s = some k) : lxI c s = k := by simp [lxI, h]
theorem lxI_iff {c : UInt8} {s : Tx} {k : Nat} : decide ((k : Int) = lxI c s) = decide (lx c s = some k) := by
  rw [decide_eq_decide]
  cases h : lx c s with
  | none => rw [lxI_none h]; simp
  | some j => rw [lxI_eq h]; simp; omega
theorem spec_repositoryOf' (I : Imm) (s : Tx) (st ins : Bool) (reg tag : Tx) (hs : s.length ≤ 4620000000000000000) : Pure Proofs.Tryz.prog 33 [str s, .agg (NOpt.mk st ins reg tag).cs.toArray] I fun w J => w = t4 (sRepo st reg s) := spec_repositoryOf I s ⟨st, ins, reg, tag⟩ hs
set_option maxHeartbeats 4000000 in
theorem spec_tagOf (I : Imm) (s : Tx) (o : NOpt) (hs : s.length ≤ 4620000000000000000) : Pure Proofs.Tryz.prog 34 [str s, .agg o.cs.toArray] I fun w J => w = t5 (sTag o s) := by
  obtain ⟨st, ins, reg, tag⟩ := o
  refine Spec.enter 54 [(0, _), (1, _)] Proofs.Tryz.func34 rfl Proofs.Tryz.ntmps34 (by simp) rfl ?_
  intro C hCf hR hCI
  repeat (first | refine Run.seq ?_ | refine Run.region ?_)
  refine Ops.box rfl (by decide) rfl rfl (fun b => ?_)
  repeat (first | refine Run.seq ?_ | refine Run.region ?_ | refine Ops.nil ?_ | refine Ops.pure T rfl (by decide) rfl ?_)
  refine Ops.call ((spec_lastOf s 58 I (by omega))) rfl (by decide) Proofs.Tryz.call83 rfl ?_
  rintro _ J1 l1 rfl
  cases hk : lx 58 s with
  | none =>
    rw [lxI_none hk]
    have hct : cutTag s = none := by simp [cutTag, hk]
    repeat (first | refine Run.seq ?_ | refine Run.region ?_ | refine Ops.nil ?_ | refine Run.cond_f rfl ?_ | refine Ops.not rfl (by decide) ?_ | refine Ops.geq rfl (by decide) rfl rfl ?_ | refine Ops.pure T rfl (by decide) rfl ?_ | refine Ops.load 0 rfl (by decide) rfl rfl (T.aggOk rfl) rfl ?_)
    cases st with
    | true =>
      repeat (first | refine Run.seq ?_ | refine Run.region ?_ | refine Ops.nil ?_ | refine Run.cond_t rfl ?_ | refine Ops.pure T rfl (by decide) rfl ?_)
      refine Run.fin (Run.ret5 (by rw [hCf]; exact Proofs.Tryz.func34) Proofs.Tryz.results34 rfl rfl rfl rfl rfl (hR _ _ _ ?_))
      refine ⟨rfl, ?_⟩
      unfold sTag
      rw [hct]
      rfl
    | false =>
      repeat (first | refine Run.seq ?_ | refine Run.region ?_ | refine Ops.nil ?_ | refine Run.skip ?_ | refine Run.cond_t rfl ?_ | refine Run.cond_f rfl ?_ | refine Ops.eqlStr rfl (by decide) rfl rfl ?_ | refine Ops.pure T rfl (by decide) rfl ?_ | refine Ops.load 0 rfl (by decide) rfl rfl (T.aggOk rfl) rfl ?_)
      cases ht : decide (tag = []) with
      | true =>
        repeat (first | refine Run.seq ?_ | refine Run.region ?_ | refine Ops.nil ?_ | refine Run.cond_t rfl ?_ | refine Ops.pure T rfl (by decide) rfl ?_ | refine Ops.loadN 0 rfl (by decide) rfl rfl (T.aggOk rfl) (T.sizeOk rfl) rfl rfl ?_)
        refine Ops.call ((spec_repositoryOf J1 (s) ⟨false, ins, reg, tag⟩ (by first | (simp; done) | (simp; omega) | omega))) rfl (by decide) Proofs.Tryz.call33 rfl ?_
        rintro _ J8 l8 rfl
        unfold t4
        repeat (first | refine Run.seq ?_ | refine Run.region ?_ | refine Ops.nil ?_ | refine Ops.pure T rfl (by decide) rfl ?_)
        refine Run.fin (Run.ret5 (by rw [hCf]; exact Proofs.Tryz.func34) Proofs.Tryz.results34 rfl rfl rfl rfl rfl (hR _ _ _ ?_))
        refine ⟨rfl, ?_⟩
        unfold sTag
        rw [hct]
        simp only [Bool.false_eq_true, if_false, tagOr, if_pos (of_decide_eq_true ht)]
        rfl
      | false =>
        repeat (first | refine Run.seq ?_ | refine Run.region ?_ | refine Run.skip ?_ | refine Run.cond_f rfl ?_ | refine Ops.pure T rfl (by decide) rfl ?_ | refine Ops.loadN 0 rfl (by decide) rfl rfl (T.aggOk rfl) (T.sizeOk rfl) rfl rfl ?_)
        refine Ops.call ((spec_repositoryOf J1 (s) ⟨false, ins, reg, tag⟩ (by first | (simp; done) | (simp; omega) | omega))) rfl (by decide) Proofs.Tryz.call33 rfl ?_
        rintro _ J8 l8 rfl
        unfold t4
        repeat (first | refine Run.seq ?_ | refine Run.region ?_ | refine Ops.nil ?_ | refine Ops.pure T rfl (by decide) rfl ?_)
        refine Run.fin (Run.ret5 (by rw [hCf]; exact Proofs.Tryz.func34) Proofs.Tryz.results34 rfl rfl rfl rfl rfl (hR _ _ _ ?_))
        refine ⟨rfl, ?_⟩
        unfold sTag
        rw [hct]
        simp only [Bool.false_eq_true, if_false, tagOr, if_neg (of_decide_eq_false ht)]
        rfl
  | some k =>
    rw [lxI_eq hk]
    have hlt := (lx_split hk).1
    have hct0 : cutTag s = if hasB 47 (s.drop k) then none else some (s.take k, s.drop (k + 1)) := by simp [cutTag, hk]
    repeat (first | refine Run.seq ?_ | refine Run.region ?_ | refine Ops.nil ?_ | refine Ops.geq rfl (by decide) rfl rfl ?_ | refine Ops.pure T rfl (by decide) rfl ?_ | refine Ops.sliceStrLo rfl (by decide) (T.undOk rfl) rfl rfl (by first | omega | (simp only [List.length_cons, List.length_nil] ; omega) | (simp; omega)) (by first | omega | (simp only [List.length_cons, List.length_nil] ; omega) | (simp; omega)) ?_)
    rw [decide_eq_true (show (0 : Int) ≤ (k : Int) by omega)]
    skip
    have ek : ((k : Int)).toNat = k := by omega
    rw [ek]
    refine Ops.call ((spec_firstOf (s.drop k) 47 J1 (by simp; omega))) rfl (by decide) Proofs.Tryz.call81 rfl ?_
    rintro _ J2 l2 rfl
    repeat (first | refine Ops.nil ?_ | refine Ops.lss rfl (by decide) rfl rfl ?_ | refine Ops.pure T rfl (by decide) rfl ?_)
    rw [ixI_has']
    cases h47 : hasB 47 (s.drop k) with
    | true =>
      have hct : cutTag s = none := by rw [hct0, h47]; rfl
      repeat (first | refine Run.seq ?_ | refine Run.region ?_ | refine Ops.nil ?_ | refine Run.cond_f rfl ?_ | refine Ops.pure T rfl (by decide) rfl ?_ | refine Ops.load 0 rfl (by decide) rfl rfl (T.aggOk rfl) rfl ?_)
      cases st with
      | true =>
        repeat (first | refine Run.seq ?_ | refine Run.region ?_ | refine Ops.nil ?_ | refine Run.cond_t rfl ?_ | refine Ops.pure T rfl (by decide) rfl ?_)
        refine Run.fin (Run.ret5 (by rw [hCf]; exact Proofs.Tryz.func34) Proofs.Tryz.results34 rfl rfl rfl rfl rfl (hR _ _ _ ?_))
        refine ⟨rfl, ?_⟩
        unfold sTag
        rw [hct]
        rfl
      | false =>
        repeat (first | refine Run.seq ?_ | refine Run.region ?_ | refine Ops.nil ?_ | refine Run.skip ?_ | refine Run.cond_t rfl ?_ | refine Run.cond_f rfl ?_ | refine Ops.eqlStr rfl (by decide) rfl rfl ?_ | refine Ops.pure T rfl (by decide) rfl ?_ | refine Ops.load 0 rfl (by decide) rfl rfl (T.aggOk rfl) rfl ?_)
        cases ht : decide (tag = []) with
        | true =>
          repeat (first | refine Run.seq ?_ | refine Run.region ?_ | refine Ops.nil ?_ | refine Run.cond_t rfl ?_ | refine Ops.pure T rfl (by decide) rfl ?_ | refine Ops.loadN 0 rfl (by decide) rfl rfl (T.aggOk rfl) (T.sizeOk rfl) rfl rfl ?_)
          refine Ops.call ((spec_repositoryOf J2 (s) ⟨false, ins, reg, tag⟩ (by first | (simp; done) | (simp; omega) | omega))) rfl (by decide) Proofs.Tryz.call33 rfl ?_
          rintro _ J8 l8 rfl
          unfold t4
          repeat (first | refine Run.seq ?_ | refine Run.region ?_ | refine Ops.nil ?_ | refine Ops.pure T rfl (by decide) rfl ?_)
          refine Run.fin (Run.ret5 (by rw [hCf]; exact Proofs.Tryz.func34) Proofs.Tryz.results34 rfl rfl rfl rfl rfl (hR _ _ _ ?_))
          refine ⟨rfl, ?_⟩
          unfold sTag
          rw [hct]
          simp only [Bool.false_eq_true, if_false, tagOr, if_pos (of_decide_eq_true ht)]
          rfl
        | false =>
          repeat (first | refine Run.seq ?_ | refine Run.region ?_ | refine Run.skip ?_ | refine Run.cond_f rfl ?_ | refine Ops.pure T rfl (by decide) rfl ?_ | refine Ops.loadN 0 rfl (by decide) rfl rfl (T.aggOk rfl) (T.sizeOk rfl) rfl rfl ?_)
          refine Ops.call ((spec_repositoryOf J2 (s) ⟨false, ins, reg, tag⟩ (by first | (simp; done) | (simp; omega) | omega))) rfl (by decide) Proofs.Tryz.call33 rfl ?_
          rintro _ J8 l8 rfl
          unfold t4
          repeat (first | refine Run.seq ?_ | refine Run.region ?_ | refine Ops.nil ?_ | refine Ops.pure T rfl (by decide) rfl ?_)
          refine Run.fin (Run.ret5 (by rw [hCf]; exact Proofs.Tryz.func34) Proofs.Tryz.results34 rfl rfl rfl rfl rfl (hR _ _ _ ?_))
          refine ⟨rfl, ?_⟩
          unfold sTag
          rw [hct]
          simp only [Bool.false_eq_true, if_false, tagOr, if_neg (of_decide_eq_false ht)]
          rfl
    | false =>
      have hct : cutTag s = some (s.take k, s.drop (k + 1)) := by rw [hct0, h47]; rfl
      repeat (first | refine Run.seq ?_ | refine Run.cond_t rfl ?_)
      refine Run.regionAny (Holds J2 []) (bl 9 0) (by kernel_rfl) (by kernel_rfl) ?_
      refine RAny.tk 0 (bl 9 1) rfl (by kernel_rfl) (by decide) (fun W h => h.holds (Le.refl _) (by first | exact mp rfl | exact mq rfl)) (Yld.eval T rfl rfl) ?_
      refine RAny.tk 1 (bl 9 3) rfl (by kernel_rfl) (by decide) (fun W h => h.holds (Le.refl _) (by first | exact mp rfl | exact mq rfl)) (Yld.eval T rfl rfl) ?_
      refine RAny.tk 2 (bl 9 7) rfl (by kernel_rfl) (by decide) (fun W h => h.holds (Le.refl _) (by first | exact mp rfl | exact mq rfl)) (Yld.as (v' := str (s.take k)) (Yld.sliceHi T rfl rfl rfl rfl (by omega) (by omega)) (by rw [ek])) ?_
      refine RAny.tk 3 (bl 9 15) rfl (by kernel_rfl) (by decide) (fun W h => h.holds (Le.refl _) (by first | exact mp rfl | exact mq rfl)) (Yld.eval T rfl rfl) ?_
      refine RAny.tk 4 (bl 9 31) rfl (by kernel_rfl) (by decide) (fun W h => h.holds (Le.refl _) (by first | exact mp rfl | exact mq rfl)) (Yld.eval T rfl rfl) ?_
      refine RAny.tk 5 (bl 9 63) rfl (by kernel_rfl) (by decide) (fun W h => h.holds (Le.refl _) (by first | exact mp rfl | exact mq rfl)) (Yld.add rfl rfl rfl (wI (by omega) (by omega))) ?_
      refine RAny.tk 6 (bl 9 127) rfl (by kernel_rfl) (by decide) (fun W h => h.holds (Le.refl _) (by first | exact mp rfl | exact mq rfl)) (Yld.as (v' := str (s.drop (k + 1))) (Yld.sliceLo T rfl rfl rfl rfl (by omega) (by omega)) (by congr 2)) ?_
      refine RAny.tk 7 (bl 9 255) rfl (by kernel_rfl) (by decide) (fun W h => h.holds (Le.refl _) (by first | exact mp rfl | exact mq rfl)) (Yld.eval T rfl rfl) ?_
      refine RAny.tk 8 (bl 9 511) rfl (by kernel_rfl) (by decide) (fun W h => h.holds (Le.refl _) (by first | exact mp rfl | exact mq rfl)) (Yld.eval T rfl rfl) ?_
      refine RAny.done _ (by kernel_rfl) ?_
      repeat (first | refine Run.seq ?_ | refine Run.region ?_ | refine Ops.pure T rfl (by decide) rfl ?_)
      refine Ops.call ((spec_tagGood J2 (s.drop (k + 1)) (by simp; omega))) rfl (by decide) Proofs.Tryz.call84 rfl ?_
      rintro _ J3 l3 rfl
      cases htg : tagGood (s.drop (k + 1)) with
      | false =>
        repeat (first | refine Run.seq ?_ | refine Run.region ?_ | refine Ops.nil ?_ | refine Run.cond_t rfl ?_ | refine Ops.pure T rfl (by decide) rfl ?_)
        refine Run.fin (Run.ret5 (by rw [hCf]; exact Proofs.Tryz.func34) Proofs.Tryz.results34 rfl rfl rfl rfl rfl (hR _ _ _ ?_))
        refine ⟨rfl, ?_⟩
        unfold sTag
        rw [hct]
        simp only [htg]
        rfl
      | true =>
        have hne := (tagGood_no htg).2.2.2
        repeat (first | refine Run.seq ?_ | refine Run.region ?_ | refine Ops.nil ?_ | refine Run.skip ?_ | refine Run.cond_f rfl ?_ | refine Ops.eqlStr rfl (by decide) rfl rfl ?_ | refine Ops.pure T rfl (by decide) rfl ?_)
        rw [decide_eq_false hne]
        repeat (first | refine Run.seq ?_ | refine Run.region ?_ | refine Run.skip ?_ | refine Run.cond_f rfl ?_ | refine Ops.pure T rfl (by decide) rfl ?_ | refine Ops.loadN 0 rfl (by decide) rfl rfl (T.aggOk rfl) (T.sizeOk rfl) rfl rfl ?_)
        refine Ops.call ((spec_repositoryOf J3 (s.take k) ⟨st, ins, reg, tag⟩ (by first | (simp; done) | (simp; omega) | omega))) rfl (by decide) Proofs.Tryz.call33 rfl ?_
        rintro _ J8 l8 rfl
        unfold t4
        repeat (first | refine Run.seq ?_ | refine Run.region ?_ | refine Ops.nil ?_ | refine Ops.pure T rfl (by decide) rfl ?_)
        refine Run.fin (Run.ret5 (by rw [hCf]; exact Proofs.Tryz.func34) Proofs.Tryz.results34 rfl rfl rfl rfl rfl (hR _ _ _ ?_))
        refine ⟨rfl, ?_⟩
        unfold sTag
        rw [hct]
        simp only [htg, if_true]
        rfl
set_option maxHeartbeats 8000000 in
theorem spec_digestOf (I : Imm) (s : Tx) (o : NOpt) (hs : s.length ≤ 4620000000000000000) : Pure Proofs.Tryz.prog 35 [str s, .agg o.cs.toArray] I fun w J => w = t5 (sDig o s) := by
  obtain ⟨st, ins, reg, tag⟩ := o
  refine Spec.enter 88 [(0, _), (1, _)] Proofs.Tryz.func35 rfl Proofs.Tryz.ntmps35 (by simp) rfl ?_
  intro C hCf hR hCI
  repeat (first | refine Run.seq ?_ | refine Run.region ?_)
  refine Ops.box rfl (by decide) rfl rfl (fun b => ?_)
  repeat (first | refine Run.seq ?_ | refine Run.region ?_ | refine Ops.nil ?_ | refine Ops.pure T rfl (by decide) rfl ?_)
  refine Ops.call ((spec_firstOf s 64 I (by omega))) rfl (by decide) Proofs.Tryz.call81 rfl ?_
  rintro _ J1 l1 rfl
  cases hk : ix 64 s with
  | none =>
    rw [ixI_none hk]
    repeat (first | refine Run.seq ?_ | refine Run.region ?_ | refine Ops.nil ?_ | refine Run.cond_t rfl ?_ | refine Ops.not rfl (by decide) ?_ | refine Ops.lss rfl (by decide) rfl rfl ?_ | refine Ops.pure T rfl (by decide) rfl ?_)
    refine Run.fin (Run.ret5 (by rw [hCf]; exact Proofs.Tryz.func35) Proofs.Tryz.results35 rfl rfl rfl rfl rfl (hR _ _ _ ?_))
    refine ⟨rfl, ?_⟩
    unfold sDig
    rw [hk]
    rfl
  | some k =>
  rw [ixI_eq hk]
  have hlt := ix_lt hk
  repeat (first | refine Run.seq ?_ | refine Run.region ?_ | refine Ops.nil ?_ | refine Ops.lss rfl (by decide) rfl rfl ?_ | refine Ops.pure T rfl (by decide) rfl ?_)
  rw [decide_eq_false (show ¬ (k : Int) < 0 by omega)]
  skip
  refine Ops.call ((spec_lastOf s 64 J1 (by omega))) rfl (by decide) Proofs.Tryz.call83 rfl ?_
  rintro _ J2 l2 rfl
  repeat (first | refine Ops.nil ?_ | refine Ops.neq rfl (by decide) rfl rfl ?_ | refine Ops.pure T rfl (by decide) rfl ?_)
  rw [lxI_iff]
  cases hl : decide (lx 64 s = some k) with
  | false =>
    repeat (first | refine Run.seq ?_ | refine Run.region ?_ | refine Ops.nil ?_ | refine Run.cond_t rfl ?_ | refine Ops.pure T rfl (by decide) rfl ?_)
    refine Run.fin (Run.ret5 (by rw [hCf]; exact Proofs.Tryz.func35) Proofs.Tryz.results35 rfl rfl rfl rfl rfl (hR _ _ _ ?_))
    refine ⟨rfl, ?_⟩
    unfold sDig
    rw [hk]
    simp only [if_neg (of_decide_eq_false hl)]
    rfl
  | true =>
  have hl' := of_decide_eq_true hl
  repeat (first | refine Run.seq ?_ | refine Run.region ?_ | refine Ops.nil ?_ | refine Run.skip ?_ | refine Run.cond_f rfl ?_ | refine Ops.add rfl (by decide) rfl rfl (wI (by first | omega | (simp only [List.length_cons, List.length_nil] ; omega) | (simp; omega)) (by first | omega | (simp only [List.length_cons, List.length_nil] ; omega) | (simp; omega))) ?_ | refine Ops.pure T rfl (by decide) rfl ?_ | refine Ops.sliceStrLo rfl (by decide) (T.undOk rfl) rfl rfl (by first | omega | (simp only [List.length_cons, List.length_nil] ; omega) | (simp; omega)) (by first | omega | (simp only [List.length_cons, List.length_nil] ; omega) | (simp; omega)) ?_)
  have ek1 : ((k : Int) + 1).toNat = k + 1 := by omega
  rw [ek1]
  have hdl : (s.drop (k + 1)).length ≤ s.length := by simp
  refine Ops.call ((spec_digestGood J2 (s.drop (k + 1)) (by omega))) rfl (by decide) Proofs.Tryz.call85 rfl ?_
  rintro _ J3 l3 rfl
  cases hdg : digGood (s.drop (k + 1)) with
  | false =>
    repeat (first | refine Run.seq ?_ | refine Ops.nil ?_ | refine Run.cond_t rfl ?_ | refine Ops.pure T rfl (by decide) rfl ?_)
    refine Run.regionAny (Holds J3 []) (bl 18 0) (by kernel_rfl) (by kernel_rfl) ?_
    refine RAny.tk 0 (bl 18 1) rfl (by kernel_rfl) (by decide) (fun W h => h.holds (Le.refl _) (by first | exact mp rfl | exact mq rfl)) (Yld.eval T rfl rfl) ?_
    refine RAny.tk 1 (bl 18 3) rfl (by kernel_rfl) (by decide) (fun W h => h.holds (Le.refl _) (by first | exact mp rfl | exact mq rfl)) (Yld.lenS T rfl rfl rfl) ?_
    cases c0 : decide (7 < (s.drop (k + 1)).length) with
    | false =>
      skip
      refine RAny.tk 2 (bl 18 7) rfl (by kernel_rfl) (by decide) (fun W h => h.holds (Le.refl _) (by first | exact mp rfl | exact mq rfl)) (Yld.as (v' := .bool false) (Yld.gtr rfl rfl rfl) (by congr 1; rw [← c0, decide_eq_decide]; omega)) ?_
      refine RAny.tk 3 (bl 18 15) rfl (by kernel_rfl) (by decide) (fun W h => h.holds (Le.refl _) (by first | exact mp rfl | exact mq rfl)) (Yld.eval T rfl rfl) ?_
      first | refine RAny.tk 4 (bl 18 31) rfl (by kernel_rfl) (by decide) (fun W h => h.holds (Le.refl _) (by first | exact mp rfl | exact mq rfl)) (Yld.eval T rfl rfl) ?_ | refine RAny.tk 4 (bl 18 31) rfl (by kernel_rfl) (by decide) (fun W h => h.holds (Le.refl _) (by first | exact mp rfl | exact mq rfl)) (Yld.off rfl) ?_ | refine RAny.tu 4 (bl 18 31) rfl (by kernel_rfl) (by decide) (fun W h => h.holds (Le.refl _) (by first | exact mp rfl | exact mq rfl)) rfl ?_
      first | refine RAny.tk 5 (bl 18 63) rfl (by kernel_rfl) (by decide) (fun W h => h.holds (Le.refl _) (by first | exact mp rfl | exact mq rfl)) (Yld.eval T rfl rfl) ?_ | refine RAny.tk 5 (bl 18 63) rfl (by kernel_rfl) (by decide) (fun W h => h.holds (Le.refl _) (by first | exact mp rfl | exact mq rfl)) (Yld.off rfl) ?_ | refine RAny.tu 5 (bl 18 63) rfl (by kernel_rfl) (by decide) (fun W h => h.holds (Le.refl _) (by first | exact mp rfl | exact mq rfl)) rfl ?_
      first | refine RAny.tk 6 (bl 18 127) rfl (by kernel_rfl) (by decide) (fun W h => h.holds (Le.refl _) (by first | exact mp rfl | exact mq rfl)) (Yld.eval T rfl rfl) ?_ | refine RAny.tk 6 (bl 18 127) rfl (by kernel_rfl) (by decide) (fun W h => h.holds (Le.refl _) (by first | exact mp rfl | exact mq rfl)) (Yld.off rfl) ?_ | refine RAny.tu 6 (bl 18 127) rfl (by kernel_rfl) (by decide) (fun W h => h.holds (Le.refl _) (by first | exact mp rfl | exact mq rfl)) rfl ?_
      first | refine RAny.tk 7 (bl 18 255) rfl (by kernel_rfl) (by decide) (fun W h => h.holds (Le.refl _) (by first | exact mp rfl | exact mq rfl)) (Yld.eval T rfl rfl) ?_ | refine RAny.tk 7 (bl 18 255) rfl (by kernel_rfl) (by decide) (fun W h => h.holds (Le.refl _) (by first | exact mp rfl | exact mq rfl)) (Yld.off rfl) ?_ | refine RAny.tu 7 (bl 18 255) rfl (by kernel_rfl) (by decide) (fun W h => h.holds (Le.refl _) (by first | exact mp rfl | exact mq rfl)) rfl ?_
      first | refine RAny.tk 8 (bl 18 511) rfl (by kernel_rfl) (by decide) (fun W h => h.holds (Le.refl _) (by first | exact mp rfl | exact mq rfl)) (Yld.eval T rfl rfl) ?_ | refine RAny.tk 8 (bl 18 511) rfl (by kernel_rfl) (by decide) (fun W h => h.holds (Le.refl _) (by first | exact mp rfl | exact mq rfl)) (Yld.off rfl) ?_ | refine RAny.tu 8 (bl 18 511) rfl (by kernel_rfl) (by decide) (fun W h => h.holds (Le.refl _) (by first | exact mp rfl | exact mq rfl)) rfl ?_
      first | refine RAny.tk 9 (bl 18 1023) rfl (by kernel_rfl) (by decide) (fun W h => h.holds (Le.refl _) (by first | exact mp rfl | exact mq rfl)) (Yld.eval T rfl rfl) ?_ | refine RAny.tk 9 (bl 18 1023) rfl (by kernel_rfl) (by decide) (fun W h => h.holds (Le.refl _) (by first | exact mp rfl | exact mq rfl)) (Yld.off rfl) ?_ | refine RAny.tu 9 (bl 18 1023) rfl (by kernel_rfl) (by decide) (fun W h => h.holds (Le.refl _) (by first | exact mp rfl | exact mq rfl)) rfl ?_
      first | refine RAny.tk 10 (bl 18 2047) rfl (by kernel_rfl) (by decide) (fun W h => h.holds (Le.refl _) (by first | exact mp rfl | exact mq rfl)) (Yld.eval T rfl rfl) ?_ | refine RAny.tk 10 (bl 18 2047) rfl (by kernel_rfl) (by decide) (fun W h => h.holds (Le.refl _) (by first | exact mp rfl | exact mq rfl)) (Yld.off rfl) ?_ | refine RAny.tu 10 (bl 18 2047) rfl (by kernel_rfl) (by decide) (fun W h => h.holds (Le.refl _) (by first | exact mp rfl | exact mq rfl)) rfl ?_
      first | refine RAny.tk 11 (bl 18 4095) rfl (by kernel_rfl) (by decide) (fun W h => h.holds (Le.refl _) (by first | exact mp rfl | exact mq rfl)) (Yld.eval T rfl rfl) ?_ | refine RAny.tk 11 (bl 18 4095) rfl (by kernel_rfl) (by decide) (fun W h => h.holds (Le.refl _) (by first | exact mp rfl | exact mq rfl)) (Yld.off rfl) ?_ | refine RAny.tu 11 (bl 18 4095) rfl (by kernel_rfl) (by decide) (fun W h => h.holds (Le.refl _) (by first | exact mp rfl | exact mq rfl)) rfl ?_
      refine RAny.tk 12 (bl 18 8191) rfl (by kernel_rfl) (by decide) (fun W h => h.holds (Le.refl _) (by first | exact mp rfl | exact mq rfl)) (Yld.eval T rfl rfl) ?_
      refine RAny.tk 13 (bl 18 16383) rfl (by kernel_rfl) (by decide) (fun W h => h.holds (Le.refl _) (by first | exact mp rfl | exact mq rfl)) (Yld.eval T rfl rfl) ?_
      refine RAny.tk 14 (bl 18 32767) rfl (by kernel_rfl) (by decide) (fun W h => h.holds (Le.refl _) (by first | exact mp rfl | exact mq rfl)) (Yld.eval T rfl rfl) ?_
      refine RAny.tk 15 (bl 18 65535) rfl (by kernel_rfl) (by decide) (fun W h => h.holds (Le.refl _) (by first | exact mp rfl | exact mq rfl)) (Yld.eval T rfl rfl) ?_
      refine RAny.tk 16 (bl 18 131071) rfl (by kernel_rfl) (by decide) (fun W h => h.holds (Le.refl _) (by first | exact mp rfl | exact mq rfl)) (Yld.eval T rfl rfl) ?_
      refine RAny.tk 17 (bl 18 262143) rfl (by kernel_rfl) (by decide) (fun W h => h.holds (Le.refl _) (by first | exact mp rfl | exact mq rfl)) (Yld.eval T rfl rfl) ?_
      refine RAny.done _ (by kernel_rfl) ?_
      skip
      refine Run.fin (Run.ret5 (by rw [hCf]; exact Proofs.Tryz.func35) Proofs.Tryz.results35 rfl rfl rfl rfl rfl (hR _ _ _ ?_))
      refine ⟨rfl, ?_⟩
      unfold sDig
      rw [hk]
      simp only [hl', if_true, hdg, Bool.false_eq_true, if_false]
      simp only [otherDig, c0, Bool.true_and, Bool.false_and, Bool.true_or, Bool.false_or]
      rfl
      skip
    | true =>
      have c0' := of_decide_eq_true c0
      refine RAny.tk 2 (bl 18 7) rfl (by kernel_rfl) (by decide) (fun W h => h.holds (Le.refl _) (by first | exact mp rfl | exact mq rfl)) (Yld.as (v' := .bool true) (Yld.gtr rfl rfl rfl) (by congr 1; rw [← c0, decide_eq_decide]; omega)) ?_
      refine RAny.tk 3 (bl 18 15) rfl (by kernel_rfl) (by decide) (fun W h => h.holds (Le.refl _) (by first | exact mp rfl | exact mq rfl)) (Yld.eval T rfl rfl) ?_
      first | refine RAny.tk 4 (bl 18 31) rfl (by kernel_rfl) (by decide) (fun W h => h.holds (Le.refl _) (by first | exact mp rfl | exact mq rfl)) (Yld.eval T rfl rfl) ?_ | refine RAny.tk 4 (bl 18 31) rfl (by kernel_rfl) (by decide) (fun W h => h.holds (Le.refl _) (by first | exact mp rfl | exact mq rfl)) (Yld.off rfl) ?_ | refine RAny.tu 4 (bl 18 31) rfl (by kernel_rfl) (by decide) (fun W h => h.holds (Le.refl _) (by first | exact mp rfl | exact mq rfl)) rfl ?_
      refine RAny.tk 5 (bl 18 63) rfl (by kernel_rfl) (by decide) (fun W h => h.holds (Le.refl _) (by first | exact mp rfl | exact mq rfl)) (Yld.as (v' := str ((s.drop (k + 1)).take 7)) (Yld.sliceHi T rfl rfl rfl rfl (by omega) (by omega)) rfl) ?_
      refine RAny.tk 6 (bl 18 127) rfl (by kernel_rfl) (by decide) (fun W h => h.holds (Le.refl _) (by first | exact mp rfl | exact mq rfl)) (Yld.eqlS rfl rfl rfl) ?_
      cases c1 : decide ((s.drop (k + 1)).take 7 = [115, 104, 97, 51, 56, 52, 58]) with
      | true =>
        skip
        first | refine RAny.tk 7 (bl 18 255) rfl (by kernel_rfl) (by decide) (fun W h => h.holds (Le.refl _) (by first | exact mp rfl | exact mq rfl)) (Yld.eval T rfl rfl) ?_ | refine RAny.tk 7 (bl 18 255) rfl (by kernel_rfl) (by decide) (fun W h => h.holds (Le.refl _) (by first | exact mp rfl | exact mq rfl)) (Yld.off rfl) ?_ | refine RAny.tu 7 (bl 18 255) rfl (by kernel_rfl) (by decide) (fun W h => h.holds (Le.refl _) (by first | exact mp rfl | exact mq rfl)) rfl ?_
        first | refine RAny.tk 8 (bl 18 511) rfl (by kernel_rfl) (by decide) (fun W h => h.holds (Le.refl _) (by first | exact mp rfl | exact mq rfl)) (Yld.eval T rfl rfl) ?_ | refine RAny.tk 8 (bl 18 511) rfl (by kernel_rfl) (by decide) (fun W h => h.holds (Le.refl _) (by first | exact mp rfl | exact mq rfl)) (Yld.off rfl) ?_ | refine RAny.tu 8 (bl 18 511) rfl (by kernel_rfl) (by decide) (fun W h => h.holds (Le.refl _) (by first | exact mp rfl | exact mq rfl)) rfl ?_
        first | refine RAny.tk 9 (bl 18 1023) rfl (by kernel_rfl) (by decide) (fun W h => h.holds (Le.refl _) (by first | exact mp rfl | exact mq rfl)) (Yld.eval T rfl rfl) ?_ | refine RAny.tk 9 (bl 18 1023) rfl (by kernel_rfl) (by decide) (fun W h => h.holds (Le.refl _) (by first | exact mp rfl | exact mq rfl)) (Yld.off rfl) ?_ | refine RAny.tu 9 (bl 18 1023) rfl (by kernel_rfl) (by decide) (fun W h => h.holds (Le.refl _) (by first | exact mp rfl | exact mq rfl)) rfl ?_
        first | refine RAny.tk 10 (bl 18 2047) rfl (by kernel_rfl) (by decide) (fun W h => h.holds (Le.refl _) (by first | exact mp rfl | exact mq rfl)) (Yld.eval T rfl rfl) ?_ | refine RAny.tk 10 (bl 18 2047) rfl (by kernel_rfl) (by decide) (fun W h => h.holds (Le.refl _) (by first | exact mp rfl | exact mq rfl)) (Yld.off rfl) ?_ | refine RAny.tu 10 (bl 18 2047) rfl (by kernel_rfl) (by decide) (fun W h => h.holds (Le.refl _) (by first | exact mp rfl | exact mq rfl)) rfl ?_
        first | refine RAny.tk 11 (bl 18 4095) rfl (by kernel_rfl) (by decide) (fun W h => h.holds (Le.refl _) (by first | exact mp rfl | exact mq rfl)) (Yld.eval T rfl rfl) ?_ | refine RAny.tk 11 (bl 18 4095) rfl (by kernel_rfl) (by decide) (fun W h => h.holds (Le.refl _) (by first | exact mp rfl | exact mq rfl)) (Yld.off rfl) ?_ | refine RAny.tu 11 (bl 18 4095) rfl (by kernel_rfl) (by decide) (fun W h => h.holds (Le.refl _) (by first | exact mp rfl | exact mq rfl)) rfl ?_
        refine RAny.tk 12 (bl 18 8191) rfl (by kernel_rfl) (by decide) (fun W h => h.holds (Le.refl _) (by first | exact mp rfl | exact mq rfl)) (Yld.eval T rfl rfl) ?_
        refine RAny.tk 13 (bl 18 16383) rfl (by kernel_rfl) (by decide) (fun W h => h.holds (Le.refl _) (by first | exact mp rfl | exact mq rfl)) (Yld.eval T rfl rfl) ?_
        refine RAny.tk 14 (bl 18 32767) rfl (by kernel_rfl) (by decide) (fun W h => h.holds (Le.refl _) (by first | exact mp rfl | exact mq rfl)) (Yld.eval T rfl rfl) ?_
        refine RAny.tk 15 (bl 18 65535) rfl (by kernel_rfl) (by decide) (fun W h => h.holds (Le.refl _) (by first | exact mp rfl | exact mq rfl)) (Yld.eval T rfl rfl) ?_
        refine RAny.tk 16 (bl 18 131071) rfl (by kernel_rfl) (by decide) (fun W h => h.holds (Le.refl _) (by first | exact mp rfl | exact mq rfl)) (Yld.eval T rfl rfl) ?_
        refine RAny.tk 17 (bl 18 262143) rfl (by kernel_rfl) (by decide) (fun W h => h.holds (Le.refl _) (by first | exact mp rfl | exact mq rfl)) (Yld.eval T rfl rfl) ?_
        refine RAny.done _ (by kernel_rfl) ?_
        skip
        refine Run.fin (Run.ret5 (by rw [hCf]; exact Proofs.Tryz.func35) Proofs.Tryz.results35 rfl rfl rfl rfl rfl (hR _ _ _ ?_))
        refine ⟨rfl, ?_⟩
        unfold sDig
        rw [hk]
        simp only [hl', if_true, hdg, Bool.false_eq_true, if_false]
        simp only [otherDig, c0, c1, Bool.true_and, Bool.false_and, Bool.true_or, Bool.false_or]
        rfl
        skip
      | false =>
        first | refine RAny.tk 7 (bl 18 255) rfl (by kernel_rfl) (by decide) (fun W h => h.holds (Le.refl _) (by first | exact mp rfl | exact mq rfl)) (Yld.eval T rfl rfl) ?_ | refine RAny.tk 7 (bl 18 255) rfl (by kernel_rfl) (by decide) (fun W h => h.holds (Le.refl _) (by first | exact mp rfl | exact mq rfl)) (Yld.off rfl) ?_ | refine RAny.tu 7 (bl 18 255) rfl (by kernel_rfl) (by decide) (fun W h => h.holds (Le.refl _) (by first | exact mp rfl | exact mq rfl)) rfl ?_
        first | refine RAny.tk 8 (bl 18 511) rfl (by kernel_rfl) (by decide) (fun W h => h.holds (Le.refl _) (by first | exact mp rfl | exact mq rfl)) (Yld.eval T rfl rfl) ?_ | refine RAny.tk 8 (bl 18 511) rfl (by kernel_rfl) (by decide) (fun W h => h.holds (Le.refl _) (by first | exact mp rfl | exact mq rfl)) (Yld.off rfl) ?_ | refine RAny.tu 8 (bl 18 511) rfl (by kernel_rfl) (by decide) (fun W h => h.holds (Le.refl _) (by first | exact mp rfl | exact mq rfl)) rfl ?_
        refine RAny.tk 9 (bl 18 1023) rfl (by kernel_rfl) (by decide) (fun W h => h.holds (Le.refl _) (by first | exact mp rfl | exact mq rfl)) (Yld.as (v' := str ((s.drop (k + 1)).take 7)) (Yld.sliceHi T rfl rfl rfl rfl (by omega) (by omega)) rfl) ?_
        refine RAny.tk 10 (bl 18 2047) rfl (by kernel_rfl) (by decide) (fun W h => h.holds (Le.refl _) (by first | exact mp rfl | exact mq rfl)) (Yld.eqlS rfl rfl rfl) ?_
        first | refine RAny.tk 11 (bl 18 4095) rfl (by kernel_rfl) (by decide) (fun W h => h.holds (Le.refl _) (by first | exact mp rfl | exact mq rfl)) (Yld.eval T rfl rfl) ?_ | refine RAny.tk 11 (bl 18 4095) rfl (by kernel_rfl) (by decide) (fun W h => h.holds (Le.refl _) (by first | exact mp rfl | exact mq rfl)) (Yld.off rfl) ?_ | refine RAny.tu 11 (bl 18 4095) rfl (by kernel_rfl) (by decide) (fun W h => h.holds (Le.refl _) (by first | exact mp rfl | exact mq rfl)) rfl ?_
        refine RAny.tk 12 (bl 18 8191) rfl (by kernel_rfl) (by decide) (fun W h => h.holds (Le.refl _) (by first | exact mp rfl | exact mq rfl)) (Yld.eval T rfl rfl) ?_
        refine RAny.tk 13 (bl 18 16383) rfl (by kernel_rfl) (by decide) (fun W h => h.holds (Le.refl _) (by first | exact mp rfl | exact mq rfl)) (Yld.eval T rfl rfl) ?_
        refine RAny.tk 14 (bl 18 32767) rfl (by kernel_rfl) (by decide) (fun W h => h.holds (Le.refl _) (by first | exact mp rfl | exact mq rfl)) (Yld.eval T rfl rfl) ?_
        refine RAny.tk 15 (bl 18 65535) rfl (by kernel_rfl) (by decide) (fun W h => h.holds (Le.refl _) (by first | exact mp rfl | exact mq rfl)) (Yld.eval T rfl rfl) ?_
        refine RAny.tk 16 (bl 18 131071) rfl (by kernel_rfl) (by decide) (fun W h => h.holds (Le.refl _) (by first | exact mp rfl | exact mq rfl)) (Yld.eval T rfl rfl) ?_
        refine RAny.tk 17 (bl 18 262143) rfl (by kernel_rfl) (by decide) (fun W h => h.holds (Le.refl _) (by first | exact mp rfl | exact mq rfl)) (Yld.eval T rfl rfl) ?_
        refine RAny.done _ (by kernel_rfl) ?_
        skip
        refine Run.fin (Run.ret5 (by rw [hCf]; exact Proofs.Tryz.func35) Proofs.Tryz.results35 rfl rfl rfl rfl rfl (hR _ _ _ ?_))
        refine ⟨rfl, ?_⟩
        unfold sDig
        rw [hk]
        simp only [hl', if_true, hdg, Bool.false_eq_true, if_false]
        simp only [otherDig, c0, c1, Bool.true_and, Bool.false_and, Bool.true_or, Bool.false_or]
        rfl
  | true =>
  repeat (first | refine Run.seq ?_ | refine Run.region ?_ | refine Ops.nil ?_ | refine Run.skip ?_ | refine Run.cond_f rfl ?_ | refine Ops.pure T rfl (by decide) rfl ?_ | refine Ops.sliceStrHi rfl (by decide) (T.undOk rfl) rfl rfl (by first | omega | (simp only [List.length_cons, List.length_nil] ; omega) | (simp; omega)) (by first | omega | (simp only [List.length_cons, List.length_nil] ; omega) | (simp; omega)) ?_)
  have ek : ((k : Int)).toNat = k := by omega
  rw [ek]
  have htl : (s.take k).length ≤ s.length := by simp; omega
  refine Ops.call ((spec_lastOf (s.take k) 58 J3 (by omega))) rfl (by decide) Proofs.Tryz.call83 rfl ?_
  rintro _ J4 l4 rfl
  cases hj : lx 58 (s.take k) with
  | none =>
    rw [lxI_none hj]
    have hoff : offTag (s.take k) = s.take k := by simp [offTag, cutTag, hj]
    repeat (first | refine Run.seq ?_ | refine Run.region ?_ | refine Ops.nil ?_ | refine Run.skip ?_ | refine Run.cond_f rfl ?_ | refine Ops.not rfl (by decide) ?_ | refine Ops.geq rfl (by decide) rfl rfl ?_ | refine Ops.pure T rfl (by decide) rfl ?_ | refine Ops.loadN 0 rfl (by decide) rfl rfl (T.aggOk rfl) (T.sizeOk rfl) rfl rfl ?_)
    have hbl : (s.take k : Tx).length ≤ s.length := by first | (simp; done) | (simp; omega) | omega
    refine Ops.call ((spec_repositoryOf' J4 (s.take k) st ins reg tag (by omega))) rfl (by decide) Proofs.Tryz.call33 rfl ?_
    rintro _ J8 l8 rfl
    unfold t4
    have hd0 : sDig ⟨st, ins, reg, tag⟩ s = ((sRepo st reg (s.take k)).1, (sRepo st reg (s.take k)).2.1, s.drop (k + 1), (sRepo st reg (s.take k)).2.2.1, (sRepo st reg (s.take k)).2.2.2 || decide (255 < (sRepo st reg (s.take k)).2.1.length)) := by
      unfold sDig
      rw [hk]
      simp only [hl', if_true, hdg, hoff]
    generalize (sRepo st reg (s.take k)).1 = r at *
    generalize (sRepo st reg (s.take k)).2.1 = p at *
    generalize (sRepo st reg (s.take k)).2.2.1 = ok at *
    generalize (sRepo st reg (s.take k)).2.2.2 = op at *
    repeat (first | refine Run.seq ?_ | refine Ops.nil ?_ | refine Ops.pure T rfl (by decide) rfl ?_)
    refine Run.regionAny (Holds J8 []) (bl 18 0) (by kernel_rfl) (by kernel_rfl) ?_
    refine RAny.tk 0 (bl 18 1) rfl (by kernel_rfl) (by decide) (fun W h => h.holds (Le.refl _) (by first | exact mp rfl | exact mq rfl)) (Yld.eval T rfl rfl) ?_
    refine RAny.tk 1 (bl 18 3) rfl (by kernel_rfl) (by decide) (fun W h => h.holds (Le.refl _) (by first | exact mp rfl | exact mq rfl)) (Yld.eval T rfl rfl) ?_
    refine RAny.tk 2 (bl 18 7) rfl (by kernel_rfl) (by decide) (fun W h => h.holds (Le.refl _) (by first | exact mp rfl | exact mq rfl)) (Yld.eval T rfl rfl) ?_
    refine RAny.tk 3 (bl 18 15) rfl (by kernel_rfl) (by decide) (fun W h => h.holds (Le.refl _) (by first | exact mp rfl | exact mq rfl)) (Yld.eval T rfl rfl) ?_
    refine RAny.tk 4 (bl 18 31) rfl (by kernel_rfl) (by decide) (fun W h => h.holds (Le.refl _) (by first | exact mp rfl | exact mq rfl)) (Yld.add rfl rfl rfl (wI (by omega) (by omega))) ?_
    refine RAny.tk 5 (bl 18 63) rfl (by kernel_rfl) (by decide) (fun W h => h.holds (Le.refl _) (by first | exact mp rfl | exact mq rfl)) (Yld.as (v' := str (s.drop (k + 1))) (Yld.sliceLo T rfl rfl rfl rfl (by omega) (by omega)) (by congr 2)) ?_
    refine RAny.tk 6 (bl 18 127) rfl (by kernel_rfl) (by decide) (fun W h => h.holds (Le.refl _) (by first | exact mp rfl | exact mq rfl)) (Yld.eval T rfl rfl) ?_
    refine RAny.tk 7 (bl 18 255) rfl (by kernel_rfl) (by decide) (fun W h => h.holds (Le.refl _) (by first | exact mp rfl | exact mq rfl)) (Yld.eval T rfl rfl) ?_
    refine RAny.tk 8 (bl 18 511) rfl (by kernel_rfl) (by decide) (fun W h => h.holds (Le.refl _) (by first | exact mp rfl | exact mq rfl)) (Yld.eval T rfl rfl) ?_
    cases op with
    | true =>
      skip
      first | refine RAny.tk 9 (bl 18 1023) rfl (by kernel_rfl) (by decide) (fun W h => h.holds (Le.refl _) (by first | exact mp rfl | exact mq rfl)) (Yld.eval T rfl rfl) ?_ | refine RAny.tk 9 (bl 18 1023) rfl (by kernel_rfl) (by decide) (fun W h => h.holds (Le.refl _) (by first | exact mp rfl | exact mq rfl)) (Yld.off rfl) ?_ | refine RAny.tu 9 (bl 18 1023) rfl (by kernel_rfl) (by decide) (fun W h => h.holds (Le.refl _) (by first | exact mp rfl | exact mq rfl)) rfl ?_
      first | refine RAny.tk 10 (bl 18 2047) rfl (by kernel_rfl) (by decide) (fun W h => h.holds (Le.refl _) (by first | exact mp rfl | exact mq rfl)) (Yld.eval T rfl rfl) ?_ | refine RAny.tk 10 (bl 18 2047) rfl (by kernel_rfl) (by decide) (fun W h => h.holds (Le.refl _) (by first | exact mp rfl | exact mq rfl)) (Yld.off rfl) ?_ | refine RAny.tu 10 (bl 18 2047) rfl (by kernel_rfl) (by decide) (fun W h => h.holds (Le.refl _) (by first | exact mp rfl | exact mq rfl)) rfl ?_
      first | refine RAny.tk 11 (bl 18 4095) rfl (by kernel_rfl) (by decide) (fun W h => h.holds (Le.refl _) (by first | exact mp rfl | exact mq rfl)) (Yld.eval T rfl rfl) ?_ | refine RAny.tk 11 (bl 18 4095) rfl (by kernel_rfl) (by decide) (fun W h => h.holds (Le.refl _) (by first | exact mp rfl | exact mq rfl)) (Yld.off rfl) ?_ | refine RAny.tu 11 (bl 18 4095) rfl (by kernel_rfl) (by decide) (fun W h => h.holds (Le.refl _) (by first | exact mp rfl | exact mq rfl)) rfl ?_
      refine RAny.tk 12 (bl 18 8191) rfl (by kernel_rfl) (by decide) (fun W h => h.holds (Le.refl _) (by first | exact mp rfl | exact mq rfl)) (Yld.eval T rfl rfl) ?_
      refine RAny.tk 13 (bl 18 16383) rfl (by kernel_rfl) (by decide) (fun W h => h.holds (Le.refl _) (by first | exact mp rfl | exact mq rfl)) (Yld.eval T rfl rfl) ?_
      refine RAny.tk 14 (bl 18 32767) rfl (by kernel_rfl) (by decide) (fun W h => h.holds (Le.refl _) (by first | exact mp rfl | exact mq rfl)) (Yld.eval T rfl rfl) ?_
      refine RAny.tk 15 (bl 18 65535) rfl (by kernel_rfl) (by decide) (fun W h => h.holds (Le.refl _) (by first | exact mp rfl | exact mq rfl)) (Yld.eval T rfl rfl) ?_
      refine RAny.tk 16 (bl 18 131071) rfl (by kernel_rfl) (by decide) (fun W h => h.holds (Le.refl _) (by first | exact mp rfl | exact mq rfl)) (Yld.eval T rfl rfl) ?_
      refine RAny.tk 17 (bl 18 262143) rfl (by kernel_rfl) (by decide) (fun W h => h.holds (Le.refl _) (by first | exact mp rfl | exact mq rfl)) (Yld.eval T rfl rfl) ?_
      refine RAny.done _ (by kernel_rfl) ?_
      skip
      refine Run.fin (Run.ret5 (by rw [hCf]; exact Proofs.Tryz.func35) Proofs.Tryz.results35 rfl rfl rfl rfl rfl (hR _ _ _ ?_))
      refine ⟨rfl, ?_⟩
      rw [hd0]
      rfl
      skip
    | false =>
      first | refine RAny.tk 9 (bl 18 1023) rfl (by kernel_rfl) (by decide) (fun W h => h.holds (Le.refl _) (by first | exact mp rfl | exact mq rfl)) (Yld.eval T rfl rfl) ?_ | refine RAny.tk 9 (bl 18 1023) rfl (by kernel_rfl) (by decide) (fun W h => h.holds (Le.refl _) (by first | exact mp rfl | exact mq rfl)) (Yld.off rfl) ?_ | refine RAny.tu 9 (bl 18 1023) rfl (by kernel_rfl) (by decide) (fun W h => h.holds (Le.refl _) (by first | exact mp rfl | exact mq rfl)) rfl ?_
      refine RAny.tk 10 (bl 18 2047) rfl (by kernel_rfl) (by decide) (fun W h => h.holds (Le.refl _) (by first | exact mp rfl | exact mq rfl)) (Yld.lenS T rfl rfl rfl) ?_
      refine RAny.tk 11 (bl 18 4095) rfl (by kernel_rfl) (by decide) (fun W h => h.holds (Le.refl _) (by first | exact mp rfl | exact mq rfl)) (Yld.as (v' := .bool (decide (255 < p.length))) (Yld.gtr rfl rfl rfl) (by congr 1; rw [decide_eq_decide]; omega)) ?_
      refine RAny.tk 12 (bl 18 8191) rfl (by kernel_rfl) (by decide) (fun W h => h.holds (Le.refl _) (by first | exact mp rfl | exact mq rfl)) (Yld.eval T rfl rfl) ?_
      refine RAny.tk 13 (bl 18 16383) rfl (by kernel_rfl) (by decide) (fun W h => h.holds (Le.refl _) (by first | exact mp rfl | exact mq rfl)) (Yld.eval T rfl rfl) ?_
      refine RAny.tk 14 (bl 18 32767) rfl (by kernel_rfl) (by decide) (fun W h => h.holds (Le.refl _) (by first | exact mp rfl | exact mq rfl)) (Yld.eval T rfl rfl) ?_
      refine RAny.tk 15 (bl 18 65535) rfl (by kernel_rfl) (by decide) (fun W h => h.holds (Le.refl _) (by first | exact mp rfl | exact mq rfl)) (Yld.eval T rfl rfl) ?_
      refine RAny.tk 16 (bl 18 131071) rfl (by kernel_rfl) (by decide) (fun W h => h.holds (Le.refl _) (by first | exact mp rfl | exact mq rfl)) (Yld.eval T rfl rfl) ?_
      refine RAny.tk 17 (bl 18 262143) rfl (by kernel_rfl) (by decide) (fun W h => h.holds (Le.refl _) (by first | exact mp rfl | exact mq rfl)) (Yld.eval T rfl rfl) ?_
      refine RAny.done _ (by kernel_rfl) ?_
      skip
      refine Run.fin (Run.ret5 (by rw [hCf]; exact Proofs.Tryz.func35) Proofs.Tryz.results35 rfl rfl rfl rfl rfl (hR _ _ _ ?_))
      refine ⟨rfl, ?_⟩
      rw [hd0]
      rfl
  | some j =>
    rw [lxI_eq hj]
    have hjlt := (lx_split hj).1
    have hct0 : cutTag (s.take k) = if hasB 47 ((s.take k).drop j) then none else some ((s.take k).take j, (s.take k).drop (j + 1)) := by simp only [cutTag, hj]
    repeat (first | refine Run.seq ?_ | refine Run.region ?_ | refine Ops.nil ?_ | refine Ops.geq rfl (by decide) rfl rfl ?_ | refine Ops.pure T rfl (by decide) rfl ?_ | refine Ops.sliceStrLo rfl (by decide) (T.undOk rfl) rfl rfl (by first | omega | (simp only [List.length_cons, List.length_nil] ; omega) | (simp; omega)) (by first | omega | (simp only [List.length_cons, List.length_nil] ; omega) | (simp; omega)) ?_)
    rw [decide_eq_true (show (0 : Int) ≤ (j : Int) by omega)]
    skip
    have ej : ((j : Int)).toNat = j := by omega
    rw [ej]
    refine Ops.call ((spec_firstOf ((s.take k).drop j) 47 J4 (by simp; omega))) rfl (by decide) Proofs.Tryz.call81 rfl ?_
    rintro _ J5 l5 rfl
    repeat (first | refine Ops.lss rfl (by decide) rfl rfl ?_ | refine Ops.pure T rfl (by decide) rfl ?_)
    rw [ixI_has']
    cases h47 : hasB 47 ((s.take k).drop j) with
    | true =>
      have hoff : offTag (s.take k) = s.take k := by unfold offTag; rw [hct0, h47]; rfl
      repeat (first | refine Run.seq ?_ | refine Run.region ?_ | refine Ops.nil ?_ | refine Run.skip ?_ | refine Run.cond_f rfl ?_ | refine Ops.not rfl (by decide) ?_ | refine Ops.pure T rfl (by decide) rfl ?_ | refine Ops.loadN 0 rfl (by decide) rfl rfl (T.aggOk rfl) (T.sizeOk rfl) rfl rfl ?_)
      have hbl : (s.take k : Tx).length ≤ s.length := by first | (simp; done) | (simp; omega) | omega
      refine Ops.call ((spec_repositoryOf' J5 (s.take k) st ins reg tag (by omega))) rfl (by decide) Proofs.Tryz.call33 rfl ?_
      rintro _ J8 l8 rfl
      unfold t4
      have hd0 : sDig ⟨st, ins, reg, tag⟩ s = ((sRepo st reg (s.take k)).1, (sRepo st reg (s.take k)).2.1, s.drop (k + 1), (sRepo st reg (s.take k)).2.2.1, (sRepo st reg (s.take k)).2.2.2 || decide (255 < (sRepo st reg (s.take k)).2.1.length)) := by
        unfold sDig
        rw [hk]
        simp only [hl', if_true, hdg, hoff]
      generalize (sRepo st reg (s.take k)).1 = r at *
      generalize (sRepo st reg (s.take k)).2.1 = p at *
      generalize (sRepo st reg (s.take k)).2.2.1 = ok at *
      generalize (sRepo st reg (s.take k)).2.2.2 = op at *
      repeat (first | refine Run.seq ?_ | refine Ops.nil ?_ | refine Ops.pure T rfl (by decide) rfl ?_)
      refine Run.regionAny (Holds J8 []) (bl 18 0) (by kernel_rfl) (by kernel_rfl) ?_
      refine RAny.tk 0 (bl 18 1) rfl (by kernel_rfl) (by decide) (fun W h => h.holds (Le.refl _) (by first | exact mp rfl | exact mq rfl)) (Yld.eval T rfl rfl) ?_
      refine RAny.tk 1 (bl 18 3) rfl (by kernel_rfl) (by decide) (fun W h => h.holds (Le.refl _) (by first | exact mp rfl | exact mq rfl)) (Yld.eval T rfl rfl) ?_
      refine RAny.tk 2 (bl 18 7) rfl (by kernel_rfl) (by decide) (fun W h => h.holds (Le.refl _) (by first | exact mp rfl | exact mq rfl)) (Yld.eval T rfl rfl) ?_
      refine RAny.tk 3 (bl 18 15) rfl (by kernel_rfl) (by decide) (fun W h => h.holds (Le.refl _) (by first | exact mp rfl | exact mq rfl)) (Yld.eval T rfl rfl) ?_
      refine RAny.tk 4 (bl 18 31) rfl (by kernel_rfl) (by decide) (fun W h => h.holds (Le.refl _) (by first | exact mp rfl | exact mq rfl)) (Yld.add rfl rfl rfl (wI (by omega) (by omega))) ?_
      refine RAny.tk 5 (bl 18 63) rfl (by kernel_rfl) (by decide) (fun W h => h.holds (Le.refl _) (by first | exact mp rfl | exact mq rfl)) (Yld.as (v' := str (s.drop (k + 1))) (Yld.sliceLo T rfl rfl rfl rfl (by omega) (by omega)) (by congr 2)) ?_
      refine RAny.tk 6 (bl 18 127) rfl (by kernel_rfl) (by decide) (fun W h => h.holds (Le.refl _) (by first | exact mp rfl | exact mq rfl)) (Yld.eval T rfl rfl) ?_
      refine RAny.tk 7 (bl 18 255) rfl (by kernel_rfl) (by decide) (fun W h => h.holds (Le.refl _) (by first | exact mp rfl | exact mq rfl)) (Yld.eval T rfl rfl) ?_
      refine RAny.tk 8 (bl 18 511) rfl (by kernel_rfl) (by decide) (fun W h => h.holds (Le.refl _) (by first | exact mp rfl | exact mq rfl)) (Yld.eval T rfl rfl) ?_
      cases op with
      | true =>
        skip
        first | refine RAny.tk 9 (bl 18 1023) rfl (by kernel_rfl) (by decide) (fun W h => h.holds (Le.refl _) (by first | exact mp rfl | exact mq rfl)) (Yld.eval T rfl rfl) ?_ | refine RAny.tk 9 (bl 18 1023) rfl (by kernel_rfl) (by decide) (fun W h => h.holds (Le.refl _) (by first | exact mp rfl | exact mq rfl)) (Yld.off rfl) ?_ | refine RAny.tu 9 (bl 18 1023) rfl (by kernel_rfl) (by decide) (fun W h => h.holds (Le.refl _) (by first | exact mp rfl | exact mq rfl)) rfl ?_
        first | refine RAny.tk 10 (bl 18 2047) rfl (by kernel_rfl) (by decide) (fun W h => h.holds (Le.refl _) (by first | exact mp rfl | exact mq rfl)) (Yld.eval T rfl rfl) ?_ | refine RAny.tk 10 (bl 18 2047) rfl (by kernel_rfl) (by decide) (fun W h => h.holds (Le.refl _) (by first | exact mp rfl | exact mq rfl)) (Yld.off rfl) ?_ | refine RAny.tu 10 (bl 18 2047) rfl (by kernel_rfl) (by decide) (fun W h => h.holds (Le.refl _) (by first | exact mp rfl | exact mq rfl)) rfl ?_
        first | refine RAny.tk 11 (bl 18 4095) rfl (by kernel_rfl) (by decide) (fun W h => h.holds (Le.refl _) (by first | exact mp rfl | exact mq rfl)) (Yld.eval T rfl rfl) ?_ | refine RAny.tk 11 (bl 18 4095) rfl (by kernel_rfl) (by decide) (fun W h => h.holds (Le.refl _) (by first | exact mp rfl | exact mq rfl)) (Yld.off rfl) ?_ | refine RAny.tu 11 (bl 18 4095) rfl (by kernel_rfl) (by decide) (fun W h => h.holds (Le.refl _) (by first | exact mp rfl | exact mq rfl)) rfl ?_
        refine RAny.tk 12 (bl 18 8191) rfl (by kernel_rfl) (by decide) (fun W h => h.holds (Le.refl _) (by first | exact mp rfl | exact mq rfl)) (Yld.eval T rfl rfl) ?_
        refine RAny.tk 13 (bl 18 16383) rfl (by kernel_rfl) (by decide) (fun W h => h.holds (Le.refl _) (by first | exact mp rfl | exact mq rfl)) (Yld.eval T rfl rfl) ?_
        refine RAny.tk 14 (bl 18 32767) rfl (by kernel_rfl) (by decide) (fun W h => h.holds (Le.refl _) (by first | exact mp rfl | exact mq rfl)) (Yld.eval T rfl rfl) ?_
        refine RAny.tk 15 (bl 18 65535) rfl (by kernel_rfl) (by decide) (fun W h => h.holds (Le.refl _) (by first | exact mp rfl | exact mq rfl)) (Yld.eval T rfl rfl) ?_
        refine RAny.tk 16 (bl 18 131071) rfl (by kernel_rfl) (by decide) (fun W h => h.holds (Le.refl _) (by first | exact mp rfl | exact mq rfl)) (Yld.eval T rfl rfl) ?_
        refine RAny.tk 17 (bl 18 262143) rfl (by kernel_rfl) (by decide) (fun W h => h.holds (Le.refl _) (by first | exact mp rfl | exact mq rfl)) (Yld.eval T rfl rfl) ?_
        refine RAny.done _ (by kernel_rfl) ?_
        skip
        refine Run.fin (Run.ret5 (by rw [hCf]; exact Proofs.Tryz.func35) Proofs.Tryz.results35 rfl rfl rfl rfl rfl (hR _ _ _ ?_))
        refine ⟨rfl, ?_⟩
        rw [hd0]
        rfl
        skip
      | false =>
        first | refine RAny.tk 9 (bl 18 1023) rfl (by kernel_rfl) (by decide) (fun W h => h.holds (Le.refl _) (by first | exact mp rfl | exact mq rfl)) (Yld.eval T rfl rfl) ?_ | refine RAny.tk 9 (bl 18 1023) rfl (by kernel_rfl) (by decide) (fun W h => h.holds (Le.refl _) (by first | exact mp rfl | exact mq rfl)) (Yld.off rfl) ?_ | refine RAny.tu 9 (bl 18 1023) rfl (by kernel_rfl) (by decide) (fun W h => h.holds (Le.refl _) (by first | exact mp rfl | exact mq rfl)) rfl ?_
        refine RAny.tk 10 (bl 18 2047) rfl (by kernel_rfl) (by decide) (fun W h => h.holds (Le.refl _) (by first | exact mp rfl | exact mq rfl)) (Yld.lenS T rfl rfl rfl) ?_
        refine RAny.tk 11 (bl 18 4095) rfl (by kernel_rfl) (by decide) (fun W h => h.holds (Le.refl _) (by first | exact mp rfl | exact mq rfl)) (Yld.as (v' := .bool (decide (255 < p.length))) (Yld.gtr rfl rfl rfl) (by congr 1; rw [decide_eq_decide]; omega)) ?_
        refine RAny.tk 12 (bl 18 8191) rfl (by kernel_rfl) (by decide) (fun W h => h.holds (Le.refl _) (by first | exact mp rfl | exact mq rfl)) (Yld.eval T rfl rfl) ?_
        refine RAny.tk 13 (bl 18 16383) rfl (by kernel_rfl) (by decide) (fun W h => h.holds (Le.refl _) (by first | exact mp rfl | exact mq rfl)) (Yld.eval T rfl rfl) ?_
        refine RAny.tk 14 (bl 18 32767) rfl (by kernel_rfl) (by decide) (fun W h => h.holds (Le.refl _) (by first | exact mp rfl | exact mq rfl)) (Yld.eval T rfl rfl) ?_
        refine RAny.tk 15 (bl 18 65535) rfl (by kernel_rfl) (by decide) (fun W h => h.holds (Le.refl _) (by first | exact mp rfl | exact mq rfl)) (Yld.eval T rfl rfl) ?_
        refine RAny.tk 16 (bl 18 131071) rfl (by kernel_rfl) (by decide) (fun W h => h.holds (Le.refl _) (by first | exact mp rfl | exact mq rfl)) (Yld.eval T rfl rfl) ?_
        refine RAny.tk 17 (bl 18 262143) rfl (by kernel_rfl) (by decide) (fun W h => h.holds (Le.refl _) (by first | exact mp rfl | exact mq rfl)) (Yld.eval T rfl rfl) ?_
        refine RAny.done _ (by kernel_rfl) ?_
        skip
        refine Run.fin (Run.ret5 (by rw [hCf]; exact Proofs.Tryz.func35) Proofs.Tryz.results35 rfl rfl rfl rfl rfl (hR _ _ _ ?_))
        refine ⟨rfl, ?_⟩
        rw [hd0]
        rfl
    | false =>
      repeat (first | refine Ops.add rfl (by decide) rfl rfl (wI (by first | omega | (simp only [List.length_cons, List.length_nil] ; omega) | (simp; omega)) (by first | omega | (simp only [List.length_cons, List.length_nil] ; omega) | (simp; omega))) ?_ | refine Ops.pure T rfl (by decide) rfl ?_ | refine Ops.sliceStrLo rfl (by decide) (T.undOk rfl) rfl rfl (by first | omega | (simp only [List.length_cons, List.length_nil] ; omega) | (simp; omega)) (by first | omega | (simp only [List.length_cons, List.length_nil] ; omega) | (simp; omega)) ?_)
      have ej1 : ((j : Int) + 1).toNat = j + 1 := by omega
      rw [ej1]
      refine Ops.call ((spec_tagGood J5 ((s.take k).drop (j + 1)) (by simp; omega))) rfl (by decide) Proofs.Tryz.call84 rfl ?_
      rintro _ J6 l6 rfl
      cases htg : tagGood ((s.take k).drop (j + 1)) with
      | false =>
        have hoff : offTag (s.take k) = s.take k := by unfold offTag; rw [hct0, h47]; simp [htg]
        repeat (first | refine Run.seq ?_ | refine Run.region ?_ | refine Ops.nil ?_ | refine Run.skip ?_ | refine Run.cond_f rfl ?_ | refine Ops.pure T rfl (by decide) rfl ?_ | refine Ops.loadN 0 rfl (by decide) rfl rfl (T.aggOk rfl) (T.sizeOk rfl) rfl rfl ?_)
        have hbl : (s.take k : Tx).length ≤ s.length := by first | (simp; done) | (simp; omega) | omega
        refine Ops.call ((spec_repositoryOf' J6 (s.take k) st ins reg tag (by omega))) rfl (by decide) Proofs.Tryz.call33 rfl ?_
        rintro _ J8 l8 rfl
        unfold t4
        have hd0 : sDig ⟨st, ins, reg, tag⟩ s = ((sRepo st reg (s.take k)).1, (sRepo st reg (s.take k)).2.1, s.drop (k + 1), (sRepo st reg (s.take k)).2.2.1, (sRepo st reg (s.take k)).2.2.2 || decide (255 < (sRepo st reg (s.take k)).2.1.length)) := by
          unfold sDig
          rw [hk]
          simp only [hl', if_true, hdg, hoff]
        generalize (sRepo st reg (s.take k)).1 = r at *
        generalize (sRepo st reg (s.take k)).2.1 = p at *
        generalize (sRepo st reg (s.take k)).2.2.1 = ok at *
        generalize (sRepo st reg (s.take k)).2.2.2 = op at *
        repeat (first | refine Run.seq ?_ | refine Ops.nil ?_ | refine Ops.pure T rfl (by decide) rfl ?_)
        refine Run.regionAny (Holds J8 []) (bl 18 0) (by kernel_rfl) (by kernel_rfl) ?_
        refine RAny.tk 0 (bl 18 1) rfl (by kernel_rfl) (by decide) (fun W h => h.holds (Le.refl _) (by first | exact mp rfl | exact mq rfl)) (Yld.eval T rfl rfl) ?_
        refine RAny.tk 1 (bl 18 3) rfl (by kernel_rfl) (by decide) (fun W h => h.holds (Le.refl _) (by first | exact mp rfl | exact mq rfl)) (Yld.eval T rfl rfl) ?_
        refine RAny.tk 2 (bl 18 7) rfl (by kernel_rfl) (by decide) (fun W h => h.holds (Le.refl _) (by first | exact mp rfl | exact mq rfl)) (Yld.eval T rfl rfl) ?_
        refine RAny.tk 3 (bl 18 15) rfl (by kernel_rfl) (by decide) (fun W h => h.holds (Le.refl _) (by first | exact mp rfl | exact mq rfl)) (Yld.eval T rfl rfl) ?_
        refine RAny.tk 4 (bl 18 31) rfl (by kernel_rfl) (by decide) (fun W h => h.holds (Le.refl _) (by first | exact mp rfl | exact mq rfl)) (Yld.add rfl rfl rfl (wI (by omega) (by omega))) ?_
        refine RAny.tk 5 (bl 18 63) rfl (by kernel_rfl) (by decide) (fun W h => h.holds (Le.refl _) (by first | exact mp rfl | exact mq rfl)) (Yld.as (v' := str (s.drop (k + 1))) (Yld.sliceLo T rfl rfl rfl rfl (by omega) (by omega)) (by congr 2)) ?_
        refine RAny.tk 6 (bl 18 127) rfl (by kernel_rfl) (by decide) (fun W h => h.holds (Le.refl _) (by first | exact mp rfl | exact mq rfl)) (Yld.eval T rfl rfl) ?_
        refine RAny.tk 7 (bl 18 255) rfl (by kernel_rfl) (by decide) (fun W h => h.holds (Le.refl _) (by first | exact mp rfl | exact mq rfl)) (Yld.eval T rfl rfl) ?_
        refine RAny.tk 8 (bl 18 511) rfl (by kernel_rfl) (by decide) (fun W h => h.holds (Le.refl _) (by first | exact mp rfl | exact mq rfl)) (Yld.eval T rfl rfl) ?_
        cases op with
        | true =>
          skip
          first | refine RAny.tk 9 (bl 18 1023) rfl (by kernel_rfl) (by decide) (fun W h => h.holds (Le.refl _) (by first | exact mp rfl | exact mq rfl)) (Yld.eval T rfl rfl) ?_ | refine RAny.tk 9 (bl 18 1023) rfl (by kernel_rfl) (by decide) (fun W h => h.holds (Le.refl _) (by first | exact mp rfl | exact mq rfl)) (Yld.off rfl) ?_ | refine RAny.tu 9 (bl 18 1023) rfl (by kernel_rfl) (by decide) (fun W h => h.holds (Le.refl _) (by first | exact mp rfl | exact mq rfl)) rfl ?_
          first | refine RAny.tk 10 (bl 18 2047) rfl (by kernel_rfl) (by decide) (fun W h => h.holds (Le.refl _) (by first | exact mp rfl | exact mq rfl)) (Yld.eval T rfl rfl) ?_ | refine RAny.tk 10 (bl 18 2047) rfl (by kernel_rfl) (by decide) (fun W h => h.holds (Le.refl _) (by first | exact mp rfl | exact mq rfl)) (Yld.off rfl) ?_ | refine RAny.tu 10 (bl 18 2047) rfl (by kernel_rfl) (by decide) (fun W h => h.holds (Le.refl _) (by first | exact mp rfl | exact mq rfl)) rfl ?_
          first | refine RAny.tk 11 (bl 18 4095) rfl (by kernel_rfl) (by decide) (fun W h => h.holds (Le.refl _) (by first | exact mp rfl | exact mq rfl)) (Yld.eval T rfl rfl) ?_ | refine RAny.tk 11 (bl 18 4095) rfl (by kernel_rfl) (by decide) (fun W h => h.holds (Le.refl _) (by first | exact mp rfl | exact mq rfl)) (Yld.off rfl) ?_ | refine RAny.tu 11 (bl 18 4095) rfl (by kernel_rfl) (by decide) (fun W h => h.holds (Le.refl _) (by first | exact mp rfl | exact mq rfl)) rfl ?_
          refine RAny.tk 12 (bl 18 8191) rfl (by kernel_rfl) (by decide) (fun W h => h.holds (Le.refl _) (by first | exact mp rfl | exact mq rfl)) (Yld.eval T rfl rfl) ?_
          refine RAny.tk 13 (bl 18 16383) rfl (by kernel_rfl) (by decide) (fun W h => h.holds (Le.refl _) (by first | exact mp rfl | exact mq rfl)) (Yld.eval T rfl rfl) ?_
          refine RAny.tk 14 (bl 18 32767) rfl (by kernel_rfl) (by decide) (fun W h => h.holds (Le.refl _) (by first | exact mp rfl | exact mq rfl)) (Yld.eval T rfl rfl) ?_
          refine RAny.tk 15 (bl 18 65535) rfl (by kernel_rfl) (by decide) (fun W h => h.holds (Le.refl _) (by first | exact mp rfl | exact mq rfl)) (Yld.eval T rfl rfl) ?_
          refine RAny.tk 16 (bl 18 131071) rfl (by kernel_rfl) (by decide) (fun W h => h.holds (Le.refl _) (by first | exact mp rfl | exact mq rfl)) (Yld.eval T rfl rfl) ?_
          refine RAny.tk 17 (bl 18 262143) rfl (by kernel_rfl) (by decide) (fun W h => h.holds (Le.refl _) (by first | exact mp rfl | exact mq rfl)) (Yld.eval T rfl rfl) ?_
          refine RAny.done _ (by kernel_rfl) ?_
          skip
          refine Run.fin (Run.ret5 (by rw [hCf]; exact Proofs.Tryz.func35) Proofs.Tryz.results35 rfl rfl rfl rfl rfl (hR _ _ _ ?_))
          refine ⟨rfl, ?_⟩
          rw [hd0]
          rfl
          skip
        | false =>
          first | refine RAny.tk 9 (bl 18 1023) rfl (by kernel_rfl) (by decide) (fun W h => h.holds (Le.refl _) (by first | exact mp rfl | exact mq rfl)) (Yld.eval T rfl rfl) ?_ | refine RAny.tk 9 (bl 18 1023) rfl (by kernel_rfl) (by decide) (fun W h => h.holds (Le.refl _) (by first | exact mp rfl | exact mq rfl)) (Yld.off rfl) ?_ | refine RAny.tu 9 (bl 18 1023) rfl (by kernel_rfl) (by decide) (fun W h => h.holds (Le.refl _) (by first | exact mp rfl | exact mq rfl)) rfl ?_
          refine RAny.tk 10 (bl 18 2047) rfl (by kernel_rfl) (by decide) (fun W h => h.holds (Le.refl _) (by first | exact mp rfl | exact mq rfl)) (Yld.lenS T rfl rfl rfl) ?_
          refine RAny.tk 11 (bl 18 4095) rfl (by kernel_rfl) (by decide) (fun W h => h.holds (Le.refl _) (by first | exact mp rfl | exact mq rfl)) (Yld.as (v' := .bool (decide (255 < p.length))) (Yld.gtr rfl rfl rfl) (by congr 1; rw [decide_eq_decide]; omega)) ?_
          refine RAny.tk 12 (bl 18 8191) rfl (by kernel_rfl) (by decide) (fun W h => h.holds (Le.refl _) (by first | exact mp rfl | exact mq rfl)) (Yld.eval T rfl rfl) ?_
          refine RAny.tk 13 (bl 18 16383) rfl (by kernel_rfl) (by decide) (fun W h => h.holds (Le.refl _) (by first | exact mp rfl | exact mq rfl)) (Yld.eval T rfl rfl) ?_
          refine RAny.tk 14 (bl 18 32767) rfl (by kernel_rfl) (by decide) (fun W h => h.holds (Le.refl _) (by first | exact mp rfl | exact mq rfl)) (Yld.eval T rfl rfl) ?_
          refine RAny.tk 15 (bl 18 65535) rfl (by kernel_rfl) (by decide) (fun W h => h.holds (Le.refl _) (by first | exact mp rfl | exact mq rfl)) (Yld.eval T rfl rfl) ?_
          refine RAny.tk 16 (bl 18 131071) rfl (by kernel_rfl) (by decide) (fun W h => h.holds (Le.refl _) (by first | exact mp rfl | exact mq rfl)) (Yld.eval T rfl rfl) ?_
          refine RAny.tk 17 (bl 18 262143) rfl (by kernel_rfl) (by decide) (fun W h => h.holds (Le.refl _) (by first | exact mp rfl | exact mq rfl)) (Yld.eval T rfl rfl) ?_
          refine RAny.done _ (by kernel_rfl) ?_
          skip
          refine Run.fin (Run.ret5 (by rw [hCf]; exact Proofs.Tryz.func35) Proofs.Tryz.results35 rfl rfl rfl rfl rfl (hR _ _ _ ?_))
          refine ⟨rfl, ?_⟩
          rw [hd0]
          rfl
      | true =>
        have hoff : offTag (s.take k) = (s.take k).take j := by unfold offTag; rw [hct0, h47]; simp only [Bool.false_eq_true, if_false, htg, if_true]
        repeat (first | refine Run.seq ?_ | refine Run.region ?_ | refine Ops.nil ?_ | refine Run.cond_t rfl ?_ | refine Ops.pure T rfl (by decide) rfl ?_ | refine Ops.sliceStrHi rfl (by decide) (T.undOk rfl) rfl rfl (by first | omega | (simp only [List.length_cons, List.length_nil] ; omega) | (simp; omega)) (by first | omega | (simp only [List.length_cons, List.length_nil] ; omega) | (simp; omega)) ?_ | refine Ops.loadN 0 rfl (by decide) rfl rfl (T.aggOk rfl) (T.sizeOk rfl) rfl rfl ?_)
        rw [ej]
        have hbl : ((s.take k).take j : Tx).length ≤ s.length := by first | (simp; done) | (simp; omega) | omega
        refine Ops.call ((spec_repositoryOf' J6 ((s.take k).take j) st ins reg tag (by omega))) rfl (by decide) Proofs.Tryz.call33 rfl ?_
        rintro _ J8 l8 rfl
        unfold t4
        have hd0 : sDig ⟨st, ins, reg, tag⟩ s = ((sRepo st reg ((s.take k).take j)).1, (sRepo st reg ((s.take k).take j)).2.1, s.drop (k + 1), (sRepo st reg ((s.take k).take j)).2.2.1, (sRepo st reg ((s.take k).take j)).2.2.2 || decide (255 < (sRepo st reg ((s.take k).take j)).2.1.length)) := by
          unfold sDig
          rw [hk]
          simp only [hl', if_true, hdg, hoff]
        generalize (sRepo st reg ((s.take k).take j)).1 = r at *
        generalize (sRepo st reg ((s.take k).take j)).2.1 = p at *
        generalize (sRepo st reg ((s.take k).take j)).2.2.1 = ok at *
        generalize (sRepo st reg ((s.take k).take j)).2.2.2 = op at *
        repeat (first | refine Run.seq ?_ | refine Ops.nil ?_ | refine Ops.pure T rfl (by decide) rfl ?_)
        refine Run.regionAny (Holds J8 []) (bl 18 0) (by kernel_rfl) (by kernel_rfl) ?_
        refine RAny.tk 0 (bl 18 1) rfl (by kernel_rfl) (by decide) (fun W h => h.holds (Le.refl _) (by first | exact mp rfl | exact mq rfl)) (Yld.eval T rfl rfl) ?_
        refine RAny.tk 1 (bl 18 3) rfl (by kernel_rfl) (by decide) (fun W h => h.holds (Le.refl _) (by first | exact mp rfl | exact mq rfl)) (Yld.eval T rfl rfl) ?_
        refine RAny.tk 2 (bl 18 7) rfl (by kernel_rfl) (by decide) (fun W h => h.holds (Le.refl _) (by first | exact mp rfl | exact mq rfl)) (Yld.eval T rfl rfl) ?_
        refine RAny.tk 3 (bl 18 15) rfl (by kernel_rfl) (by decide) (fun W h => h.holds (Le.refl _) (by first | exact mp rfl | exact mq rfl)) (Yld.eval T rfl rfl) ?_
        refine RAny.tk 4 (bl 18 31) rfl (by kernel_rfl) (by decide) (fun W h => h.holds (Le.refl _) (by first | exact mp rfl | exact mq rfl)) (Yld.add rfl rfl rfl (wI (by omega) (by omega))) ?_
        refine RAny.tk 5 (bl 18 63) rfl (by kernel_rfl) (by decide) (fun W h => h.holds (Le.refl _) (by first | exact mp rfl | exact mq rfl)) (Yld.as (v' := str (s.drop (k + 1))) (Yld.sliceLo T rfl rfl rfl rfl (by omega) (by omega)) (by congr 2)) ?_
        refine RAny.tk 6 (bl 18 127) rfl (by kernel_rfl) (by decide) (fun W h => h.holds (Le.refl _) (by first | exact mp rfl | exact mq rfl)) (Yld.eval T rfl rfl) ?_
        refine RAny.tk 7 (bl 18 255) rfl (by kernel_rfl) (by decide) (fun W h => h.holds (Le.refl _) (by first | exact mp rfl | exact mq rfl)) (Yld.eval T rfl rfl) ?_
        refine RAny.tk 8 (bl 18 511) rfl (by kernel_rfl) (by decide) (fun W h => h.holds (Le.refl _) (by first | exact mp rfl | exact mq rfl)) (Yld.eval T rfl rfl) ?_
        cases op with
        | true =>
          skip
          first | refine RAny.tk 9 (bl 18 1023) rfl (by kernel_rfl) (by decide) (fun W h => h.holds (Le.refl _) (by first | exact mp rfl | exact mq rfl)) (Yld.eval T rfl rfl) ?_ | refine RAny.tk 9 (bl 18 1023) rfl (by kernel_rfl) (by decide) (fun W h => h.holds (Le.refl _) (by first | exact mp rfl | exact mq rfl)) (Yld.off rfl) ?_ | refine RAny.tu 9 (bl 18 1023) rfl (by kernel_rfl) (by decide) (fun W h => h.holds (Le.refl _) (by first | exact mp rfl | exact mq rfl)) rfl ?_
          first | refine RAny.tk 10 (bl 18 2047) rfl (by kernel_rfl) (by decide) (fun W h => h.holds (Le.refl _) (by first | exact mp rfl | exact mq rfl)) (Yld.eval T rfl rfl) ?_ | refine RAny.tk 10 (bl 18 2047) rfl (by kernel_rfl) (by decide) (fun W h => h.holds (Le.refl _) (by first | exact mp rfl | exact mq rfl)) (Yld.off rfl) ?_ | refine RAny.tu 10 (bl 18 2047) rfl (by kernel_rfl) (by decide) (fun W h => h.holds (Le.refl _) (by first | exact mp rfl | exact mq rfl)) rfl ?_
          first | refine RAny.tk 11 (bl 18 4095) rfl (by kernel_rfl) (by decide) (fun W h => h.holds (Le.refl _) (by first | exact mp rfl | exact mq rfl)) (Yld.eval T rfl rfl) ?_ | refine RAny.tk 11 (bl 18 4095) rfl (by kernel_rfl) (by decide) (fun W h => h.holds (Le.refl _) (by first | exact mp rfl | exact mq rfl)) (Yld.off rfl) ?_ | refine RAny.tu 11 (bl 18 4095) rfl (by kernel_rfl) (by decide) (fun W h => h.holds (Le.refl _) (by first | exact mp rfl | exact mq rfl)) rfl ?_
          refine RAny.tk 12 (bl 18 8191) rfl (by kernel_rfl) (by decide) (fun W h => h.holds (Le.refl _) (by first | exact mp rfl | exact mq rfl)) (Yld.eval T rfl rfl) ?_
          refine RAny.tk 13 (bl 18 16383) rfl (by kernel_rfl) (by decide) (fun W h => h.holds (Le.refl _) (by first | exact mp rfl | exact mq rfl)) (Yld.eval T rfl rfl) ?_
          refine RAny.tk 14 (bl 18 32767) rfl (by kernel_rfl) (by decide) (fun W h => h.holds (Le.refl _) (by first | exact mp rfl | exact mq rfl)) (Yld.eval T rfl rfl) ?_
          refine RAny.tk 15 (bl 18 65535) rfl (by kernel_rfl) (by decide) (fun W h => h.holds (Le.refl _) (by first | exact mp rfl | exact mq rfl)) (Yld.eval T rfl rfl) ?_
          refine RAny.tk 16 (bl 18 131071) rfl (by kernel_rfl) (by decide) (fun W h => h.holds (Le.refl _) (by first | exact mp rfl | exact mq rfl)) (Yld.eval T rfl rfl) ?_
          refine RAny.tk 17 (bl 18 262143) rfl (by kernel_rfl) (by decide) (fun W h => h.holds (Le.refl _) (by first | exact mp rfl | exact mq rfl)) (Yld.eval T rfl rfl) ?_
          refine RAny.done _ (by kernel_rfl) ?_
          skip
          refine Run.fin (Run.ret5 (by rw [hCf]; exact Proofs.Tryz.func35) Proofs.Tryz.results35 rfl rfl rfl rfl rfl (hR _ _ _ ?_))
          refine ⟨rfl, ?_⟩
          rw [hd0]
          rfl
          skip
        | false =>
          first | refine RAny.tk 9 (bl 18 1023) rfl (by kernel_rfl) (by decide) (fun W h => h.holds (Le.refl _) (by first | exact mp rfl | exact mq rfl)) (Yld.eval T rfl rfl) ?_ | refine RAny.tk 9 (bl 18 1023) rfl (by kernel_rfl) (by decide) (fun W h => h.holds (Le.refl _) (by first | exact mp rfl | exact mq rfl)) (Yld.off rfl) ?_ | refine RAny.tu 9 (bl 18 1023) rfl (by kernel_rfl) (by decide) (fun W h => h.holds (Le.refl _) (by first | exact mp rfl | exact mq rfl)) rfl ?_
          refine RAny.tk 10 (bl 18 2047) rfl (by kernel_rfl) (by decide) (fun W h => h.holds (Le.refl _) (by first | exact mp rfl | exact mq rfl)) (Yld.lenS T rfl rfl rfl) ?_
          refine RAny.tk 11 (bl 18 4095) rfl (by kernel_rfl) (by decide) (fun W h => h.holds (Le.refl _) (by first | exact mp rfl | exact mq rfl)) (Yld.as (v' := .bool (decide (255 < p.length))) (Yld.gtr rfl rfl rfl) (by congr 1; rw [decide_eq_decide]; omega)) ?_
          refine RAny.tk 12 (bl 18 8191) rfl (by kernel_rfl) (by decide) (fun W h => h.holds (Le.refl _) (by first | exact mp rfl | exact mq rfl)) (Yld.eval T rfl rfl) ?_
          refine RAny.tk 13 (bl 18 16383) rfl (by kernel_rfl) (by decide) (fun W h => h.holds (Le.refl _) (by first | exact mp rfl | exact mq rfl)) (Yld.eval T rfl rfl) ?_
          refine RAny.tk 14 (bl 18 32767) rfl (by kernel_rfl) (by decide) (fun W h => h.holds (Le.refl _) (by first | exact mp rfl | exact mq rfl)) (Yld.eval T rfl rfl) ?_
          refine RAny.tk 15 (bl 18 65535) rfl (by kernel_rfl) (by decide) (fun W h => h.holds (Le.refl _) (by first | exact mp rfl | exact mq rfl)) (Yld.eval T rfl rfl) ?_
          refine RAny.tk 16 (bl 18 131071) rfl (by kernel_rfl) (by decide) (fun W h => h.holds (Le.refl _) (by first | exact mp rfl | exact mq rfl)) (Yld.eval T rfl rfl) ?_
          refine RAny.tk 17 (bl 18 262143) rfl (by kernel_rfl) (by decide) (fun W h => h.holds (Le.refl _) (by first | exact mp rfl | exact mq rfl)) (Yld.eval T rfl rfl) ?_
          refine RAny.done _ (by kernel_rfl) ?_
          skip
          refine Run.fin (Run.ret5 (by rw [hCf]; exact Proofs.Tryz.func35) Proofs.Tryz.results35 rfl rfl rfl rfl rfl (hR _ _ _ ?_))
          refine ⟨rfl, ?_⟩
          rw [hd0]
          rfl
end Go.V
