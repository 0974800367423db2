/-
  Platforms compared by the package: copies that the call owns, sorted, compared.
-/
import Derived.Test.YtmdpfceigmimhaaKSame3
import Derived.Test.YtmdpfceigmimhaaV14
namespace Go.V
open Go.RowKit
set_option linter.unusedVariables false
set_option linter.unusedSimpArgs false
set_option maxRecDepth 10000
attribute [local irreducible] Run Ops

open Classical in
theorem perm4 {α : Type} (A B C D : List α) : ((A ++ B) ++ (C ++ D)).Perm ((A ++ C) ++ (B ++ D)) := perm_of_count fun x => by simp only [List.count_append]; omega

theorem impl_copiedM (I : Imm) (xs : Txts) (v : Value) (h : Sl tStr I v xs) (hlen : xs.length ≤ 2147483647) : Spec Proofs.Try.prog 67 [v] I [] fun w J M => Gr tStr J 9 w xs M := by
  have h0 := h
  obtain ⟨A, c, rfl, hc, hrow⟩ := h0
  refine Spec.enter 8 [(0, _)] Proofs.Try.func67 rfl Proofs.Try.ntmps67 (by simp) rfl ?_
  intro C hCf hR hCI
  repeat (first | refine Run.seq ?_ | refine Run.region ?_ | refine Ops.nil ?_ | refine Run.skip ?_ | refine Run.cond_t rfl ?_ | refine Run.cond_f rfl ?_ | refine Ops.eqlNil T rfl (by decide) rfl rfl rfl rfl rfl ?_ | refine Ops.pure T rfl (by decide) rfl ?_)
  cases A with
  | none =>
    have : xs = [] := by
      rcases hrow with h | ⟨b, off, h, _⟩
      · exact h
      · cases h
    subst this
    repeat (first | refine Run.seq ?_ | refine Run.region ?_ | refine Ops.nil ?_ | refine Run.skip ?_ | refine Run.cond_t rfl ?_ | refine Run.cond_f rfl ?_ | refine Ops.eqlNil T rfl (by decide) rfl rfl rfl rfl rfl ?_ | refine Ops.pure T rfl (by decide) rfl ?_)
    refine Run.ret1 (by rw [hCf]; exact Proofs.Try.func67) Proofs.Try.results67 rfl (hR _ _ _ ?_)
    exact Gr.nil _ _ _
  | some a =>
    repeat (first | refine Run.seq ?_ | refine Run.region ?_ | refine Ops.nil ?_ | refine Run.skip ?_ | refine Run.cond_t rfl ?_ | refine Run.cond_f rfl ?_ | refine Ops.eqlNil T rfl (by decide) rfl rfl rfl rfl rfl ?_ | refine Ops.pure T rfl (by decide) rfl ?_)
    refine Ops.lit T rfl rfl rfl (by decide) rfl (by decide) (by decide) rfl rfl rfl rfl rfl (fun b => ?_)
    repeat (first | refine Run.seq ?_ | refine Run.region ?_ | refine Ops.nil ?_ | refine Run.skip ?_ | refine Run.cond_t rfl ?_ | refine Run.cond_f rfl ?_ | refine Ops.eqlNil T rfl (by decide) rfl rfl rfl rfl rfl ?_ | refine Ops.pure T rfl (by decide) rfl ?_)
    refine Ops.appSl (N := []) el30 (Gr.lit0 tStr I _ b) h (fun _ h => h.one_str) rfl (by decide) rfl rfl rfl (by simp; omega) (by simp; omega) ?_
    rintro v' M' hG
    repeat (first | refine Run.seq ?_ | refine Run.region ?_ | refine Ops.nil ?_ | refine Run.skip ?_ | refine Run.cond_t rfl ?_ | refine Run.cond_f rfl ?_ | refine Ops.eqlNil T rfl (by decide) rfl rfl rfl rfl rfl ?_ | refine Ops.pure T rfl (by decide) rfl ?_)
    refine Run.ret1 (by rw [hCf]; exact Proofs.Try.func67) Proofs.Try.results67 rfl (hR _ _ _ ?_)
    simpa using hG

theorem Platform_toM (I : Imm) (p : Pf) (u v : Value) (f g : Txts) (hf : Sl tStr I u f) (hg : Sl tStr I v g) (h1 : f.length ≤ 2147483647) (h2 : g.length ≤ 2147483647) :
    Spec Proofs.Try.prog 51 [.agg (p.cs u v).toArray] I [] fun w J M => ∃ u' v' M1 M2, w = .agg (p.ds u' v').toArray ∧ M = M1 ++ M2 ∧ Gr tStr J 9 u' f M1 ∧ Gr tStr J 9 v' g M2 := by
  refine Spec.enter 18 [(0, _)] Proofs.Try.func51 rfl Proofs.Try.ntmps51 (by simp) rfl ?_
  intro C hCf hR hCI
  repeat (first | refine Run.seq ?_ | refine Run.region ?_ | refine Ops.nil ?_ | refine Ops.pure T rfl (by decide) rfl ?_ | refine Ops.load 0 rfl (by decide) rfl rfl (T.aggOk rfl) rfl ?_ | refine Ops.load 1 rfl (by decide) rfl rfl (T.aggOk rfl) rfl ?_ | refine Ops.load 2 rfl (by decide) rfl rfl (T.aggOk rfl) rfl ?_ | refine Ops.load 3 rfl (by decide) rfl rfl (T.aggOk rfl) rfl ?_ | refine Ops.load 4 rfl (by decide) rfl rfl (T.aggOk rfl) rfl ?_ | refine Ops.load 5 rfl (by decide) rfl rfl (T.aggOk rfl) rfl ?_ | refine Ops.store 0 rfl rfl rfl rfl rfl (T.sizeOk rfl) rfl (Nat.le_of_ble_eq_true rfl) rfl rfl ?_ | refine Ops.store 1 rfl rfl rfl rfl rfl (T.sizeOk rfl) rfl (Nat.le_of_ble_eq_true rfl) rfl rfl ?_ | refine Ops.store 2 rfl rfl rfl rfl rfl (T.sizeOk rfl) rfl (Nat.le_of_ble_eq_true rfl) rfl rfl ?_ | refine Ops.store 3 rfl rfl rfl rfl rfl (T.sizeOk rfl) rfl (Nat.le_of_ble_eq_true rfl) rfl rfl ?_ | refine Ops.store 4 rfl rfl rfl rfl rfl (T.sizeOk rfl) rfl (Nat.le_of_ble_eq_true rfl) rfl rfl ?_ | refine Ops.store 5 rfl rfl rfl rfl rfl (T.sizeOk rfl) rfl (Nat.le_of_ble_eq_true rfl) rfl rfl ?_)
  obtain ⟨A, c, hu⟩ := hf.isSl
  obtain ⟨A', c', hv⟩ := hg.isSl
  subst hu
  subst hv
  refine Ops.box rfl (by decide) rfl rfl (fun b => ?_)
  repeat (first | refine Run.seq ?_ | refine Run.region ?_ | refine Ops.nil ?_ | refine Ops.pure T rfl (by decide) rfl ?_ | refine Ops.load 0 rfl (by decide) rfl rfl (T.aggOk rfl) rfl ?_ | refine Ops.load 1 rfl (by decide) rfl rfl (T.aggOk rfl) rfl ?_ | refine Ops.load 2 rfl (by decide) rfl rfl (T.aggOk rfl) rfl ?_ | refine Ops.load 3 rfl (by decide) rfl rfl (T.aggOk rfl) rfl ?_ | refine Ops.load 4 rfl (by decide) rfl rfl (T.aggOk rfl) rfl ?_ | refine Ops.load 5 rfl (by decide) rfl rfl (T.aggOk rfl) rfl ?_ | refine Ops.store 0 rfl rfl rfl rfl rfl (T.sizeOk rfl) rfl (Nat.le_of_ble_eq_true rfl) rfl rfl ?_ | refine Ops.store 1 rfl rfl rfl rfl rfl (T.sizeOk rfl) rfl (Nat.le_of_ble_eq_true rfl) rfl rfl ?_ | refine Ops.store 2 rfl rfl rfl rfl rfl (T.sizeOk rfl) rfl (Nat.le_of_ble_eq_true rfl) rfl rfl ?_ | refine Ops.store 3 rfl rfl rfl rfl rfl (T.sizeOk rfl) rfl (Nat.le_of_ble_eq_true rfl) rfl rfl ?_ | refine Ops.store 4 rfl rfl rfl rfl rfl (T.sizeOk rfl) rfl (Nat.le_of_ble_eq_true rfl) rfl rfl ?_ | refine Ops.store 5 rfl rfl rfl rfl rfl (T.sizeOk rfl) rfl (Nat.le_of_ble_eq_true rfl) rfl rfl ?_)
  refine Ops.alloc rfl (by decide) (T.zeroOk rfl) rfl (fun b2 => ?_)
  repeat (first | refine Run.seq ?_ | refine Run.region ?_ | refine Ops.nil ?_ | refine Ops.pure T rfl (by decide) rfl ?_ | refine Ops.load 0 rfl (by decide) rfl rfl (T.aggOk rfl) rfl ?_ | refine Ops.load 1 rfl (by decide) rfl rfl (T.aggOk rfl) rfl ?_ | refine Ops.load 2 rfl (by decide) rfl rfl (T.aggOk rfl) rfl ?_ | refine Ops.load 3 rfl (by decide) rfl rfl (T.aggOk rfl) rfl ?_ | refine Ops.load 4 rfl (by decide) rfl rfl (T.aggOk rfl) rfl ?_ | refine Ops.load 5 rfl (by decide) rfl rfl (T.aggOk rfl) rfl ?_ | refine Ops.store 0 rfl rfl rfl rfl rfl (T.sizeOk rfl) rfl (Nat.le_of_ble_eq_true rfl) rfl rfl ?_ | refine Ops.store 1 rfl rfl rfl rfl rfl (T.sizeOk rfl) rfl (Nat.le_of_ble_eq_true rfl) rfl rfl ?_ | refine Ops.store 2 rfl rfl rfl rfl rfl (T.sizeOk rfl) rfl (Nat.le_of_ble_eq_true rfl) rfl rfl ?_ | refine Ops.store 3 rfl rfl rfl rfl rfl (T.sizeOk rfl) rfl (Nat.le_of_ble_eq_true rfl) rfl rfl ?_ | refine Ops.store 4 rfl rfl rfl rfl rfl (T.sizeOk rfl) rfl (Nat.le_of_ble_eq_true rfl) rfl rfl ?_ | refine Ops.store 5 rfl rfl rfl rfl rfl (T.sizeOk rfl) rfl (Nat.le_of_ble_eq_true rfl) rfl rfl ?_)
  refine Run.regionAny (Holds I [(b, blk (p.cs (.slice A f.length c) (.slice A' g.length c')) 38)]) [false, false, false, false, false, false, false, false, false, false, false, false, false, false, false, false] (by kernel_rfl) rfl ?_
  refine RAny.takeD 0 [true, false, false, false, false, false, false, false, false, false, false, false, false, false, false, false] rfl (by kernel_rfl) (by kernel_rfl) (by kernel_rfl) rfl (by decide) (fun W h => h.holds (Le.refl _) (fun _ h => by first | exact h | (cases h; done) | (simp at h; subst h; simp))) (Yld.eval T rfl rfl) ?_
  refine RAny.takeD 1 [true, true, false, false, false, false, false, false, false, false, false, false, false, false, false, false] rfl (by kernel_rfl) (by kernel_rfl) (by kernel_rfl) rfl (by decide) (fun W h => h.holds (Le.refl _) (fun _ h => by first | exact h | (cases h; done) | (simp at h; subst h; simp))) (Yld.load 0 T rfl rfl rfl rfl rfl) ?_
  refine RAny.takeD 2 [true, true, true, false, false, false, false, false, false, false, false, false, false, false, false, false] rfl (by kernel_rfl) (by kernel_rfl) (by kernel_rfl) rfl (by decide) (fun W h => h.holds (Le.refl _) (fun _ h => by first | exact h | (cases h; done) | (simp at h; subst h; simp))) (Yld.eval T rfl rfl) ?_
  refine RAny.takeD 3 [true, true, true, true, false, false, false, false, false, false, false, false, false, false, false, false] rfl (by kernel_rfl) (by kernel_rfl) (by kernel_rfl) rfl (by decide) (fun W h => h.holds (Le.refl _) (fun _ h => by first | exact h | (cases h; done) | (simp at h; subst h; simp))) (Yld.load 0 T rfl rfl rfl rfl rfl) ?_
  refine RAny.takeD 4 [true, true, true, true, true, false, false, false, false, false, false, false, false, false, false, false] rfl (by kernel_rfl) (by kernel_rfl) (by kernel_rfl) rfl (by decide) (fun W h => h.holds (Le.refl _) (fun _ h => by first | exact h | (cases h; done) | (simp at h; subst h; simp))) (Yld.eval T rfl rfl) ?_
  refine RAny.takeD 5 [true, true, true, true, true, true, false, false, false, false, false, false, false, false, false, false] rfl (by kernel_rfl) (by kernel_rfl) (by kernel_rfl) rfl (by decide) (fun W h => h.holds (Le.refl _) (fun _ h => by first | exact h | (cases h; done) | (simp at h; subst h; simp))) (Yld.load 0 T rfl rfl rfl rfl rfl) ?_
  refine RAny.takeD 6 [true, true, true, true, true, true, true, false, false, false, false, false, false, false, false, false] rfl (by kernel_rfl) (by kernel_rfl) (by kernel_rfl) rfl (by decide) (fun W h => h.holds (Le.refl _) (fun _ h => by first | exact h | (cases h; done) | (simp at h; subst h; simp))) (Yld.eval T rfl rfl) ?_
  refine RAny.takeD 7 [true, true, true, true, true, true, true, true, false, false, false, false, false, false, false, false] rfl (by kernel_rfl) (by kernel_rfl) (by kernel_rfl) rfl (by decide) (fun W h => h.holds (Le.refl _) (fun _ h => by first | exact h | (cases h; done) | (simp at h; subst h; simp))) (Yld.load 0 T rfl rfl rfl rfl rfl) ?_
  refine RAny.takeD 8 [true, true, true, true, true, true, true, true, true, false, false, false, false, false, false, false] rfl (by kernel_rfl) (by kernel_rfl) (by kernel_rfl) rfl (by decide) (fun W h => h.holds (Le.refl _) (fun _ h => by first | exact h | (cases h; done) | (simp at h; subst h; simp))) (Yld.eval T rfl rfl) ?_
  refine RAny.takeD 9 [true, true, true, true, true, true, true, true, true, true, false, false, false, false, false, false] rfl (by kernel_rfl) (by kernel_rfl) (by kernel_rfl) rfl (by decide) (fun W h => h.holds (Le.refl _) (fun _ h => by first | exact h | (cases h; done) | (simp at h; subst h; simp))) (Yld.load 0 T rfl rfl rfl rfl rfl) ?_
  refine RAny.takeD 11 [true, true, true, true, true, true, true, true, true, true, false, true, false, false, false, false] rfl (by kernel_rfl) (by kernel_rfl) (by kernel_rfl) rfl (by decide) (fun W h => h.holds (Le.refl _) (fun _ h => by first | exact h | (cases h; done) | (simp at h; subst h; simp))) (Yld.eval T rfl rfl) ?_
  refine RAny.takeD 12 [true, true, true, true, true, true, true, true, true, true, false, true, true, false, false, false] rfl (by kernel_rfl) (by kernel_rfl) (by kernel_rfl) rfl (by decide) (fun W h => h.holds (Le.refl _) (fun _ h => by first | exact h | (cases h; done) | (simp at h; subst h; simp))) (Yld.load 0 T rfl rfl rfl rfl rfl) ?_
  refine RAny.oneD 10 [true, true, true, true, true, true, true, true, true, true, true, true, true, false, false, false] rfl (by kernel_rfl) rfl rfl (by decide) (Eff.callM (M := []) (impl_copiedM I f _ hf h1) (.refl _) Proofs.Try.call67 rfl fun u' J M1 hle hu' => ⟨fun W h => h.holds hle (fun x h => by simp at h; subst h; simp), ?_⟩)
  refine RAny.perm List.perm_append_comm ?_
  refine RAny.oneD 13 [true, true, true, true, true, true, true, true, true, true, true, true, true, true, false, false] rfl (by kernel_rfl) rfl rfl (by decide) (Eff.callM (M := []) (impl_copiedM J g _ (hg.mono hle) h2) (.refl _) Proofs.Try.call67 rfl fun v' J2 M2 hle2 hv' => ⟨fun W h => h.holds (hle.trans hle2) (fun x h => by simp at h; subst h; simp), ?_⟩)
  refine RAny.perm List.perm_append_comm ?_
  have hu3 := hu'.mono hle2
  obtain ⟨A2, c2, hu2⟩ := hu'.isSl
  obtain ⟨A3, c3, hv2⟩ := hv'.isSl
  subst hu2
  subst hv2
  refine RAny.takeD 14 [true, true, true, true, true, true, true, true, true, true, true, true, true, true, true, false] rfl (by kernel_rfl) (by kernel_rfl) (by kernel_rfl) rfl (by decide) (fun W h => h.holds (hle.trans hle2) (fun x h => by simp at h; subst h; simp)) (Yld.buildL bd82 rfl rfl rfl) ?_
  refine RAny.oneS 15 [true, true, true, true, true, true, true, true, true, true, true, true, true, true, true, true] rfl (by kernel_rfl) rfl rfl (Eff.store 0 rfl rfl rfl rfl (T.sizeOk rfl) rfl (Nat.le_of_ble_eq_true rfl) rfl rfl ⟨fun W h => h.holds (hle.trans hle2) (fun x h => List.mem_cons_of_mem _ (List.mem_append_left _ (List.mem_append_left _ h))), ?_⟩)
  refine RAny.done _ (by kernel_rfl) ?_
  repeat (first | refine Run.seq ?_ | refine Run.region ?_ | refine Ops.nil ?_ | refine Ops.pure T rfl (by decide) rfl ?_ | refine Ops.load 0 rfl (by decide) rfl rfl (T.aggOk rfl) rfl ?_ | refine Ops.load 1 rfl (by decide) rfl rfl (T.aggOk rfl) rfl ?_ | refine Ops.load 2 rfl (by decide) rfl rfl (T.aggOk rfl) rfl ?_ | refine Ops.load 3 rfl (by decide) rfl rfl (T.aggOk rfl) rfl ?_ | refine Ops.load 4 rfl (by decide) rfl rfl (T.aggOk rfl) rfl ?_ | refine Ops.load 5 rfl (by decide) rfl rfl (T.aggOk rfl) rfl ?_ | refine Ops.store 0 rfl rfl rfl rfl rfl (T.sizeOk rfl) rfl (Nat.le_of_ble_eq_true rfl) rfl rfl ?_ | refine Ops.store 1 rfl rfl rfl rfl rfl (T.sizeOk rfl) rfl (Nat.le_of_ble_eq_true rfl) rfl rfl ?_ | refine Ops.store 2 rfl rfl rfl rfl rfl (T.sizeOk rfl) rfl (Nat.le_of_ble_eq_true rfl) rfl rfl ?_ | refine Ops.store 3 rfl rfl rfl rfl rfl (T.sizeOk rfl) rfl (Nat.le_of_ble_eq_true rfl) rfl rfl ?_ | refine Ops.store 4 rfl rfl rfl rfl rfl (T.sizeOk rfl) rfl (Nat.le_of_ble_eq_true rfl) rfl rfl ?_ | refine Ops.store 5 rfl rfl rfl rfl rfl (T.sizeOk rfl) rfl (Nat.le_of_ble_eq_true rfl) rfl rfl ?_)
  refine Run.retCK T 0 (by rw [hCf]; exact Proofs.Try.func51) Proofs.Try.results51 rfl rfl rfl rfl rfl rfl (List.sublist_append_right [_, _] (M1 ++ M2)) (hR _ _ _ ?_)
  exact ⟨_, _, M1, M2, rfl, rfl, hu3, hv'⟩

theorem v1_stringSliceEqual (a b : Txts) (v w : Value) (I : Imm) (ha : Sl tStr I v a) (hb : Sl tStr I w b) (hal : a.length ≤ 4611686018427387904) : Pure Proofs.Try.prog 89 [v, w] I fun u J => u = .bool (decide (a = b)) := by
  refine Spec.enter 26 [(0, _), (1, _)] Proofs.Try.func89 rfl Proofs.Try.ntmps89 (by simp) rfl ?_
  intro C hCf hR hCI
  repeat (first | refine Run.seq ?_ | refine Run.region ?_ | refine Ops.nil ?_ | refine Run.skip ?_ | refine Run.block ?_ | refine Run.inBlock ?_ | refine Run.exit rfl ?_ | refine Run.cond_t rfl ?_ | refine Run.cond_f rfl ?_ | refine Ops.add rfl (by decide) rfl rfl (wI (by first | omega | (simp only [List.length_cons, List.length_nil] ; omega) | (simp; omega)) (by first | omega | (simp only [List.length_cons, List.length_nil] ; omega) | (simp; omega))) ?_ | refine Ops.lss rfl (by decide) rfl rfl ?_ | refine Ops.neq rfl (by decide) rfl rfl ?_ | refine Ops.neqStr rfl (by decide) rfl rfl ?_ | refine Ops.pure T rfl (by decide) rfl ?_ | refine Ops.load 0 rfl (by decide) rfl rfl (T.aggOk rfl) rfl ?_ | refine Ops.load 1 rfl (by decide) rfl rfl (T.aggOk rfl) rfl ?_ | refine Ops.load 2 rfl (by decide) rfl rfl (T.aggOk rfl) rfl ?_ | refine Ops.load 3 rfl (by decide) rfl rfl (T.aggOk rfl) rfl ?_ | refine Ops.load 4 rfl (by decide) rfl rfl (T.aggOk rfl) rfl ?_ | refine Ops.load 5 rfl (by decide) rfl rfl (T.aggOk rfl) rfl ?_)
  refine Ops.lenSl (ha) rfl (by decide) rfl (T.undOk rfl) ?_
  repeat (first | refine Run.seq ?_ | refine Run.region ?_ | refine Ops.nil ?_ | refine Run.skip ?_ | refine Run.block ?_ | refine Run.inBlock ?_ | refine Run.exit rfl ?_ | refine Run.cond_t rfl ?_ | refine Run.cond_f rfl ?_ | refine Ops.add rfl (by decide) rfl rfl (wI (by first | omega | (simp only [List.length_cons, List.length_nil] ; omega) | (simp; omega)) (by first | omega | (simp only [List.length_cons, List.length_nil] ; omega) | (simp; omega))) ?_ | refine Ops.lss rfl (by decide) rfl rfl ?_ | refine Ops.neq rfl (by decide) rfl rfl ?_ | refine Ops.neqStr rfl (by decide) rfl rfl ?_ | refine Ops.pure T rfl (by decide) rfl ?_ | refine Ops.load 0 rfl (by decide) rfl rfl (T.aggOk rfl) rfl ?_ | refine Ops.load 1 rfl (by decide) rfl rfl (T.aggOk rfl) rfl ?_ | refine Ops.load 2 rfl (by decide) rfl rfl (T.aggOk rfl) rfl ?_ | refine Ops.load 3 rfl (by decide) rfl rfl (T.aggOk rfl) rfl ?_ | refine Ops.load 4 rfl (by decide) rfl rfl (T.aggOk rfl) rfl ?_ | refine Ops.load 5 rfl (by decide) rfl rfl (T.aggOk rfl) rfl ?_)
  refine Ops.lenSl (hb) rfl (by decide) rfl (T.undOk rfl) ?_
  repeat (first | refine Run.seq ?_ | refine Run.region ?_ | refine Ops.nil ?_ | refine Run.skip ?_ | refine Run.block ?_ | refine Run.inBlock ?_ | refine Run.exit rfl ?_ | refine Run.cond_t rfl ?_ | refine Run.cond_f rfl ?_ | refine Ops.add rfl (by decide) rfl rfl (wI (by first | omega | (simp only [List.length_cons, List.length_nil] ; omega) | (simp; omega)) (by first | omega | (simp only [List.length_cons, List.length_nil] ; omega) | (simp; omega))) ?_ | refine Ops.lss rfl (by decide) rfl rfl ?_ | refine Ops.neq rfl (by decide) rfl rfl ?_ | refine Ops.neqStr rfl (by decide) rfl rfl ?_ | refine Ops.pure T rfl (by decide) rfl ?_ | refine Ops.load 0 rfl (by decide) rfl rfl (T.aggOk rfl) rfl ?_ | refine Ops.load 1 rfl (by decide) rfl rfl (T.aggOk rfl) rfl ?_ | refine Ops.load 2 rfl (by decide) rfl rfl (T.aggOk rfl) rfl ?_ | refine Ops.load 3 rfl (by decide) rfl rfl (T.aggOk rfl) rfl ?_ | refine Ops.load 4 rfl (by decide) rfl rfl (T.aggOk rfl) rfl ?_ | refine Ops.load 5 rfl (by decide) rfl rfl (T.aggOk rfl) rfl ?_)
  refine Run.cond rfl rfl (fun hlen => ?_) (fun hlen => ?_)
  all_goals (try rw [hlen])
  all_goals (try simp only [decide_eq_true_eq, decide_eq_false_iff_not, Bool.not_eq_true', Bool.not_eq_false', Bool.and_eq_true, Bool.or_eq_true, Bool.and_eq_false_imp, Bool.or_eq_false_iff] at hlen)
  · skip
    repeat (first | refine Run.seq ?_ | refine Run.region ?_ | refine Ops.nil ?_ | refine Run.skip ?_ | refine Run.block ?_ | refine Run.inBlock ?_ | refine Run.exit rfl ?_ | refine Run.cond_t rfl ?_ | refine Run.cond_f rfl ?_ | refine Ops.add rfl (by decide) rfl rfl (wI (by first | omega | (simp only [List.length_cons, List.length_nil] ; omega) | (simp; omega)) (by first | omega | (simp only [List.length_cons, List.length_nil] ; omega) | (simp; omega))) ?_ | refine Ops.lss rfl (by decide) rfl rfl ?_ | refine Ops.neq rfl (by decide) rfl rfl ?_ | refine Ops.neqStr rfl (by decide) rfl rfl ?_ | refine Ops.pure T rfl (by decide) rfl ?_ | refine Ops.load 0 rfl (by decide) rfl rfl (T.aggOk rfl) rfl ?_ | refine Ops.load 1 rfl (by decide) rfl rfl (T.aggOk rfl) rfl ?_ | refine Ops.load 2 rfl (by decide) rfl rfl (T.aggOk rfl) rfl ?_ | refine Ops.load 3 rfl (by decide) rfl rfl (T.aggOk rfl) rfl ?_ | refine Ops.load 4 rfl (by decide) rfl rfl (T.aggOk rfl) rfl ?_ | refine Ops.load 5 rfl (by decide) rfl rfl (T.aggOk rfl) rfl ?_)
    refine Run.fin (Run.ret1 (by rw [hCf]; exact Proofs.Try.func89) Proofs.Try.results89 rfl (hR _ _ _ ?_))
    refine ⟨rfl, ?_⟩
    rw [decide_eq_false (fun h => hlen (by rw [h]))]
  · skip
    repeat (first | refine Run.seq ?_ | refine Run.region ?_ | refine Ops.nil ?_ | refine Run.skip ?_ | refine Run.block ?_ | refine Run.inBlock ?_ | refine Run.exit rfl ?_ | refine Run.cond_t rfl ?_ | refine Run.cond_f rfl ?_ | refine Ops.add rfl (by decide) rfl rfl (wI (by first | omega | (simp only [List.length_cons, List.length_nil] ; omega) | (simp; omega)) (by first | omega | (simp only [List.length_cons, List.length_nil] ; omega) | (simp; omega))) ?_ | refine Ops.lss rfl (by decide) rfl rfl ?_ | refine Ops.neq rfl (by decide) rfl rfl ?_ | refine Ops.neqStr rfl (by decide) rfl rfl ?_ | refine Ops.pure T rfl (by decide) rfl ?_ | refine Ops.load 0 rfl (by decide) rfl rfl (T.aggOk rfl) rfl ?_ | refine Ops.load 1 rfl (by decide) rfl rfl (T.aggOk rfl) rfl ?_ | refine Ops.load 2 rfl (by decide) rfl rfl (T.aggOk rfl) rfl ?_ | refine Ops.load 3 rfl (by decide) rfl rfl (T.aggOk rfl) rfl ?_ | refine Ops.load 4 rfl (by decide) rfl rfl (T.aggOk rfl) rfl ?_ | refine Ops.load 5 rfl (by decide) rfl rfl (T.aggOk rfl) rfl ?_)
    refine Ops.lenSl (ha) rfl (by decide) rfl (T.undOk rfl) ?_
    repeat (first | refine Run.seq ?_ | refine Run.region ?_ | refine Ops.nil ?_ | refine Run.skip ?_ | refine Run.block ?_ | refine Run.inBlock ?_ | refine Run.exit rfl ?_ | refine Run.cond_t rfl ?_ | refine Run.cond_f rfl ?_ | refine Ops.add rfl (by decide) rfl rfl (wI (by first | omega | (simp only [List.length_cons, List.length_nil] ; omega) | (simp; omega)) (by first | omega | (simp only [List.length_cons, List.length_nil] ; omega) | (simp; omega))) ?_ | refine Ops.lss rfl (by decide) rfl rfl ?_ | refine Ops.neq rfl (by decide) rfl rfl ?_ | refine Ops.neqStr rfl (by decide) rfl rfl ?_ | refine Ops.pure T rfl (by decide) rfl ?_ | refine Ops.load 0 rfl (by decide) rfl rfl (T.aggOk rfl) rfl ?_ | refine Ops.load 1 rfl (by decide) rfl rfl (T.aggOk rfl) rfl ?_ | refine Ops.load 2 rfl (by decide) rfl rfl (T.aggOk rfl) rfl ?_ | refine Ops.load 3 rfl (by decide) rfl rfl (T.aggOk rfl) rfl ?_ | refine Ops.load 4 rfl (by decide) rfl rfl (T.aggOk rfl) rfl ?_ | refine Ops.load 5 rfl (by decide) rfl rfl (T.aggOk rfl) rfl ?_)
    refine Run.keep [0, 1, 12, 13, 14] [_, _, _, _, _] rfl ?_
    refine Run.rounds (fun m env L J => ∃ i : Nat, m = a.length - i ∧ i ≤ a.length ∧ a.take i = b.take i ∧ env = [(0, v), (1, w), (12, v), (13, .int .i64 a.length), (14, .int .i64 i)] ∧ L = [] ∧ J = I) a.length ⟨0, by omega, by omega, by simp, rfl, rfl, rfl⟩ ?_
    rintro m env L J ⟨i, rfl, hi, heq, rfl, rfl, rfl⟩ ih
    have hlen' : a.length = b.length := by omega
    repeat (first | refine Run.seq ?_ | refine Run.region ?_ | refine Ops.nil ?_ | refine Run.skip ?_ | refine Run.block ?_ | refine Run.inBlock ?_ | refine Run.exit rfl ?_ | refine Run.cond_t rfl ?_ | refine Run.cond_f rfl ?_ | refine Ops.add rfl (by decide) rfl rfl (wI (by first | omega | (simp only [List.length_cons, List.length_nil] ; omega) | (simp; omega)) (by first | omega | (simp only [List.length_cons, List.length_nil] ; omega) | (simp; omega))) ?_ | refine Ops.lss rfl (by decide) rfl rfl ?_ | refine Ops.neq rfl (by decide) rfl rfl ?_ | refine Ops.neqStr rfl (by decide) rfl rfl ?_ | refine Ops.pure T rfl (by decide) rfl ?_ | refine Ops.load 0 rfl (by decide) rfl rfl (T.aggOk rfl) rfl ?_ | refine Ops.load 1 rfl (by decide) rfl rfl (T.aggOk rfl) rfl ?_ | refine Ops.load 2 rfl (by decide) rfl rfl (T.aggOk rfl) rfl ?_ | refine Ops.load 3 rfl (by decide) rfl rfl (T.aggOk rfl) rfl ?_ | refine Ops.load 4 rfl (by decide) rfl rfl (T.aggOk rfl) rfl ?_ | refine Ops.load 5 rfl (by decide) rfl rfl (T.aggOk rfl) rfl ?_)
    refine Run.cond rfl rfl (fun h => ?_) (fun h => ?_)
    all_goals (try rw [h])
    all_goals (try simp only [decide_eq_true_eq, decide_eq_false_iff_not, Bool.not_eq_true', Bool.not_eq_false', Bool.and_eq_true, Bool.or_eq_true, Bool.and_eq_false_imp, Bool.or_eq_false_iff] at h)
    · have hi' : i < a.length := by omega
      repeat (first | refine Run.seq ?_ | refine Run.region ?_ | refine Ops.nil ?_ | refine Run.skip ?_ | refine Run.block ?_ | refine Run.inBlock ?_ | refine Run.exit rfl ?_ | refine Run.cond_t rfl ?_ | refine Run.cond_f rfl ?_ | refine Ops.add rfl (by decide) rfl rfl (wI (by first | omega | (simp only [List.length_cons, List.length_nil] ; omega) | (simp; omega)) (by first | omega | (simp only [List.length_cons, List.length_nil] ; omega) | (simp; omega))) ?_ | refine Ops.lss rfl (by decide) rfl rfl ?_ | refine Ops.neq rfl (by decide) rfl rfl ?_ | refine Ops.neqStr rfl (by decide) rfl rfl ?_ | refine Ops.pure T rfl (by decide) rfl ?_ | refine Ops.load 0 rfl (by decide) rfl rfl (T.aggOk rfl) rfl ?_ | refine Ops.load 1 rfl (by decide) rfl rfl (T.aggOk rfl) rfl ?_ | refine Ops.load 2 rfl (by decide) rfl rfl (T.aggOk rfl) rfl ?_ | refine Ops.load 3 rfl (by decide) rfl rfl (T.aggOk rfl) rfl ?_ | refine Ops.load 4 rfl (by decide) rfl rfl (T.aggOk rfl) rfl ?_ | refine Ops.load 5 rfl (by decide) rfl rfl (T.aggOk rfl) rfl ?_)
      refine Ops.indexSl ha rfl (by decide) rfl rfl (T.undOk rfl) (T.sizeOk rfl) (by first | omega | (simp only [List.length_cons, List.length_nil] ; omega) | (simp; omega)) (by first | omega | (simp only [List.length_cons, List.length_nil] ; omega) | (simp; omega)) ?_
      rintro b_ off_ x cs_ hx hr_ hA_
      obtain rfl : cs_ = [_] := hr_
      refine Ops.loadI rfl (by decide) rfl hA_ (T.aggOk rfl) ?_
      repeat (first | refine Run.seq ?_ | refine Run.region ?_ | refine Ops.nil ?_ | refine Run.skip ?_ | refine Run.block ?_ | refine Run.inBlock ?_ | refine Run.exit rfl ?_ | refine Run.cond_t rfl ?_ | refine Run.cond_f rfl ?_ | refine Ops.add rfl (by decide) rfl rfl (wI (by first | omega | (simp only [List.length_cons, List.length_nil] ; omega) | (simp; omega)) (by first | omega | (simp only [List.length_cons, List.length_nil] ; omega) | (simp; omega))) ?_ | refine Ops.lss rfl (by decide) rfl rfl ?_ | refine Ops.neq rfl (by decide) rfl rfl ?_ | refine Ops.neqStr rfl (by decide) rfl rfl ?_ | refine Ops.pure T rfl (by decide) rfl ?_ | refine Ops.load 0 rfl (by decide) rfl rfl (T.aggOk rfl) rfl ?_ | refine Ops.load 1 rfl (by decide) rfl rfl (T.aggOk rfl) rfl ?_ | refine Ops.load 2 rfl (by decide) rfl rfl (T.aggOk rfl) rfl ?_ | refine Ops.load 3 rfl (by decide) rfl rfl (T.aggOk rfl) rfl ?_ | refine Ops.load 4 rfl (by decide) rfl rfl (T.aggOk rfl) rfl ?_ | refine Ops.load 5 rfl (by decide) rfl rfl (T.aggOk rfl) rfl ?_)
      refine Ops.indexSl hb rfl (by decide) rfl rfl (T.undOk rfl) (T.sizeOk rfl) (by first | omega | (simp only [List.length_cons, List.length_nil] ; omega) | (simp; omega)) (by first | omega | (simp only [List.length_cons, List.length_nil] ; omega) | (simp; omega)) ?_
      rintro b_ off_ y cs_ hy hr_ hA_
      obtain rfl : cs_ = [_] := hr_
      refine Ops.loadI rfl (by decide) rfl hA_ (T.aggOk rfl) ?_
      rw [Int.toNat_natCast] at hx hy
      repeat (first | refine Run.seq ?_ | refine Run.region ?_ | refine Ops.nil ?_ | refine Run.skip ?_ | refine Run.block ?_ | refine Run.inBlock ?_ | refine Run.exit rfl ?_ | refine Run.cond_t rfl ?_ | refine Run.cond_f rfl ?_ | refine Ops.add rfl (by decide) rfl rfl (wI (by first | omega | (simp only [List.length_cons, List.length_nil] ; omega) | (simp; omega)) (by first | omega | (simp only [List.length_cons, List.length_nil] ; omega) | (simp; omega))) ?_ | refine Ops.lss rfl (by decide) rfl rfl ?_ | refine Ops.neq rfl (by decide) rfl rfl ?_ | refine Ops.neqStr rfl (by decide) rfl rfl ?_ | refine Ops.pure T rfl (by decide) rfl ?_ | refine Ops.load 0 rfl (by decide) rfl rfl (T.aggOk rfl) rfl ?_ | refine Ops.load 1 rfl (by decide) rfl rfl (T.aggOk rfl) rfl ?_ | refine Ops.load 2 rfl (by decide) rfl rfl (T.aggOk rfl) rfl ?_ | refine Ops.load 3 rfl (by decide) rfl rfl (T.aggOk rfl) rfl ?_ | refine Ops.load 4 rfl (by decide) rfl rfl (T.aggOk rfl) rfl ?_ | refine Ops.load 5 rfl (by decide) rfl rfl (T.aggOk rfl) rfl ?_)
      refine Run.cond rfl rfl (fun h2 => ?_) (fun h2 => ?_)
      all_goals (try rw [h2])
      all_goals (try simp only [decide_eq_true_eq, decide_eq_false_iff_not, Bool.not_eq_true', Bool.not_eq_false', Bool.and_eq_true, Bool.or_eq_true, Bool.and_eq_false_imp, Bool.or_eq_false_iff] at h2)
      · skip
        repeat (first | refine Run.seq ?_ | refine Run.region ?_ | refine Ops.nil ?_ | refine Run.skip ?_ | refine Run.block ?_ | refine Run.inBlock ?_ | refine Run.exit rfl ?_ | refine Run.cond_t rfl ?_ | refine Run.cond_f rfl ?_ | refine Ops.add rfl (by decide) rfl rfl (wI (by first | omega | (simp only [List.length_cons, List.length_nil] ; omega) | (simp; omega)) (by first | omega | (simp only [List.length_cons, List.length_nil] ; omega) | (simp; omega))) ?_ | refine Ops.lss rfl (by decide) rfl rfl ?_ | refine Ops.neq rfl (by decide) rfl rfl ?_ | refine Ops.neqStr rfl (by decide) rfl rfl ?_ | refine Ops.pure T rfl (by decide) rfl ?_ | refine Ops.load 0 rfl (by decide) rfl rfl (T.aggOk rfl) rfl ?_ | refine Ops.load 1 rfl (by decide) rfl rfl (T.aggOk rfl) rfl ?_ | refine Ops.load 2 rfl (by decide) rfl rfl (T.aggOk rfl) rfl ?_ | refine Ops.load 3 rfl (by decide) rfl rfl (T.aggOk rfl) rfl ?_ | refine Ops.load 4 rfl (by decide) rfl rfl (T.aggOk rfl) rfl ?_ | refine Ops.load 5 rfl (by decide) rfl rfl (T.aggOk rfl) rfl ?_)
        refine Run.fin (Run.ret1 (by rw [hCf]; exact Proofs.Try.func89) Proofs.Try.results89 rfl (hR _ _ _ ?_))
        refine ⟨rfl, ?_⟩
        rw [decide_eq_false]
        intro hab
        subst hab
        rw [hx] at hy; cases hy
        exact h2 rfl
      · subst h2
        repeat (first | refine Run.seq ?_ | refine Run.region ?_ | refine Ops.nil ?_ | refine Run.skip ?_ | refine Run.block ?_ | refine Run.inBlock ?_ | refine Run.exit rfl ?_ | refine Run.cond_t rfl ?_ | refine Run.cond_f rfl ?_ | refine Ops.add rfl (by decide) rfl rfl (wI (by first | omega | (simp only [List.length_cons, List.length_nil] ; omega) | (simp; omega)) (by first | omega | (simp only [List.length_cons, List.length_nil] ; omega) | (simp; omega))) ?_ | refine Ops.lss rfl (by decide) rfl rfl ?_ | refine Ops.neq rfl (by decide) rfl rfl ?_ | refine Ops.neqStr rfl (by decide) rfl rfl ?_ | refine Ops.pure T rfl (by decide) rfl ?_ | refine Ops.load 0 rfl (by decide) rfl rfl (T.aggOk rfl) rfl ?_ | refine Ops.load 1 rfl (by decide) rfl rfl (T.aggOk rfl) rfl ?_ | refine Ops.load 2 rfl (by decide) rfl rfl (T.aggOk rfl) rfl ?_ | refine Ops.load 3 rfl (by decide) rfl rfl (T.aggOk rfl) rfl ?_ | refine Ops.load 4 rfl (by decide) rfl rfl (T.aggOk rfl) rfl ?_ | refine Ops.load 5 rfl (by decide) rfl rfl (T.aggOk rfl) rfl ?_)
        refine Run.keep [0, 1, 12, 13, 14] [_, _, _, _, _] rfl ?_
        refine ih (a.length - (i + 1)) _ _ _ (by omega) ⟨i + 1, rfl, by omega, ?_, rfl, rfl, rfl⟩
        rw [take_snoc hx, take_snoc hy, heq]
    · have hi' : i = a.length := by omega
      subst hi'
      repeat (first | refine Run.seq ?_ | refine Run.region ?_ | refine Ops.nil ?_ | refine Run.skip ?_ | refine Run.block ?_ | refine Run.inBlock ?_ | refine Run.exit rfl ?_ | refine Run.cond_t rfl ?_ | refine Run.cond_f rfl ?_ | refine Ops.add rfl (by decide) rfl rfl (wI (by first | omega | (simp only [List.length_cons, List.length_nil] ; omega) | (simp; omega)) (by first | omega | (simp only [List.length_cons, List.length_nil] ; omega) | (simp; omega))) ?_ | refine Ops.lss rfl (by decide) rfl rfl ?_ | refine Ops.neq rfl (by decide) rfl rfl ?_ | refine Ops.neqStr rfl (by decide) rfl rfl ?_ | refine Ops.pure T rfl (by decide) rfl ?_ | refine Ops.load 0 rfl (by decide) rfl rfl (T.aggOk rfl) rfl ?_ | refine Ops.load 1 rfl (by decide) rfl rfl (T.aggOk rfl) rfl ?_ | refine Ops.load 2 rfl (by decide) rfl rfl (T.aggOk rfl) rfl ?_ | refine Ops.load 3 rfl (by decide) rfl rfl (T.aggOk rfl) rfl ?_ | refine Ops.load 4 rfl (by decide) rfl rfl (T.aggOk rfl) rfl ?_ | refine Ops.load 5 rfl (by decide) rfl rfl (T.aggOk rfl) rfl ?_)
      refine Run.fin (Run.ret1 (by rw [hCf]; exact Proofs.Try.func89) Proofs.Try.results89 rfl (hR _ _ _ ?_))
      refine ⟨rfl, ?_⟩
      rw [decide_eq_true]
      rw [List.take_length, hlen', List.take_length] at heq
      exact heq

theorem sorted_nil {ss : Txts} (h : sorted ss = []) : ss = [] := List.eq_nil_of_length_eq_zero (by rw [← sorted_len, h]; rfl)

theorem Gr.none {α : Type} {t : Ty α} {I : Imm} {e : TypeId} {xs : List α} {M : Own} {n c : Nat} (h : Gr t I e (.slice none n c) xs M) : xs = [] ∧ M = [] := by
  obtain ⟨cs, ⟨hl, h⟩, hC⟩ := h
  rcases h with ⟨h1, h2, h3⟩ | ⟨b, cap, cur, h1, _⟩
  · exact ⟨List.eq_nil_of_length_eq_zero h2, h3⟩
  · cases h1

theorem v1_IgnoreOrder (I : Imm) (f f' : Txts) (u u' : Value) (M1 M2 : Own) (hf : Gr tStr I 9 u f M1) (hf' : Gr tStr I 9 u' f' M2) (h1 : f.length ≤ 2147483647) (h2 : f'.length ≤ 2147483647) :
    Spec Proofs.Try.prog 78 [u, u'] I (M1 ++ M2) fun w J M => w = .bool (decide (sorted f = sorted f')) ∧ M = [] := by
  obtain ⟨A, c, hu⟩ := hf.isSl
  obtain ⟨A', c', hu'⟩ := hf'.isSl
  subst hu
  subst hu'
  refine Spec.enter 18 [(0, _), (1, _)] Proofs.Try.func78 rfl Proofs.Try.ntmps78 (by simp) rfl ?_
  intro C hCf hR hCI
  repeat (first | refine Run.seq ?_ | refine Run.region ?_ | refine Ops.nil ?_ | refine Run.skip ?_ | refine Run.cond_t rfl ?_ | refine Run.cond_f rfl ?_ | refine Ops.not rfl (by decide) ?_ | refine Ops.notS rfl ?_ | refine Ops.notU rfl (by decide) ?_ | refine Ops.notUS rfl ?_ | refine Ops.neqNil T rfl (by decide) rfl rfl rfl rfl rfl ?_ | refine Ops.pure T rfl (by decide) rfl ?_)
  cases A with
  | none =>
    obtain ⟨rfl, rfl⟩ := hf.none
    repeat (first | refine Run.seq ?_ | refine Run.region ?_ | refine Ops.nil ?_ | refine Run.skip ?_ | refine Run.cond_t rfl ?_ | refine Run.cond_f rfl ?_ | refine Ops.not rfl (by decide) ?_ | refine Ops.notS rfl ?_ | refine Ops.notU rfl (by decide) ?_ | refine Ops.notUS rfl ?_ | refine Ops.neqNil T rfl (by decide) rfl rfl rfl rfl rfl ?_ | refine Ops.pure T rfl (by decide) rfl ?_)
    refine Ops.keepGr (M := M2) (N := []) hf' (by simp) fun J hle hS => ?_
    refine Ops.call ((v1_stringSliceEqual [] f' _ _ J ⟨none, c, rfl, Nat.zero_le _, .inl rfl⟩ hS (by simp))) rfl (by decide) Proofs.Try.call89 rfl ?_
    rintro _ J2 hle2 rfl
    repeat (first | refine Run.seq ?_ | refine Run.region ?_ | refine Ops.nil ?_ | refine Run.skip ?_ | refine Run.cond_t rfl ?_ | refine Run.cond_f rfl ?_ | refine Ops.not rfl (by decide) ?_ | refine Ops.notS rfl ?_ | refine Ops.notU rfl (by decide) ?_ | refine Ops.notUS rfl ?_ | refine Ops.neqNil T rfl (by decide) rfl rfl rfl rfl rfl ?_ | refine Ops.pure T rfl (by decide) rfl ?_)
    refine Run.fin (Run.ret1 (by rw [hCf]; exact Proofs.Try.func78) Proofs.Try.results78 rfl (hR _ _ _ ?_))
    refine ⟨?_, rfl⟩
    congr 1
    rw [decide_eq_decide]
    exact ⟨fun h => by rw [← h], fun h => (sorted_nil (by rw [← h]; simp [sorted])).symm⟩
  | some a =>
    cases A' with
    | none =>
      obtain ⟨rfl, rfl⟩ := hf'.none
      repeat (first | refine Run.seq ?_ | refine Run.region ?_ | refine Ops.nil ?_ | refine Run.skip ?_ | refine Run.cond_t rfl ?_ | refine Run.cond_f rfl ?_ | refine Ops.not rfl (by decide) ?_ | refine Ops.notS rfl ?_ | refine Ops.notU rfl (by decide) ?_ | refine Ops.notUS rfl ?_ | refine Ops.neqNil T rfl (by decide) rfl rfl rfl rfl rfl ?_ | refine Ops.pure T rfl (by decide) rfl ?_)
      refine Ops.keepGr (M := M1) (N := []) hf (by simp) fun J hle hS => ?_
      refine Ops.call ((v1_stringSliceEqual f [] _ _ J hS ⟨none, c', rfl, Nat.zero_le _, .inl rfl⟩ (by omega))) rfl (by decide) Proofs.Try.call89 rfl ?_
      rintro _ J2 hle2 rfl
      repeat (first | refine Run.seq ?_ | refine Run.region ?_ | refine Ops.nil ?_ | refine Run.skip ?_ | refine Run.cond_t rfl ?_ | refine Run.cond_f rfl ?_ | refine Ops.not rfl (by decide) ?_ | refine Ops.notS rfl ?_ | refine Ops.notU rfl (by decide) ?_ | refine Ops.notUS rfl ?_ | refine Ops.neqNil T rfl (by decide) rfl rfl rfl rfl rfl ?_ | refine Ops.pure T rfl (by decide) rfl ?_)
      refine Run.fin (Run.ret1 (by rw [hCf]; exact Proofs.Try.func78) Proofs.Try.results78 rfl (hR _ _ _ ?_))
      refine ⟨?_, rfl⟩
      congr 1
      rw [decide_eq_decide]
      exact ⟨fun h => by rw [h], fun h => sorted_nil (by rw [h]; simp [sorted])⟩
    | some a' =>
      repeat (first | refine Run.seq ?_ | refine Run.region ?_ | refine Ops.nil ?_ | refine Run.skip ?_ | refine Run.cond_t rfl ?_ | refine Run.cond_f rfl ?_ | refine Ops.not rfl (by decide) ?_ | refine Ops.notS rfl ?_ | refine Ops.notU rfl (by decide) ?_ | refine Ops.notUS rfl ?_ | refine Ops.neqNil T rfl (by decide) rfl rfl rfl rfl rfl ?_ | refine Ops.pure T rfl (by decide) rfl ?_)
      refine Ops.callM (M := M1) (N := M2) (sort_Strings I _ f M1 hf (by simp) h1) (.refl _) rfl (by decide) Proofs.Try.call88 rfl ?_
      rintro _ I1 M1' _ ⟨rfl, rfl, hs⟩
      repeat (first | refine Run.seq ?_ | refine Run.region ?_ | refine Ops.nil ?_ | refine Run.skip ?_ | refine Run.cond_t rfl ?_ | refine Run.cond_f rfl ?_ | refine Ops.not rfl (by decide) ?_ | refine Ops.notS rfl ?_ | refine Ops.notU rfl (by decide) ?_ | refine Ops.notUS rfl ?_ | refine Ops.neqNil T rfl (by decide) rfl rfl rfl rfl rfl ?_ | refine Ops.pure T rfl (by decide) rfl ?_)
      refine Ops.callM (M := M2) (N := M1') (sort_Strings _ _ f' M2 hf' (by simp) h2) List.perm_append_comm rfl (by decide) Proofs.Try.call88 rfl ?_
      rintro _ I2 M2' _ ⟨rfl, rfl, hs'⟩
      repeat (first | refine Run.seq ?_ | refine Run.region ?_ | refine Ops.nil ?_ | refine Run.skip ?_ | refine Run.cond_t rfl ?_ | refine Run.cond_f rfl ?_ | refine Ops.not rfl (by decide) ?_ | refine Ops.notS rfl ?_ | refine Ops.notU rfl (by decide) ?_ | refine Ops.notUS rfl ?_ | refine Ops.neqNil T rfl (by decide) rfl rfl rfl rfl rfl ?_ | refine Ops.pure T rfl (by decide) rfl ?_)
      refine Ops.keepGr (M := M2') (N := M1') hs' (.refl _) fun J hle hS' => ?_
      refine Ops.keepGr (M := M1') (N := []) (hs.mono hle) (by simp) fun J2 hle2 hS => ?_
      have hl : (Value.slice (some a) f.length c) = .slice (some a) (sorted f).length c := by rw [sorted_len]
      refine Ops.call ((v1_stringSliceEqual (sorted f) (sorted f') _ _ J2 hS (hS'.mono hle2) (by rw [sorted_len]; omega))) rfl (by decide) Proofs.Try.call89 rfl ?_
      rintro _ J3 hle3 rfl
      repeat (first | refine Run.seq ?_ | refine Run.region ?_ | refine Ops.nil ?_ | refine Run.skip ?_ | refine Run.cond_t rfl ?_ | refine Run.cond_f rfl ?_ | refine Ops.not rfl (by decide) ?_ | refine Ops.notS rfl ?_ | refine Ops.notU rfl (by decide) ?_ | refine Ops.notUS rfl ?_ | refine Ops.neqNil T rfl (by decide) rfl rfl rfl rfl rfl ?_ | refine Ops.pure T rfl (by decide) rfl ?_)
      refine Run.fin (Run.ret1 (by rw [hCf]; exact Proofs.Try.func78) Proofs.Try.results78 rfl (hR _ _ _ ?_))
      exact ⟨rfl, rfl⟩
end Go.V
