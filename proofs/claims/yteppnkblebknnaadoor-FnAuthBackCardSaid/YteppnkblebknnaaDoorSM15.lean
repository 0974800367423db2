import Derived.Test.YteppnkblebknnaaDoorSM14
import Derived.Test.YteppnkblebknnaaDoorSM4
import Derived.Test.YteppnkblebknnaaDoorSM3
import Derived.Lib.LaidU8T
/-
  What the laws of authn ask: plain names, good texts, a small name told.
-/
namespace Go.V
open Go.RowKit
set_option linter.unusedVariables false
set_option linter.unusedSimpArgs false
set_option maxRecDepth 10000
attribute [local irreducible] Run Ops QD
theorem meth_Basic : ∀ u w, (method (Proofs.Tryd.prog.types.size + Made.depth) 64 u "Authorization").run Proofs.Tryd.prog w = .ok (72, u) w := by intro u w; kernel_rfl
/-- an authenticator that says a -/
def Says (I : Imm) (x : Value) (a : Au) : Prop := ∃ t p f, x = .iface t p ∧ (∀ w, (method (Proofs.Tryd.prog.types.size + Made.depth) t p "Authorization").run Proofs.Tryd.prog w = .ok (f, p) w) ∧
  (∀ args w, (callFunc f args).run Proofs.Tryd.prog w = .ok (.enter f args) w) ∧
  Pure Proofs.Tryd.prog f [p] I fun v J => ∃ b off, v = .tuple #[.pointer (some ⟨b, off, none⟩), .nilIface] ∧ At J b off a.cs
theorem Basic_says {I : Imm} {b : Nat} {u p : List UInt8} (hb : At I b 0 [str u, str p]) : Pure Proofs.Tryd.prog 72 [.pointer (some ⟨b, 0, none⟩)] I fun v J => ∃ b off, v = .tuple #[.pointer (some ⟨b, off, none⟩), .nilIface] ∧ At J b off (Au.mk u p [] [] []).cs := by
  refine Spec.enter 14 [(0, _)] Proofs.Tryd.func72 rfl Proofs.Tryd.ntmps72 (by simp) rfl ?_
  intro C hCf hR hCI
  repeat (first | refine Run.seq ?_ | refine Run.region ?_ | refine Ops.nil ?_ | refine Ops.pure T rfl (by decide) rfl ?_)
  refine Run.regionAny (Holds I []) [false, false, false, false, false, false, false, false, false, false, false, false] (by kernel_rfl) rfl ?_
  refine RAny.takeD 0 [true, false, false, false, false, false, false, false, false, false, false, false] rfl (by kernel_rfl) (by kernel_rfl) (by kernel_rfl) rfl (by decide) (fun W h => h.holds (Le.refl _) (fun _ h => by first | exact h | (cases h; done) | (simp at h; subst h; simp))) (Yld.eval T rfl rfl) ?_
  refine RAny.takeD 1 [true, true, false, false, false, false, false, false, false, false, false, false] rfl (by kernel_rfl) (by kernel_rfl) (by kernel_rfl) rfl (by decide) (fun W h => h.holds (Le.refl _) (fun _ h => by first | exact h | (cases h; done) | (simp at h; subst h; simp))) (Yld.eval T rfl rfl) ?_
  refine RAny.takeD 2 [true, true, true, false, false, false, false, false, false, false, false, false] rfl (by kernel_rfl) (by kernel_rfl) (by kernel_rfl) rfl (by decide) (fun W h => h.holds (Le.refl _) (fun _ h => by first | exact h | (cases h; done) | (simp at h; subst h; simp))) (Yld.eval T rfl rfl) ?_
  refine RAny.takeD 3 [true, true, true, true, false, false, false, false, false, false, false, false] rfl (by kernel_rfl) (by kernel_rfl) (by kernel_rfl) rfl (by decide) (fun W h => h.holds (Le.refl _) (fun _ h => by first | exact h | (cases h; done) | (simp at h; subst h; simp))) (Yld.loadI T (hb.cellAt 0 rfl) rfl rfl rfl) ?_
  refine RAny.takeD 4 [true, true, true, true, true, false, false, false, false, false, false, false] rfl (by kernel_rfl) (by kernel_rfl) (by kernel_rfl) rfl (by decide) (fun W h => h.holds (Le.refl _) (fun _ h => by first | exact h | (cases h; done) | (simp at h; subst h; simp))) (Yld.eval T rfl rfl) ?_
  refine RAny.takeD 5 [true, true, true, true, true, true, false, false, false, false, false, false] rfl (by kernel_rfl) (by kernel_rfl) (by kernel_rfl) rfl (by decide) (fun W h => h.holds (Le.refl _) (fun _ h => by first | exact h | (cases h; done) | (simp at h; subst h; simp))) (Yld.eval T rfl rfl) ?_
  refine RAny.takeD 6 [true, true, true, true, true, true, true, false, false, false, false, false] rfl (by kernel_rfl) (by kernel_rfl) (by kernel_rfl) rfl (by decide) (fun W h => h.holds (Le.refl _) (fun _ h => by first | exact h | (cases h; done) | (simp at h; subst h; simp))) (Yld.eval T rfl rfl) ?_
  refine RAny.takeD 7 [true, true, true, true, true, true, true, true, false, false, false, false] rfl (by kernel_rfl) (by kernel_rfl) (by kernel_rfl) rfl (by decide) (fun W h => h.holds (Le.refl _) (fun _ h => by first | exact h | (cases h; done) | (simp at h; subst h; simp))) (Yld.loadI T (hb.cellAt 1 rfl) rfl rfl rfl) ?_
  refine RAny.takeD 8 [true, true, true, true, true, true, true, true, true, false, false, false] rfl (by kernel_rfl) (by kernel_rfl) (by kernel_rfl) rfl (by decide) (fun W h => h.holds (Le.refl _) (fun _ h => by first | exact h | (cases h; done) | (simp at h; subst h; simp))) (Yld.buildL bd50 rfl rfl rfl) ?_
  refine RAny.oneD 9 [true, true, true, true, true, true, true, true, true, true, false, false] rfl (by kernel_rfl) rfl rfl (by decide) (Eff.box rfl rfl fun b2 => ⟨fun W h => h.holds (Le.refl _) (fun _ h => by cases h), ?_⟩)
  refine RAny.takeD 10 [true, true, true, true, true, true, true, true, true, true, true, false] rfl (by kernel_rfl) (by kernel_rfl) (by kernel_rfl) rfl (by decide) (fun W h => h.holds (Le.refl _) (fun _ h => by cases h)) (Yld.eval T rfl rfl) ?_
  refine RAny.takeD 11 [true, true, true, true, true, true, true, true, true, true, true, true] rfl (by kernel_rfl) (by kernel_rfl) (by kernel_rfl) rfl (by decide) (fun W h => h.holds (Le.refl _) (fun _ h => by cases h)) (Yld.eval T rfl rfl) ?_
  refine RAny.done _ (by kernel_rfl) ?_
  refine Run.freeze fun J hle hJ => ?_
  skip
  refine Run.fin (Run.ret2 (by rw [hCf]; exact Proofs.Tryd.func72) Proofs.Tryd.results72 rfl rfl (hR _ _ _ ?_))
  exact ⟨rfl, b2, 0, rfl, At.block hJ⟩
theorem impl_authOf {I : Imm} {x : Value} {a : Au} (h : Says I x a) : Pure Proofs.Tryd.prog 23 [x] I fun v _ => v = .tuple #[.agg a.cs.toArray, .bool true] := by
  obtain ⟨t, p, f, rfl, hm, hc, hp⟩ := h
  refine Spec.enter 21 [(0, _)] Proofs.Tryd.func23 rfl Proofs.Tryd.ntmps23 (by simp) rfl ?_
  intro C hCf hR hCI
  repeat (first | refine Run.seq ?_ | refine Run.region ?_)
  refine Ops.alloc rfl (by decide) (T.zeroOk rfl) rfl (fun b0 => ?_)
  repeat (first | refine Run.seq ?_ | refine Run.region ?_ | refine Ops.nil ?_ | refine Ops.pure T rfl (by decide) rfl ?_)
  refine Ops.invoke hp rfl (by decide) hc rfl hm rfl ?_
  rintro _ J hle ⟨b, off, rfl, hA⟩
  repeat (first | refine Run.seq ?_ | refine Run.region ?_ | refine Ops.nil ?_ | refine Run.skip ?_ | refine Run.cond_f rfl ?_ | refine Ops.eqlNil T rfl (by decide) rfl rfl rfl rfl rfl ?_ | refine Ops.neqNil T rfl (by decide) rfl rfl rfl rfl rfl ?_ | refine Ops.pure T rfl (by decide) rfl ?_)
  refine Ops.loadIN rfl (by decide) rfl (hA) (T.aggOk rfl) (T.sizeOk rfl) rfl ?_
  repeat (first | refine Ops.nil ?_ | refine Ops.pure T rfl (by decide) rfl ?_ | refine Ops.store 0 rfl rfl rfl rfl rfl (T.sizeOk rfl) rfl (Nat.le_of_ble_eq_true rfl) rfl rfl ?_)
  refine Run.retCT T 0 (by rw [hCf]; exact Proofs.Tryd.func23) Proofs.Tryd.results23 rfl rfl rfl rfl rfl rfl rfl (hR _ _ _ ?_)
  exact ⟨rfl, rfl⟩
theorem impl_AuthBasic (I : Imm) (u p : List UInt8) : Pure Proofs.Tryd.prog 14 [str u, str p] I fun v _ => v = .tuple #[.agg (Au.mk u p [] [] []).cs.toArray, .bool true] := by
  refine Spec.enter 14 [(0, _), (1, _)] Proofs.Tryd.func14 rfl Proofs.Tryd.ntmps14 (by simp) rfl ?_
  intro C hCf hR hCI
  repeat (first | refine Run.seq ?_ | refine Run.region ?_)
  refine Ops.alloc rfl (by decide) (T.zeroOk rfl) rfl (fun b0 => ?_)
  repeat (first | refine Run.seq ?_ | refine Run.region ?_ | refine Ops.nil ?_ | refine Ops.pure T rfl (by decide) rfl ?_)
  refine Ops.buildL bd66 rfl (by decide) rfl rfl ?_
  refine Ops.box rfl (by decide) rfl rfl (fun b1 => ?_)
  repeat (first | refine Ops.pure T rfl (by decide) rfl ?_)
  refine Ops.freezeAt 0 rfl rfl fun J hle hJ => ?_
  refine Ops.call ((impl_authOf ⟨_, _, _, rfl, meth_Basic _, Proofs.Tryd.call72, Basic_says (At.block hJ)⟩)) rfl (by decide) Proofs.Tryd.call23 rfl ?_
  rintro _ J2 hle2 rfl
  repeat (first | refine Ops.nil ?_ | refine Ops.pure T rfl (by decide) rfl ?_ | refine Ops.store 0 rfl rfl rfl rfl rfl (T.sizeOk rfl) rfl (Nat.le_of_ble_eq_true rfl) rfl rfl ?_)
  refine Run.retCT T 0 (by rw [hCf]; exact Proofs.Tryd.func14) Proofs.Tryd.results14 rfl rfl rfl rfl rfl rfl rfl (hR _ _ _ ?_)
  exact ⟨rfl, rfl⟩
theorem laws_authAwake (I : Imm) : Pure Proofs.Tryd.prog 7 [] I fun v _ => v = .bool true := by
  refine Spec.enter 18 [] Proofs.Tryd.func7 rfl Proofs.Tryd.ntmps7 (by simp) rfl ?_
  intro C hCf hR hCI
  repeat (first | refine Run.seq ?_ | refine Run.region ?_ | refine Ops.nil ?_ | refine Ops.pure T rfl (by decide) rfl ?_)
  refine Ops.call ((impl_AuthBasic I _ _)) rfl (by decide) Proofs.Tryd.call14 rfl ?_
  rintro _ J hle rfl
  repeat (first | refine Ops.pure T rfl (by decide) rfl ?_)
  refine Ops.alloc rfl (by decide) (T.zeroOk rfl) rfl (fun b0 => ?_)
  repeat (first | refine Run.seq ?_ | refine Run.region ?_ | refine Ops.nil ?_ | refine Ops.eqlStr rfl (by decide) rfl rfl ?_ | refine Ops.pure T rfl (by decide) rfl ?_ | refine Ops.load 0 rfl (by decide) rfl rfl (T.aggOk rfl) rfl ?_ | refine Ops.store 0 rfl rfl rfl rfl rfl (T.sizeOk rfl) rfl (Nat.le_of_ble_eq_true rfl) rfl rfl ?_)
  refine Run.fin (Run.ret1 (by rw [hCf]; exact Proofs.Tryd.func7) Proofs.Tryd.results7 rfl (hR _ _ _ ?_))
  exact ⟨rfl, rfl⟩
theorem laws_zzFits1 (I : Imm) (a : Au) : Pure Proofs.Tryd.prog 11 [.agg a.cs.toArray] I fun v _ => ∃ r, v = .bool r ∧ (r = true → a.user.length ≤ 2147483647 ∧ a.pass.length ≤ 2147483647 ∧ a.auth.length ≤ 2147483647 ∧ a.ident.length ≤ 2147483647 ∧ a.reg.length ≤ 2147483647) := by
  refine Spec.enter 23 [(0, _)] Proofs.Tryd.func11 rfl Proofs.Tryd.ntmps11 (by simp) rfl ?_
  intro C hCf hR hCI
  repeat (first | refine Run.seq ?_ | refine Run.region ?_)
  refine Ops.box rfl (by decide) rfl rfl (fun b => ?_)
  repeat (first | refine Run.seq ?_ | refine Run.region ?_ | refine Ops.nil ?_ | refine Ops.gtr rfl (by decide) rfl rfl ?_ | refine Ops.pure T rfl (by decide) rfl ?_ | refine Ops.lenS T rfl (by decide) rfl rfl ?_ | refine Ops.load 0 rfl (by decide) rfl rfl (T.aggOk rfl) rfl ?_)
  refine Run.cond rfl rfl (fun h1 => ?_) (fun h1 => ?_)
  all_goals (try rw [h1])
  all_goals (try simp only [decide_eq_true_eq, decide_eq_false_iff_not, Bool.not_eq_true', Bool.not_eq_false', Bool.and_eq_true, Bool.or_eq_true, Bool.and_eq_false_imp, Bool.or_eq_false_iff] at h1)
  · skip
    repeat (first | refine Run.seq ?_ | refine Run.region ?_ | refine Ops.nil ?_ | refine Ops.pure T rfl (by decide) rfl ?_)
    refine Run.fin (Run.ret1 (by rw [hCf]; exact Proofs.Tryd.func11) Proofs.Tryd.results11 rfl (hR _ _ _ ?_))
    exact ⟨rfl, _, rfl, fun h => by cases h⟩
  repeat (first | refine Run.seq ?_ | refine Run.region ?_ | refine Ops.nil ?_ | refine Run.skip ?_ | refine Ops.gtr rfl (by decide) rfl rfl ?_ | refine Ops.pure T rfl (by decide) rfl ?_ | refine Ops.lenS T rfl (by decide) rfl rfl ?_ | refine Ops.load 0 rfl (by decide) rfl rfl (T.aggOk rfl) rfl ?_)
  refine Run.cond rfl rfl (fun h2 => ?_) (fun h2 => ?_)
  all_goals (try rw [h2])
  all_goals (try simp only [decide_eq_true_eq, decide_eq_false_iff_not, Bool.not_eq_true', Bool.not_eq_false', Bool.and_eq_true, Bool.or_eq_true, Bool.and_eq_false_imp, Bool.or_eq_false_iff] at h2)
  · skip
    repeat (first | refine Run.seq ?_ | refine Run.region ?_ | refine Ops.nil ?_ | refine Ops.pure T rfl (by decide) rfl ?_)
    refine Run.fin (Run.ret1 (by rw [hCf]; exact Proofs.Tryd.func11) Proofs.Tryd.results11 rfl (hR _ _ _ ?_))
    exact ⟨rfl, _, rfl, fun h => by cases h⟩
  repeat (first | refine Run.seq ?_ | refine Run.region ?_ | refine Ops.nil ?_ | refine Run.skip ?_ | refine Ops.gtr rfl (by decide) rfl rfl ?_ | refine Ops.pure T rfl (by decide) rfl ?_ | refine Ops.lenS T rfl (by decide) rfl rfl ?_ | refine Ops.load 0 rfl (by decide) rfl rfl (T.aggOk rfl) rfl ?_)
  refine Run.cond rfl rfl (fun h3 => ?_) (fun h3 => ?_)
  all_goals (try rw [h3])
  all_goals (try simp only [decide_eq_true_eq, decide_eq_false_iff_not, Bool.not_eq_true', Bool.not_eq_false', Bool.and_eq_true, Bool.or_eq_true, Bool.and_eq_false_imp, Bool.or_eq_false_iff] at h3)
  · skip
    repeat (first | refine Run.seq ?_ | refine Run.region ?_ | refine Ops.nil ?_ | refine Ops.pure T rfl (by decide) rfl ?_)
    refine Run.fin (Run.ret1 (by rw [hCf]; exact Proofs.Tryd.func11) Proofs.Tryd.results11 rfl (hR _ _ _ ?_))
    exact ⟨rfl, _, rfl, fun h => by cases h⟩
  repeat (first | refine Run.seq ?_ | refine Run.region ?_ | refine Ops.nil ?_ | refine Run.skip ?_ | refine Ops.gtr rfl (by decide) rfl rfl ?_ | refine Ops.pure T rfl (by decide) rfl ?_ | refine Ops.lenS T rfl (by decide) rfl rfl ?_ | refine Ops.load 0 rfl (by decide) rfl rfl (T.aggOk rfl) rfl ?_)
  refine Run.cond rfl rfl (fun h4 => ?_) (fun h4 => ?_)
  all_goals (try rw [h4])
  all_goals (try simp only [decide_eq_true_eq, decide_eq_false_iff_not, Bool.not_eq_true', Bool.not_eq_false', Bool.and_eq_true, Bool.or_eq_true, Bool.and_eq_false_imp, Bool.or_eq_false_iff] at h4)
  · skip
    repeat (first | refine Run.seq ?_ | refine Run.region ?_ | refine Ops.nil ?_ | refine Ops.pure T rfl (by decide) rfl ?_)
    refine Run.fin (Run.ret1 (by rw [hCf]; exact Proofs.Tryd.func11) Proofs.Tryd.results11 rfl (hR _ _ _ ?_))
    exact ⟨rfl, _, rfl, fun h => by cases h⟩
  repeat (first | refine Run.seq ?_ | refine Run.region ?_ | refine Ops.nil ?_ | refine Run.skip ?_ | refine Ops.gtr rfl (by decide) rfl rfl ?_ | refine Ops.pure T rfl (by decide) rfl ?_ | refine Ops.lenS T rfl (by decide) rfl rfl ?_ | refine Ops.load 0 rfl (by decide) rfl rfl (T.aggOk rfl) rfl ?_)
  refine Run.cond rfl rfl (fun h5 => ?_) (fun h5 => ?_)
  all_goals (try rw [h5])
  all_goals (try simp only [decide_eq_true_eq, decide_eq_false_iff_not, Bool.not_eq_true', Bool.not_eq_false', Bool.and_eq_true, Bool.or_eq_true, Bool.and_eq_false_imp, Bool.or_eq_false_iff] at h5)
  · skip
    repeat (first | refine Run.seq ?_ | refine Run.region ?_ | refine Ops.nil ?_ | refine Ops.pure T rfl (by decide) rfl ?_)
    refine Run.fin (Run.ret1 (by rw [hCf]; exact Proofs.Tryd.func11) Proofs.Tryd.results11 rfl (hR _ _ _ ?_))
    exact ⟨rfl, _, rfl, fun h => by cases h⟩
  · skip
    repeat (first | refine Run.seq ?_ | refine Run.region ?_ | refine Ops.nil ?_ | refine Run.skip ?_ | refine Ops.pure T rfl (by decide) rfl ?_)
    refine Run.fin (Run.ret1 (by rw [hCf]; exact Proofs.Tryd.func11) Proofs.Tryd.results11 rfl (hR _ _ _ ?_))
    exact ⟨rfl, _, rfl, fun _ => by omega⟩
def plainA (s : Bs) : Prop := s.length ≤ 60 ∧ ∀ c ∈ s, 32 ≤ c.toNat ∧ c.toNat < 127
set_option maxHeartbeats 1000000 in
theorem laws_authPlain (I : Imm) (u p : Bs) (hu : u.length ≤ 2147483647) (hp : p.length ≤ 2147483647) : Pure Proofs.Tryd.prog 5 [str u, str p] I fun v _ => ∃ r, v = .bool r ∧ (r = true → plainA u ∧ plainA p ∧ (58 : UInt8) ∉ u) := by
  refine Spec.enter 47 [(0, _), (1, _)] Proofs.Tryd.func5 rfl Proofs.Tryd.ntmps5 (by simp) rfl ?_
  intro C hCf hR hCI
  repeat (first | refine Run.seq ?_)
  refine Run.regionO (D := [some 4]) [true] rfl rfl rfl (fun Z hZ => ?_)
  refine QD.ev T (by decide) rfl rfl ?_
  refine QD.nil (hZ _ ?_)
  clear hZ Z
  repeat (first | refine Run.seq ?_)
  refine Run.regionP (D := [some 9, some 10, some 11, some 12, some 13]) [true, true] 2 rfl rfl rfl (by simp only [List.drop_succ_cons, List.drop_zero]; rfl) (fun Z hZ => ?_)
  refine QD.ev T (by decide) rfl rfl ?_
  refine QD.ev T (by decide) rfl rfl ?_
  refine QD.nil (hZ _ ?_)
  clear hZ Z
  refine Ops.lit T rfl rfl rfl (by decide) rfl (by decide) (by decide) rfl rfl rfl rfl rfl (fun bq => ?_)
  refine Ops.freezeAt 0 rfl rfl fun J1 l1 hJ1 => ?_
  have hS : Sl tStr J1 (.slice (some ⟨bq, 0, none⟩) 2 2) [u, p] := Sl.ofBlock hJ1 (Cells.strs [u, p]) rfl (Nat.le_refl _)
  refine Ops.pure T rfl (by decide) rfl ?_
  refine Ops.pure T rfl (by decide) rfl ?_
  refine Ops.nil ?_
  repeat (first | refine Run.block ?_)
  refine Run.keep [0, 11, 12, 13] [_, _, _, _] rfl ?_
  have hget : ∀ s ∈ [u, p], s.length ≤ 2147483647 := by
    intro s hs
    simp only [List.mem_cons, List.not_mem_nil, or_false] at hs
    rcases hs with rfl | rfl <;> assumption
  refine Run.rounds (fun m env L J => ∃ i : Nat, m = 2 - i ∧ i ≤ 2 ∧ (∀ s ∈ [u, p].take i, plainA s) ∧ env = [(0, str u), (11, .slice (some ⟨bq, 0, none⟩) 2 2), (12, .int .i64 2), (13, .int .i64 i)] ∧ L = [] ∧ J1 = J) 2 ⟨0, rfl, by omega, by simp, rfl, rfl, rfl⟩ ?_
  rintro m env L J ⟨i, rfl, hi, hdone, rfl, rfl, rfl⟩ ih
  repeat (first | refine Run.seq ?_)
  by_cases hlt : i < 2
  · skip
    refine Run.regionO (D := [some 14]) [true] rfl rfl rfl (fun Z hZ => ?_)
    refine QD.e ((Ev.lss rfl rfl).as (show _ = Value.bool true from congrArg Value.bool (decide_eq_true (by omega)))) (by decide) rfl ?_
    refine QD.nil (hZ _ ?_)
    clear hZ Z
    repeat (first | refine Run.seq ?_ | refine Run.skip ?_ | refine Run.block ?_ | refine Run.cond_t rfl ?_)
    refine Run.region ?_
    refine Ops.indexSl (j := (i : Int)) hS rfl (by decide) rfl rfl (T.undOk rfl) (T.sizeOk rfl) (by omega) (by simp; omega) fun bb off q cs hq hr hA => ?_
    obtain rfl : cs = [str q] := hr
    rw [Int.toNat_natCast] at hq
    have hql := hget q (List.mem_of_getElem? hq)
    refine Ops.loadI rfl (by decide) rfl hA (T.aggOk rfl) ?_
    refine Ops.pure T rfl (by decide) rfl ?_
    refine Ops.nil ?_
    repeat (first | refine Run.seq ?_)
    by_cases h60 : q.length ≤ 60
    · skip
      refine Run.regionO (D := [some 17, some 18, some 19]) [true, true, true] rfl rfl rfl (fun Z hZ => ?_)
      refine QD.ev T (by decide) rfl rfl ?_
      refine QD.e (Ev.lenS T rfl rfl) (by decide) rfl ?_
      refine QD.e ((Ev.gtr rfl rfl).as (show _ = Value.bool false from congrArg Value.bool (decide_eq_false (by omega)))) (by decide) rfl ?_
      refine QD.nil (hZ _ ?_)
      clear hZ Z
      repeat (first | refine Run.seq ?_ | refine Run.skip ?_ | refine Run.cond_f rfl ?_)
      refine Run.regionO (D := [some 20, some 21, some 22]) [true, true, true] rfl rfl rfl (fun Z hZ => ?_)
      refine QD.ev T (by decide) rfl rfl ?_
      refine QD.e (Ev.lenS T rfl rfl) (by decide) rfl ?_
      refine QD.ev T (by decide) rfl rfl ?_
      refine QD.nil (hZ _ ?_)
      clear hZ Z
      repeat (first | refine Run.block ?_)
      refine Run.keep [0, 6, 11, 12, 13, 21, 22] [_, _, _, _, _, _, _] rfl ?_
      refine Run.rounds (fun m env L J => ∃ k : Nat, m = q.length - k ∧ k ≤ q.length ∧ (∀ c ∈ q.take k, 32 ≤ c.toNat ∧ c.toNat < 127) ∧ env = [(0, str u), (6, str q), (11, .slice (some ⟨bq, 0, none⟩) 2 2), (12, .int .i64 2), (13, .int .i64 i), (21, .int .i64 q.length), (22, .int .i64 k)] ∧ L = [] ∧ J1 = J) q.length ⟨0, by omega, by omega, by simp, rfl, rfl, rfl⟩ ?_
      rintro m env L J ⟨k, rfl, hk, hkd, rfl, rfl, rfl⟩ ih2
      repeat (first | refine Run.seq ?_)
      by_cases hkl : k < q.length
      · obtain ⟨ch, hch⟩ : ∃ ch : Nat, ch = (q.getD k 0).toNat := ⟨_, rfl⟩
        have hg : q.getD k 0 = q[k] := getD_u8 hkl
        refine Run.regionO (D := [some 23]) [true] rfl rfl rfl (fun Z hZ => ?_)
        refine QD.e ((Ev.lss rfl rfl).as (show _ = Value.bool true from congrArg Value.bool (decide_eq_true (by omega)))) (by decide) rfl ?_
        refine QD.nil (hZ _ ?_)
        clear hZ Z
        repeat (first | refine Run.seq ?_ | refine Run.skip ?_ | refine Run.block ?_ | refine Run.cond_t rfl ?_)
        refine Run.regionO (D := [some 24, some 7]) [true, true] rfl rfl rfl (fun Z hZ => ?_)
        refine QD.ev T (by decide) rfl rfl ?_
        refine QD.ev T (by decide) rfl rfl ?_
        refine QD.nil (hZ _ ?_)
        clear hZ Z
        repeat (first | refine Run.seq ?_)
        by_cases h32 : ch < 32
        · skip
          refine Run.regionO (D := [some 25, some 26, some 27, some 28, some 29, some 30, some 31, some 32, some 33, some 34]) [true, true, true, true, true, true, true, true, true, true] rfl rfl rfl (fun Z hZ => ?_)
          refine QD.ev T (by decide) rfl rfl ?_
          refine QD.ev T (by decide) rfl rfl ?_
          refine QD.e ((Ev.indexT (s := q) T rfl rfl rfl (by omega) (by omega)).as (show _ = Value.int .u8 ((ch : Nat) : Int) from by show Value.int .u8 (((q.getD _ 0).toNat : Nat) : Int) = _; rw [Int.toNat_natCast, ← hch])) (by decide) rfl ?_
          refine QD.e ((Ev.lss rfl rfl).as (show _ = Value.bool true from congrArg Value.bool (decide_eq_true (by omega)))) (by decide) rfl ?_
          refine QD.ev T (by decide) rfl rfl ?_
          first | refine QD.ev T (by decide) rfl rfl ?_ | refine QD.off (by decide) rfl ?_
          first | refine QD.ev T (by decide) rfl rfl ?_ | refine QD.off (by decide) rfl ?_
          first | refine QD.e (Ev.indexT T rfl rfl rfl (by first | omega | (simp only [List.length_cons, List.length_nil] ; omega) | (simp; omega)) (by first | omega | (simp only [List.length_cons, List.length_nil] ; omega) | (simp; omega))) (by decide) rfl ?_ | refine QD.off (by decide) rfl ?_
          first | refine QD.e (Ev.geq rfl rfl) (by decide) rfl ?_ | refine QD.off (by decide) rfl ?_
          refine QD.ev T (by decide) rfl rfl ?_
          refine QD.nil (hZ _ ?_)
          clear hZ Z
          repeat (first | refine Run.seq ?_ | refine Run.cond_t rfl ?_)
          refine Run.regionO (D := [some 4]) [true] rfl rfl rfl (fun Z hZ => ?_)
          refine QD.ev T (by decide) rfl rfl ?_
          refine QD.nil (hZ _ ?_)
          clear hZ Z
          skip
          refine Run.fin (Run.ret1 (by rw [hCf]; exact Proofs.Tryd.func5) Proofs.Tryd.results5 rfl (hR _ _ _ ?_))
          exact ⟨rfl, _, rfl, fun h => by cases h⟩
        by_cases h127 : 127 ≤ ch
        · skip
          refine Run.regionO (D := [some 25, some 26, some 27, some 28, some 29, some 30, some 31, some 32, some 33, some 34]) [true, true, true, true, true, true, true, true, true, true] rfl rfl rfl (fun Z hZ => ?_)
          refine QD.ev T (by decide) rfl rfl ?_
          refine QD.ev T (by decide) rfl rfl ?_
          refine QD.e ((Ev.indexT (s := q) T rfl rfl rfl (by omega) (by omega)).as (show _ = Value.int .u8 ((ch : Nat) : Int) from by show Value.int .u8 (((q.getD _ 0).toNat : Nat) : Int) = _; rw [Int.toNat_natCast, ← hch])) (by decide) rfl ?_
          refine QD.e ((Ev.lss rfl rfl).as (show _ = Value.bool false from congrArg Value.bool (decide_eq_false (by omega)))) (by decide) rfl ?_
          refine QD.ev T (by decide) rfl rfl ?_
          first | refine QD.ev T (by decide) rfl rfl ?_ | refine QD.off (by decide) rfl ?_
          first | refine QD.ev T (by decide) rfl rfl ?_ | refine QD.off (by decide) rfl ?_
          refine QD.e ((Ev.indexT (s := q) T rfl rfl rfl (by omega) (by omega)).as (show _ = Value.int .u8 ((ch : Nat) : Int) from by show Value.int .u8 (((q.getD _ 0).toNat : Nat) : Int) = _; rw [Int.toNat_natCast, ← hch])) (by decide) rfl ?_
          refine QD.e ((Ev.geq rfl rfl).as (show _ = Value.bool true from congrArg Value.bool (decide_eq_true (by omega)))) (by decide) rfl ?_
          refine QD.ev T (by decide) rfl rfl ?_
          refine QD.nil (hZ _ ?_)
          clear hZ Z
          repeat (first | refine Run.seq ?_ | refine Run.cond_t rfl ?_)
          refine Run.regionO (D := [some 4]) [true] rfl rfl rfl (fun Z hZ => ?_)
          refine QD.ev T (by decide) rfl rfl ?_
          refine QD.nil (hZ _ ?_)
          clear hZ Z
          skip
          refine Run.fin (Run.ret1 (by rw [hCf]; exact Proofs.Tryd.func5) Proofs.Tryd.results5 rfl (hR _ _ _ ?_))
          exact ⟨rfl, _, rfl, fun h => by cases h⟩
        · skip
          refine Run.regionO (D := [some 25, some 26, some 27, some 28, some 29, some 30, some 31, some 32, some 33, some 34]) [true, true, true, true, true, true, true, true, true, true] rfl rfl rfl (fun Z hZ => ?_)
          refine QD.ev T (by decide) rfl rfl ?_
          refine QD.ev T (by decide) rfl rfl ?_
          refine QD.e ((Ev.indexT (s := q) T rfl rfl rfl (by omega) (by omega)).as (show _ = Value.int .u8 ((ch : Nat) : Int) from by show Value.int .u8 (((q.getD _ 0).toNat : Nat) : Int) = _; rw [Int.toNat_natCast, ← hch])) (by decide) rfl ?_
          refine QD.e ((Ev.lss rfl rfl).as (show _ = Value.bool false from congrArg Value.bool (decide_eq_false (by omega)))) (by decide) rfl ?_
          refine QD.ev T (by decide) rfl rfl ?_
          first | refine QD.ev T (by decide) rfl rfl ?_ | refine QD.off (by decide) rfl ?_
          first | refine QD.ev T (by decide) rfl rfl ?_ | refine QD.off (by decide) rfl ?_
          refine QD.e ((Ev.indexT (s := q) T rfl rfl rfl (by omega) (by omega)).as (show _ = Value.int .u8 ((ch : Nat) : Int) from by show Value.int .u8 (((q.getD _ 0).toNat : Nat) : Int) = _; rw [Int.toNat_natCast, ← hch])) (by decide) rfl ?_
          refine QD.e ((Ev.geq rfl rfl).as (show _ = Value.bool false from congrArg Value.bool (decide_eq_false (by omega)))) (by decide) rfl ?_
          refine QD.ev T (by decide) rfl rfl ?_
          refine QD.nil (hZ _ ?_)
          clear hZ Z
          repeat (first | refine Run.skip ?_ | refine Run.inBlock ?_ | refine Run.cond_f rfl ?_)
          refine Run.regionO (D := [some 35, some 22]) [true, true] rfl rfl rfl (fun Z hZ => ?_)
          refine QD.e (Ev.addK (r := ((k + 1 : Nat) : Int)) rfl rfl (by rw [wI (by omega) (by omega)]; omega)) (by decide) rfl ?_
          refine QD.ev T (by decide) rfl rfl ?_
          refine QD.nil (hZ _ ?_)
          clear hZ Z
          skip
          refine Run.keep [0, 6, 11, 12, 13, 21, 22] [_, _, _, _, _, _, _] rfl ?_
          refine ih2 (q.length - (k + 1)) _ _ _ (by omega) ⟨k + 1, rfl, by omega, ?_, rfl, rfl, rfl⟩
          intro c hc
          rw [List.take_succ_eq_append_getElem hkl] at hc
          rcases List.mem_append.1 hc with hc | hc
          · exact hkd c hc
          · obtain rfl := List.mem_singleton.1 hc
            rw [← hg, ← hch]; omega
      · skip
        refine Run.regionO (D := [some 23]) [true] rfl rfl rfl (fun Z hZ => ?_)
        refine QD.e ((Ev.lss rfl rfl).as (show _ = Value.bool false from congrArg Value.bool (decide_eq_false (by omega)))) (by decide) rfl ?_
        refine QD.nil (hZ _ ?_)
        clear hZ Z
        repeat (first | refine Run.seq ?_ | refine Run.inBlock ?_ | refine Run.exit rfl ?_ | refine Run.cond_f rfl ?_)
        refine Run.regionO (D := [some 36, some 13]) [true, true] rfl rfl rfl (fun Z hZ => ?_)
        refine QD.e (Ev.addK (r := ((i + 1 : Nat) : Int)) rfl rfl (by rw [wI (by omega) (by omega)]; omega)) (by decide) rfl ?_
        refine QD.ev T (by decide) rfl rfl ?_
        refine QD.nil (hZ _ ?_)
        clear hZ Z
        skip
        refine Run.keep [0, 11, 12, 13] [_, _, _, _] rfl ?_
        refine ih (2 - (i + 1)) _ _ _ (by omega) ⟨i + 1, rfl, by omega, ?_, rfl, rfl, rfl⟩
        intro s hs
        have hil : i < [u, p].length := by simpa using hlt
        rw [List.take_succ_eq_append_getElem hil] at hs
        rcases List.mem_append.1 hs with hs | hs
        · exact hdone s hs
        · obtain rfl := List.mem_singleton.1 hs
          rw [List.getElem?_eq_getElem hil] at hq
          obtain rfl : [u, p][i] = q := Option.some.inj hq
          exact ⟨h60, fun c hc => hkd c (by rw [List.take_of_length_le (by omega)]; exact hc)⟩
    · skip
      refine Run.regionO (D := [some 17, some 18, some 19]) [true, true, true] rfl rfl rfl (fun Z hZ => ?_)
      refine QD.ev T (by decide) rfl rfl ?_
      refine QD.e (Ev.lenS T rfl rfl) (by decide) rfl ?_
      refine QD.e ((Ev.gtr rfl rfl).as (show _ = Value.bool true from congrArg Value.bool (decide_eq_true (by omega)))) (by decide) rfl ?_
      refine QD.nil (hZ _ ?_)
      clear hZ Z
      repeat (first | refine Run.seq ?_ | refine Run.cond_t rfl ?_)
      refine Run.regionO (D := [some 4]) [true] rfl rfl rfl (fun Z hZ => ?_)
      refine QD.ev T (by decide) rfl rfl ?_
      refine QD.nil (hZ _ ?_)
      clear hZ Z
      skip
      refine Run.fin (Run.ret1 (by rw [hCf]; exact Proofs.Tryd.func5) Proofs.Tryd.results5 rfl (hR _ _ _ ?_))
      exact ⟨rfl, _, rfl, fun h => by cases h⟩
  · obtain rfl : i = 2 := by omega
    have hpl : plainA u ∧ plainA p := ⟨hdone u (by simp), hdone p (by simp)⟩
    refine Run.regionO (D := [some 14]) [true] rfl rfl rfl (fun Z hZ => ?_)
    refine QD.e ((Ev.lss rfl rfl).as (show _ = Value.bool false from rfl)) (by decide) rfl ?_
    refine QD.nil (hZ _ ?_)
    clear hZ Z
    repeat (first | refine Run.seq ?_ | refine Run.exit rfl ?_ | refine Run.cond_f rfl ?_)
    refine Run.regionO (D := [some 37, some 38, some 39]) [true, true, true] rfl rfl rfl (fun Z hZ => ?_)
    refine QD.ev T (by decide) rfl rfl ?_
    refine QD.e (Ev.lenS T rfl rfl) (by decide) rfl ?_
    refine QD.ev T (by decide) rfl rfl ?_
    refine QD.nil (hZ _ ?_)
    clear hZ Z
    repeat (first | refine Run.block ?_)
    refine Run.keep [0, 38, 39] [_, _, _] rfl ?_
    refine Run.rounds (fun m env L J => ∃ k : Nat, m = u.length - k ∧ k ≤ u.length ∧ (58 : UInt8) ∉ u.take k ∧ env = [(0, str u), (38, .int .i64 u.length), (39, .int .i64 k)] ∧ L = [] ∧ J1 = J) u.length ⟨0, by omega, by omega, by simp, rfl, rfl, rfl⟩ ?_
    rintro m env L J ⟨k, rfl, hk, hkd, rfl, rfl, rfl⟩ ih2
    repeat (first | refine Run.seq ?_)
    by_cases hkl : k < u.length
    · obtain ⟨ch, hch⟩ : ∃ ch : Nat, ch = (u.getD k 0).toNat := ⟨_, rfl⟩
      have hg : u.getD k 0 = u[k] := getD_u8 hkl
      refine Run.regionO (D := [some 40]) [true] rfl rfl rfl (fun Z hZ => ?_)
      refine QD.e ((Ev.lss rfl rfl).as (show _ = Value.bool true from congrArg Value.bool (decide_eq_true (by omega)))) (by decide) rfl ?_
      refine QD.nil (hZ _ ?_)
      clear hZ Z
      repeat (first | refine Run.seq ?_ | refine Run.skip ?_ | refine Run.block ?_ | refine Run.cond_t rfl ?_)
      refine Run.regionO (D := [some 41, some 8]) [true, true] rfl rfl rfl (fun Z hZ => ?_)
      refine QD.ev T (by decide) rfl rfl ?_
      refine QD.ev T (by decide) rfl rfl ?_
      refine QD.nil (hZ _ ?_)
      clear hZ Z
      repeat (first | refine Run.seq ?_)
      by_cases h58 : ch = 58
      · skip
        refine Run.regionO (D := [some 42, some 43, some 44, some 45]) [true, true, true, true] rfl rfl rfl (fun Z hZ => ?_)
        refine QD.ev T (by decide) rfl rfl ?_
        refine QD.ev T (by decide) rfl rfl ?_
        refine QD.e ((Ev.indexT (s := u) T rfl rfl rfl (by omega) (by omega)).as (show _ = Value.int .u8 ((ch : Nat) : Int) from by show Value.int .u8 (((u.getD _ 0).toNat : Nat) : Int) = _; rw [Int.toNat_natCast, ← hch])) (by decide) rfl ?_
        refine QD.e ((Ev.eqlI rfl rfl).as (show _ = Value.bool true from congrArg Value.bool (decide_eq_true (by omega)))) (by decide) rfl ?_
        refine QD.nil (hZ _ ?_)
        clear hZ Z
        repeat (first | refine Run.seq ?_ | refine Run.cond_t rfl ?_)
        refine Run.regionO (D := [some 4]) [true] rfl rfl rfl (fun Z hZ => ?_)
        refine QD.ev T (by decide) rfl rfl ?_
        refine QD.nil (hZ _ ?_)
        clear hZ Z
        skip
        refine Run.fin (Run.ret1 (by rw [hCf]; exact Proofs.Tryd.func5) Proofs.Tryd.results5 rfl (hR _ _ _ ?_))
        exact ⟨rfl, _, rfl, fun h => by cases h⟩
      · skip
        refine Run.regionO (D := [some 42, some 43, some 44, some 45]) [true, true, true, true] rfl rfl rfl (fun Z hZ => ?_)
        refine QD.ev T (by decide) rfl rfl ?_
        refine QD.ev T (by decide) rfl rfl ?_
        refine QD.e ((Ev.indexT (s := u) T rfl rfl rfl (by omega) (by omega)).as (show _ = Value.int .u8 ((ch : Nat) : Int) from by show Value.int .u8 (((u.getD _ 0).toNat : Nat) : Int) = _; rw [Int.toNat_natCast, ← hch])) (by decide) rfl ?_
        refine QD.e ((Ev.eqlI rfl rfl).as (show _ = Value.bool false from congrArg Value.bool (decide_eq_false (by omega)))) (by decide) rfl ?_
        refine QD.nil (hZ _ ?_)
        clear hZ Z
        repeat (first | refine Run.skip ?_ | refine Run.inBlock ?_ | refine Run.cond_f rfl ?_)
        refine Run.regionO (D := [some 46, some 39]) [true, true] rfl rfl rfl (fun Z hZ => ?_)
        refine QD.e (Ev.addK (r := ((k + 1 : Nat) : Int)) rfl rfl (by rw [wI (by omega) (by omega)]; omega)) (by decide) rfl ?_
        refine QD.ev T (by decide) rfl rfl ?_
        refine QD.nil (hZ _ ?_)
        clear hZ Z
        skip
        refine Run.keep [0, 38, 39] [_, _, _] rfl ?_
        refine ih2 (u.length - (k + 1)) _ _ _ (by omega) ⟨k + 1, rfl, by omega, ?_, rfl, rfl, rfl⟩
        intro hc
        rw [List.take_succ_eq_append_getElem hkl] at hc
        rcases List.mem_append.1 hc with hc | hc
        · exact hkd hc
        · have := List.mem_singleton.1 hc
          rw [← hg] at this
          exact h58 (by rw [hch, ← this]; rfl)
    · skip
      refine Run.regionO (D := [some 40]) [true] rfl rfl rfl (fun Z hZ => ?_)
      refine QD.e ((Ev.lss rfl rfl).as (show _ = Value.bool false from congrArg Value.bool (decide_eq_false (by omega)))) (by decide) rfl ?_
      refine QD.nil (hZ _ ?_)
      clear hZ Z
      repeat (first | refine Run.seq ?_ | refine Run.exit rfl ?_ | refine Run.cond_f rfl ?_)
      refine Run.regionO (D := [some 4]) [true] rfl rfl rfl (fun Z hZ => ?_)
      refine QD.ev T (by decide) rfl rfl ?_
      refine QD.nil (hZ _ ?_)
      clear hZ Z
      skip
      refine Run.fin (Run.ret1 (by rw [hCf]; exact Proofs.Tryd.func5) Proofs.Tryd.results5 rfl (hR _ _ _ ?_))
      exact ⟨rfl, _, rfl, fun _ => ⟨hpl.1, hpl.2, by rw [List.take_of_length_le (by omega)] at hkd; exact hkd⟩⟩
/-- texts of UTF-8 -/
def goodS (s : Bs) : Prop := Lib.validD s = true ∧ s.length ≤ 4000
set_option maxHeartbeats 1000000 in
theorem laws_textsGood (I : Imm) (hU : UT I) (v : Value) (xs : List Bs) (hS : Sl tStr I v xs) (hx : ∀ s ∈ xs, s.length ≤ 2147483647) (hl : xs.length ≤ 2147483647) : Pure Proofs.Tryd.prog 6 [v] I fun w _ => ∃ r, w = .bool r ∧ (r = true → xs.length ≤ 60 ∧ ∀ s ∈ xs, goodS s) := by
  obtain ⟨A0, c0, rfl⟩ := hS.isSl
  refine Spec.enter 27 [(0, _)] Proofs.Tryd.func6 rfl Proofs.Tryd.ntmps6 (by simp) rfl ?_
  intro C hCf hR hCI
  repeat (first | refine Run.seq ?_)
  refine Run.regionO (D := [some 2]) [true] rfl rfl rfl (fun Z hZ => ?_)
  refine QD.ev T (by decide) rfl rfl ?_
  refine QD.nil (hZ _ ?_)
  clear hZ Z
  repeat (first | refine Run.seq ?_)
  refine Run.regionO (D := [some 3]) [true] rfl rfl rfl (fun Z hZ => ?_)
  refine QD.ev T (by decide) rfl rfl ?_
  refine QD.nil (hZ _ ?_)
  clear hZ Z
  repeat (first | refine Run.seq ?_)
  refine Run.regionO (D := [some 6, some 7, some 8]) [true, true, true] rfl rfl rfl (fun Z hZ => ?_)
  refine QD.ev T (by decide) rfl rfl ?_
  refine QD.ev T (by decide) rfl rfl ?_
  refine QD.ev T (by decide) rfl rfl ?_
  refine QD.nil (hZ _ ?_)
  clear hZ Z
  repeat (first | refine Run.block ?_)
  refine Run.keep [0, 3, 6, 7, 8] [_, _, _, _, _] rfl ?_
  refine Run.rounds (fun m env L J => ∃ i n : Nat, m = xs.length - i ∧ i ≤ xs.length ∧ n ≤ i * 2147483647 ∧ (∀ s ∈ xs.take i, Lib.validD s = true ∧ s.length ≤ n) ∧ env = [(0, .slice A0 xs.length c0), (3, .int .i64 n), (6, .slice A0 xs.length c0), (7, .int .i64 xs.length), (8, .int .i64 i)] ∧ L = [] ∧ I = J) xs.length ⟨0, 0, by omega, by omega, by omega, by simp, rfl, rfl, rfl⟩ ?_
  rintro m env L J ⟨i, n, rfl, hi, hn, hdone, rfl, rfl, rfl⟩ ih
  have hn2 : n ≤ 4611686014132420609 := Nat.le_trans hn (by have := Nat.mul_le_mul_right 2147483647 (Nat.le_trans hi hl); omega)
  repeat (first | refine Run.seq ?_)
  by_cases hlt : i < xs.length
  · skip
    refine Run.regionO (D := [some 9]) [true] rfl rfl rfl (fun Z hZ => ?_)
    refine QD.e ((Ev.lss rfl rfl).as (show _ = Value.bool true from congrArg Value.bool (decide_eq_true (by omega)))) (by decide) rfl ?_
    refine QD.nil (hZ _ ?_)
    clear hZ Z
    repeat (first | refine Run.seq ?_ | refine Run.skip ?_ | refine Run.block ?_ | refine Run.cond_t rfl ?_)
    refine Run.region ?_
    refine Ops.indexSl (j := (i : Int)) hS rfl (by decide) rfl rfl (T.undOk rfl) (T.sizeOk rfl) (by omega) (by omega) fun bb off q cs hq hr hA => ?_
    obtain rfl : cs = [str q] := hr
    rw [Int.toNat_natCast] at hq
    have hql := hx q (List.mem_of_getElem? hq)
    refine Ops.loadI rfl (by decide) rfl hA (T.aggOk rfl) ?_
    refine Ops.pure T rfl (by decide) rfl ?_
    refine Ops.nil ?_
    repeat (first | refine Run.seq ?_)
    refine Run.regionO (D := [some 12, some 13, some 14, some 15, some 3]) [true, true, true, true, true] rfl rfl rfl (fun Z hZ => ?_)
    refine QD.ev T (by decide) rfl rfl ?_
    refine QD.ev T (by decide) rfl rfl ?_
    refine QD.e (Ev.lenS T rfl rfl) (by decide) rfl ?_
    refine QD.e (Ev.addK (r := ((n + q.length : Nat) : Int)) rfl rfl (by rw [wI (by omega) (by omega)]; omega)) (by decide) rfl ?_
    refine QD.ev T (by decide) rfl rfl ?_
    refine QD.nil (hZ _ ?_)
    clear hZ Z
    repeat (first | refine Run.seq ?_)
    refine Run.regionP (D := [some 16, some 17, some 18]) [true] 1 rfl rfl rfl (by simp only [List.drop_succ_cons, List.drop_zero]; rfl) (fun Z hZ => ?_)
    refine QD.ev T (by decide) rfl rfl ?_
    refine QD.nil (hZ _ ?_)
    clear hZ Z
    refine Ops.call ((utf8_ValidString I hU q (by omega))) rfl (by decide) Proofs.Tryd.call13 rfl ?_
    rintro w J2 l2 ⟨rfl, rfl⟩
    refine Ops.pure T rfl (by decide) rfl ?_
    refine Ops.nil ?_
    skip
    cases hv : Lib.validD q with
    | false =>
      repeat (first | refine Run.seq ?_ | refine Run.cond_t rfl ?_)
      refine Run.regionO (D := [some 2]) [true] rfl rfl rfl (fun Z hZ => ?_)
      refine QD.ev T (by decide) rfl rfl ?_
      refine QD.nil (hZ _ ?_)
      clear hZ Z
      skip
      refine Run.fin (Run.ret1 (by rw [hCf]; exact Proofs.Tryd.func6) Proofs.Tryd.results6 rfl (hR _ _ _ ?_))
      exact ⟨rfl, _, rfl, fun h => by cases h⟩
    | true =>
      repeat (first | refine Run.skip ?_ | refine Run.inBlock ?_ | refine Run.cond_f rfl ?_)
      refine Run.regionO (D := [some 19, some 8]) [true, true] rfl rfl rfl (fun Z hZ => ?_)
      refine QD.e (Ev.addK (r := ((i + 1 : Nat) : Int)) rfl rfl (by rw [wI (by omega) (by omega)]; omega)) (by decide) rfl ?_
      refine QD.ev T (by decide) rfl rfl ?_
      refine QD.nil (hZ _ ?_)
      clear hZ Z
      skip
      refine Run.keep [0, 3, 6, 7, 8] [_, _, _, _, _] rfl ?_
      refine ih (xs.length - (i + 1)) _ _ _ (by omega) ⟨i + 1, n + q.length, rfl, by omega, by omega, ?_, rfl, rfl, rfl⟩
      intro s hs
      rw [List.take_succ_eq_append_getElem hlt] at hs
      rcases List.mem_append.1 hs with hs | hs
      · obtain ⟨h1, h2⟩ := hdone s hs
        exact ⟨h1, by omega⟩
      · obtain rfl := List.mem_singleton.1 hs
        rw [List.getElem?_eq_getElem hlt] at hq
        obtain rfl : xs[i] = q := Option.some.inj hq
        exact ⟨hv, by omega⟩
  · skip
    refine Run.regionO (D := [some 9]) [true] rfl rfl rfl (fun Z hZ => ?_)
    refine QD.e ((Ev.lss rfl rfl).as (show _ = Value.bool false from congrArg Value.bool (decide_eq_false (by omega)))) (by decide) rfl ?_
    refine QD.nil (hZ _ ?_)
    clear hZ Z
    repeat (first | refine Run.seq ?_ | refine Run.exit rfl ?_ | refine Run.cond_f rfl ?_)
    rw [List.take_of_length_le (by omega)] at hdone
    by_cases h60 : xs.length ≤ 60
    · by_cases h4 : n ≤ 4000
      · skip
        refine Run.regionO (D := [some 20, some 21, some 22, some 23, some 24, some 25, some 26, some 2]) [true, true, true, true, true, true, true, true] rfl rfl rfl (fun Z hZ => ?_)
        refine QD.ev T (by decide) rfl rfl ?_
        refine QD.ev T (by decide) rfl rfl ?_
        refine QD.e ((Ev.leq rfl rfl).as (show _ = Value.bool true from congrArg Value.bool (decide_eq_true (by omega)))) (by decide) rfl ?_
        refine QD.ev T (by decide) rfl rfl ?_
        first | refine QD.ev T (by decide) rfl rfl ?_ | refine QD.off (by decide) rfl ?_
        refine QD.e ((Ev.leq rfl rfl).as (show _ = Value.bool true from congrArg Value.bool (decide_eq_true (by omega)))) (by decide) rfl ?_
        refine QD.ev T (by decide) rfl rfl ?_
        refine QD.ev T (by decide) rfl rfl ?_
        refine QD.nil (hZ _ ?_)
        clear hZ Z
        skip
        refine Run.fin (Run.ret1 (by rw [hCf]; exact Proofs.Tryd.func6) Proofs.Tryd.results6 rfl (hR _ _ _ ?_))
        exact ⟨rfl, _, rfl, fun _ => ⟨h60, fun s hs => ⟨(hdone s hs).1, by have := (hdone s hs).2; omega⟩⟩⟩
      · skip
        refine Run.regionO (D := [some 20, some 21, some 22, some 23, some 24, some 25, some 26, some 2]) [true, true, true, true, true, true, true, true] rfl rfl rfl (fun Z hZ => ?_)
        refine QD.ev T (by decide) rfl rfl ?_
        refine QD.ev T (by decide) rfl rfl ?_
        refine QD.e ((Ev.leq rfl rfl).as (show _ = Value.bool true from congrArg Value.bool (decide_eq_true (by omega)))) (by decide) rfl ?_
        refine QD.ev T (by decide) rfl rfl ?_
        first | refine QD.ev T (by decide) rfl rfl ?_ | refine QD.off (by decide) rfl ?_
        refine QD.e ((Ev.leq rfl rfl).as (show _ = Value.bool false from congrArg Value.bool (decide_eq_false (by omega)))) (by decide) rfl ?_
        refine QD.ev T (by decide) rfl rfl ?_
        refine QD.ev T (by decide) rfl rfl ?_
        refine QD.nil (hZ _ ?_)
        clear hZ Z
        skip
        refine Run.fin (Run.ret1 (by rw [hCf]; exact Proofs.Tryd.func6) Proofs.Tryd.results6 rfl (hR _ _ _ ?_))
        exact ⟨rfl, _, rfl, fun h => by cases h⟩
    · skip
      refine Run.regionO (D := [some 20, some 21, some 22, some 23, some 24, some 25, some 26, some 2]) [true, true, true, true, true, true, true, true] rfl rfl rfl (fun Z hZ => ?_)
      refine QD.ev T (by decide) rfl rfl ?_
      refine QD.ev T (by decide) rfl rfl ?_
      refine QD.e ((Ev.leq rfl rfl).as (show _ = Value.bool false from congrArg Value.bool (decide_eq_false (by omega)))) (by decide) rfl ?_
      refine QD.ev T (by decide) rfl rfl ?_
      first | refine QD.ev T (by decide) rfl rfl ?_ | refine QD.off (by decide) rfl ?_
      first | refine QD.e (Ev.leq rfl rfl) (by decide) rfl ?_ | refine QD.off (by decide) rfl ?_
      refine QD.ev T (by decide) rfl rfl ?_
      refine QD.ev T (by decide) rfl rfl ?_
      refine QD.nil (hZ _ ?_)
      clear hZ Z
      skip
      refine Run.fin (Run.ret1 (by rw [hCf]; exact Proofs.Tryd.func6) Proofs.Tryd.results6 rfl (hR _ _ _ ?_))
      exact ⟨rfl, _, rfl, fun h => by cases h⟩
end Go.V
/-
  What was written is read as what it was.
-/
namespace Go.V
open Go.RowKit
set_option linter.unusedVariables false
set_option linter.unusedSimpArgs false
set_option maxRecDepth 10000
def pq (v : List Nat) : Bool := (34 :: v.flatMap quo1 ++ [34]).all fun b => !(b == 92)
def omM (kb : Bs) (v : List Nat) : List (Bs × JV) := if v = [] then [] else [(kb, .mk 34 (pq v) (encs v) [] [])]
theorem quo_cons (v : List Nat) (r : Bs) : quo v ++ r = 34 :: (v.flatMap quo1 ++ 34 :: r) := by unfold quo; simp
theorem memb_read (f : Nat) {kb : Bs} (hk : ∀ c ∈ kb, c.toNat < 128) {v : List Nat} (hv : ∀ r ∈ v, goodR r) : MReads f (quo (ascR kb) ++ 58 :: quo v) (kb, .mk 34 (pq v) (encs v) [] []) := by
  refine ⟨[], by simp, fun r _ => ⟨quo v ++ r, ?_, ?_⟩⟩
  · rw [List.append_assoc, quo_cons]
    unfold keyR
    rw [skip_no (by decide)]
    simp only [if_true]
    rw [quo_read (good_asc hk), encs_asc hk]
    simp only [List.cons_append]
    rw [skip_no (by decide)]
    simp only [if_true]
  · rw [quo_cons]
    have := rdV_str f (quo_read hv r)
    simpa [pq] using this
theorem omem_reads (f : Nat) {kb : Bs} (hk : ∀ c ∈ kb, c.toNat < 128) {v : List Nat} (hv : ∀ r ∈ v, goodR r) : All2 (MReads f) (omem (ascR kb) v) (omM kb v) := by
  unfold omem omM
  split
  · exact .nil
  · exact .cons (memb_read f hk hv) .nil
def Ru.ms (x : Ru) : List (Bs × JV) := omM uK x.u ++ omM pK x.p ++ omM aK x.a ++ omM iK x.i ++ omM rK x.r
theorem Ru.reads {x : Ru} (hx : x.Good) (f : Nat) : All2 (MReads f) x.mems x.ms :=
  ((((omem_reads f (by decide) hx.u).append (omem_reads f (by decide) hx.p)).append (omem_reads f (by decide) hx.a)).append (omem_reads f (by decide) hx.i)).append (omem_reads f (by decide) hx.r)
theorem Ru.read {x : Ru} (hx : x.Good) : rdV 10000 x.text = some (.mk 123 false [] (x.ms.map Prod.snd) (x.ms.map Prod.fst), []) := by
  have := obj_read (x.reads hx 9999) (b := []) (by simp) []
  simpa [Ru.text] using this
theorem field0 : fieldR uK auNames = 0 := by decide
theorem field1 : fieldR pK auNames = 1 := by decide
theorem field2 : fieldR aK auNames = 2 := by decide
theorem field3 : fieldR iK auNames = 3 := by decide
theorem field4 : fieldR rK auNames = 4 := by decide
theorem takes_append (b : Au) (l m : List (Bs × JV)) : b.takes (l ++ m) = (b.takes l).takes m := by unfold Au.takes; rw [List.foldl_append]
theorem omM_takes (b : Au) (kb : Bs) (v : List Nat) (k : Int) (hf : fieldR kb auNames = k) (hb : b.put k [] = b) : b.takes (omM kb v) = b.put k (encs v) := by
  unfold omM
  split
  · rename_i h; subst h; exact hb.symm
  · unfold Au.takes
    simp only [List.foldl_cons, List.foldl_nil, hf]
    rfl
theorem Ru.takes (x : Ru) : Au.zero.takes x.ms = x.au := by
  unfold Ru.ms
  rw [takes_append, takes_append, takes_append, takes_append]
  rw [omM_takes _ _ _ 0 field0 rfl, omM_takes _ _ _ 1 field1 rfl, omM_takes _ _ _ 2 field2 rfl, omM_takes _ _ _ 3 field3 rfl, omM_takes _ _ _ 4 field4 rfl]
  rfl
theorem omM_ok {kb : Bs} {v : List Nat} {k : Int} (hf : fieldR kb auNames = k) (h : k = 0 ∨ k = 1 ∨ k = 2 ∨ k = 3 ∨ k = 4) (hl : kb.length ≤ 137438953472) : ∀ m ∈ omM kb v, AuOk m := by
  intro m hm
  unfold omM at hm
  split at hm
  · cases hm
  · obtain rfl := List.mem_singleton.1 hm
    exact ⟨hl, by rw [show fieldR (kb, JV.mk 34 (pq v) (encs v) [] []).1 auNames = k from hf]; omega, fun _ => rfl⟩
theorem Ru.ok (x : Ru) : ∀ m ∈ x.ms, AuOk m := by
  intro m hm
  unfold Ru.ms at hm
  simp only [List.mem_append] at hm
  rcases hm with (((h | h) | h) | h) | h
  · exact omM_ok field0 (by decide) (by decide) m h
  · exact omM_ok field1 (by decide) (by decide) m h
  · exact omM_ok field2 (by decide) (by decide) m h
  · exact omM_ok field3 (by decide) (by decide) m h
  · exact omM_ok field4 (by decide) (by decide) m h
theorem omM_len (kb : Bs) (v : List Nat) : (omM kb v).length ≤ 1 := by unfold omM; split <;> simp
theorem Ru.ms_len (x : Ru) : x.ms.length ≤ 5 := by
  have h0 := omM_len uK x.u
  have h1 := omM_len pK x.p
  have h2 := omM_len aK x.a
  have h3 := omM_len iK x.i
  have h4 := omM_len rK x.r
  unfold Ru.ms
  simp only [List.length_append]; omega
theorem Ru.auFin {x : Ru} (hx : x.Good) (ha : x.a = []) (hu : (58 : UInt8) ∉ encs x.u) (hl : (jn (encs x.u) (encs x.p)).length ≤ 137438953472) : AuFin x.fin.au x.fin.au := by
  have hb : ∀ c ∈ b64 (jn (encs x.u) (encs x.p)), c.toNat < 128 := fun c hc => by have := (b64_asc _ c hc).2.1; omega
  unfold Ru.fin
  split
  · rename_i h
    exact .none _ (by show encs x.a = []; rw [ha]; rfl) (.inl (by show encs x.u = []; rw [h.1]; rfl))
  · exact AuFin.joined (Ru.au { x with a := ascR (b64 (jn (encs x.u) (encs x.p))) }) (encs x.u) (encs x.p) (encs_asc hb) hu hl
end Go.V
/-
  The two tables of unicode/utf8, off what a row lists.
-/
namespace Go.V
open Go.RowKit Go.ChangeShapes Go.Proofs
set_option linter.unusedVariables false
set_option maxRecDepth 100000
theorem at_cell {W : World} {b off : Nat} {v : Value} (h : W.cell? ⟨b, off, none⟩ = some v) : At (whole W) b off [v] :=
  (at_whole (a := ⟨b, off, none⟩) (by simp) (fun j u hj => by
    cases j with
    | zero => simp at hj; subst hj; simpa [Addr.add] using h
    | succ j => simp at hj)).2
theorem u8extra : U8Extra Proofs.Tryd.prog ren196 := ⟨by kernel_rfl, by kernel_rfl, by kernel_rfl, by kernel_rfl, by kernel_rfl, by kernel_rfl, by kernel_rfl⟩
theorem UT.ofLaid {W : World} {l : List (String × DataW Unit)} (h : laidMetH Proofs.Tryd.prog l W) (hp : (l.all fun x => x.2.handleName?.isNone) = true)
    (h1 : ("unicode/utf8.first", Lib.firstData) ∈ l) (h2 : ("unicode/utf8.acceptRanges", Lib.acceptData) ∈ l) : UT (whole W) := by
  rw [MakeChecks.laidMetH_plain _ _ _ hp] at h
  have hT : Lib.Utf8Tabs 0 1 W := utf8Tabs_of_readsT (ρ := ren196) (U8Types.of196 lays196) u8extra (Lib.laidMet.reads h h1) (Lib.laidMet.reads h h2)
  exact ⟨fun c hc => at_cell (hT.1 c hc), fun i hi => ⟨at_cell (hT.2 i hi).1, at_cell (hT.2 i hi).2⟩⟩
end Go.V
/-
  The law of what is written and read back: it returns true.
-/
namespace Go.V
open Go.RowKit
set_option linter.unusedVariables false
set_option linter.unusedSimpArgs false
set_option maxRecDepth 10000
attribute [local irreducible] Run Ops QD
abbrev cdAuth : Cd := .st (.pair .str (.pair .str (.pair .str (.pair .str .str))))
def auOf (x : cdAuth.ty) : Au := let y : Bs × Bs × Bs × Bs × Bs := x; ⟨y.1, y.2.1, y.2.2.1, y.2.2.2.1, y.2.2.2.2⟩
theorem Val.auth {I : Imm} {v : Value} {x : cdAuth.ty} (h : Val cdAuth I v x) : v = .agg (auOf x).cs.toArray := by
  obtain ⟨cs, rfl, h⟩ := h
  obtain ⟨c1, c2, rfl, rfl, c3, c4, rfl, rfl, c5, c6, rfl, rfl, c7, c8, rfl, rfl, rfl⟩ := h
  rfl
theorem plainA.asc {s : Bs} (h : plainA s) : ∀ c ∈ s, c.toNat < 128 := fun c hc => by have := (h.2 c hc).2; omega
theorem goodS.runes {s : Bs} (h : goodS s) : ∃ rs, Runes s rs ∧ rs.length ≤ 4000 := by
  obtain ⟨rs, h1⟩ := runes_of_valid h.1
  refine ⟨rs, h1, ?_⟩
  have := encs_len_ge rs
  rw [← h1.1] at this
  have := h.2
  omega
set_option maxHeartbeats 2000000 in
theorem laws_FnAuthBack (I : Imm) (v : Value) (x : cdAuth.ty) (hv : Val cdAuth I v x) (hx : cdAuth.ok x) (hU : UT I) : Pure Proofs.Tryd.prog 4 [v] I fun v _ => v = .bool true := by
  obtain rfl := hv.auth
  clear hv
  generalize auOf x = a
  refine Spec.enter 50 [(0, _)] Proofs.Tryd.func4 rfl Proofs.Tryd.ntmps4 (by simp) rfl ?_
  intro C hCf hR hCI
  repeat (first | refine Run.seq ?_ | refine Run.region ?_)
  refine Ops.box rfl (by decide) rfl rfl (fun b0 => ?_)
  repeat (first | refine Run.seq ?_ | refine Run.region ?_ | refine Ops.nil ?_ | refine Ops.pure T rfl (by decide) rfl ?_ | refine Ops.loadN 0 rfl (by decide) rfl rfl (T.aggOk rfl) (T.sizeOk rfl) rfl rfl ?_)
  refine Ops.call ((laws_zzFits1 I a)) rfl (by decide) Proofs.Tryd.call11 rfl ?_
  rintro _ J1 l1 ⟨r, rfl, hr⟩
  repeat (first | refine Ops.nil ?_ | refine Ops.pure T rfl (by decide) rfl ?_)
  cases r with
  | false =>
    repeat (first | refine Run.seq ?_ | refine Run.region ?_ | refine Ops.nil ?_ | refine Run.cond_t rfl ?_ | refine Ops.pure T rfl (by decide) rfl ?_)
    refine Run.fin (Run.ret1 (by rw [hCf]; exact Proofs.Tryd.func4) Proofs.Tryd.results4 rfl (hR _ _ _ ?_))
    exact ⟨rfl, rfl⟩
  | true =>
    obtain ⟨au, ap, aa, ai, ar⟩ := a
    obtain ⟨h1, h2, h3, h4, h5⟩ := hr rfl
    simp only at h1 h2 h3 h4 h5
    repeat (first | refine Run.seq ?_ | refine Run.region ?_ | refine Ops.nil ?_ | refine Run.skip ?_ | refine Run.cond_f rfl ?_ | refine Ops.pure T rfl (by decide) rfl ?_ | refine Ops.load 0 rfl (by decide) rfl rfl (T.aggOk rfl) rfl ?_ | refine Ops.store 0 rfl rfl rfl rfl rfl (T.sizeOk rfl) rfl (Nat.le_of_ble_eq_true rfl) rfl rfl ?_)
    refine Ops.call ((laws_authPlain J1 au ap h1 h2)) rfl (by decide) Proofs.Tryd.call5 rfl ?_
    rintro _ J2 l2 ⟨r, rfl, hp⟩
    repeat (first | refine Ops.pure T rfl (by decide) rfl ?_)
    cases r with
    | false =>
      repeat (first | refine Run.seq ?_ | refine Run.region ?_ | refine Ops.nil ?_ | refine Run.cond_t rfl ?_ | refine Ops.not rfl (by decide) ?_ | refine Ops.pure T rfl (by decide) rfl ?_)
      refine Ops.call ((laws_authAwake _)) rfl (by decide) Proofs.Tryd.call7 rfl ?_
      rintro _ J9 l9 rfl
      repeat (first | refine Ops.nil ?_ | refine Ops.pure T rfl (by decide) rfl ?_)
      refine Run.fin (Run.ret1 (by rw [hCf]; exact Proofs.Tryd.func4) Proofs.Tryd.results4 rfl (hR _ _ _ ?_))
      exact ⟨rfl, rfl⟩
    | true =>
      obtain ⟨p1, p2, p3⟩ := hp rfl
      repeat (first | refine Ops.pure T rfl (by decide) rfl ?_ | refine Ops.load 0 rfl (by decide) rfl rfl (T.aggOk rfl) rfl ?_)
      refine Ops.lit T rfl rfl rfl (by decide) rfl (by decide) (by decide) rfl rfl rfl rfl rfl (fun bq => ?_)
      refine Ops.freezeAt 0 rfl rfl fun J3 l3 hJ3 => ?_
      have hS : Sl tStr J3 (.slice (some ⟨bq, 0, none⟩) 2 2) [ai, ar] := Sl.ofBlock hJ3 (Cells.strs [ai, ar]) rfl (Nat.le_refl _)
      refine Ops.call ((laws_textsGood J3 (hU.mono ((l1.trans l2).trans l3)) _ [ai, ar] hS (by intro s hs; simp only [List.mem_cons, List.not_mem_nil, or_false] at hs; rcases hs with rfl | rfl <;> assumption) (by simp))) rfl (by decide) Proofs.Tryd.call6 rfl ?_
      rintro _ J4 l4 ⟨r, rfl, hg⟩
      repeat (first | refine Ops.nil ?_ | refine Ops.pure T rfl (by decide) rfl ?_)
      cases r with
      | false =>
        repeat (first | refine Run.seq ?_ | refine Run.region ?_ | refine Run.cond_t rfl ?_)
        refine Ops.call ((laws_authAwake _)) rfl (by decide) Proofs.Tryd.call7 rfl ?_
        rintro _ J9 l9 rfl
        repeat (first | refine Ops.nil ?_ | refine Ops.pure T rfl (by decide) rfl ?_)
        refine Run.fin (Run.ret1 (by rw [hCf]; exact Proofs.Tryd.func4) Proofs.Tryd.results4 rfl (hR _ _ _ ?_))
        exact ⟨rfl, rfl⟩
      | true =>
        obtain ⟨_, hg⟩ := hg rfl
        obtain ⟨ri, ⟨rfl, hi⟩, hil⟩ := (hg ai (by simp)).runes
        obtain ⟨rr, ⟨rfl, hrg⟩, hrl⟩ := (hg ar (by simp)).runes
        have eu := encs_asc p1.asc
        have ep := encs_asc p2.asc
        have hx : Ru.Good ⟨ascR au, ascR ap, [], ri, rr⟩ := ⟨good_asc p1.asc, good_asc p2.asc, by simp, hi, hrg⟩
        have hxl : Ru.len ⟨ascR au, ascR ap, [], ri, rr⟩ ≤ 8120 := by have := p1.1; have := p2.1; unfold Ru.len; simp only [ascR_len, List.length_nil]; omega
        have hU4 := hU.mono (((l1.trans l2).trans l3).trans l4)
        have hT := impl_AuthText J4 hU4 _ hx (by omega)
        have hfl := Ru.fin_len ⟨ascR au, ascR ap, [], ri, rr⟩
        have hfg := Ru.fin_good hx
        have htl := Ru.text_len hfg
        have hfin := Ru.auFin hx rfl (by show (58 : UInt8) ∉ encs (ascR au); rw [eu]; exact p3) (by rw [jn_len]; show (encs (ascR au)).length + (encs (ascR ap)).length + 1 ≤ _; rw [eu, ep]; have := p1.1; have := p2.1; omega)
        have hO := fun J (h : UT J) => impl_AuthOf J h (Ru.fin ⟨ascR au, ascR ap, [], ri, rr⟩).text (by unfold Ru.text; simp) (by unfold Ru.text; simp only [List.length_append, List.length_cons, List.length_nil]; omega) _ [] (Ru.read hfg) rfl rfl _ rfl rfl (by have := (Ru.fin ⟨ascR au, ascR ap, [], ri, rr⟩).ms_len; omega) (Ru.ok _) _ (by rw [Ru.takes]; exact hfin)
        have hcs : (Ru.fin ⟨ascR au, ascR ap, [], ri, rr⟩).au = ⟨au, ap, (Ru.fin ⟨ascR au, ascR ap, [], ri, rr⟩).au.auth, encs ri, encs rr⟩ := by
          unfold Ru.fin
          split
          · show Au.mk (encs (ascR au)) (encs (ascR ap)) _ _ _ = _; rw [eu, ep]; rfl
          · show Au.mk (encs (ascR au)) (encs (ascR ap)) _ _ _ = _; rw [eu, ep]; rfl
        rw [hcs] at hO
        generalize (Ru.fin ⟨ascR au, ascR ap, [], ri, rr⟩).text = tx at *
        generalize (Ru.fin ⟨ascR au, ascR ap, [], ri, rr⟩).au.auth = af at *
        unfold Ru.au at hT
        simp only [eu, ep] at hT
        repeat (first | refine Run.seq ?_ | refine Run.region ?_ | refine Run.skip ?_ | refine Run.cond_f rfl ?_ | refine Ops.loadN 0 rfl (by decide) rfl rfl (T.aggOk rfl) (T.sizeOk rfl) rfl rfl ?_)
        refine Ops.call ((hT)) rfl (by decide) Proofs.Tryd.call12 rfl ?_
        rintro _ J5 l5 rfl
        repeat (first | refine Run.seq ?_ | refine Run.region ?_ | refine Ops.nil ?_ | refine Ops.pure T rfl (by decide) rfl ?_)
        refine Ops.call ((hO J5 (hU4.mono l5))) rfl (by decide) Proofs.Tryd.call9 rfl ?_
        rintro _ J6 l6 rfl
        repeat (first | refine Ops.pure T rfl (by decide) rfl ?_)
        refine Ops.alloc rfl (by decide) (T.zeroOk rfl) rfl (fun b5 => ?_)
        repeat (first | refine Run.seq ?_ | refine Run.region ?_ | refine Ops.nil ?_ | refine Ops.pure T rfl (by decide) rfl ?_ | refine Ops.loadN 0 rfl (by decide) rfl rfl (T.aggOk rfl) (T.sizeOk rfl) rfl rfl ?_ | refine Ops.loadN 1 rfl (by decide) rfl rfl (T.aggOk rfl) (T.sizeOk rfl) rfl rfl ?_ | refine Ops.store 0 rfl rfl rfl rfl rfl (T.sizeOk rfl) rfl (Nat.le_of_ble_eq_true rfl) rfl rfl ?_)
        refine Ops.eqlAgg T [28] (by kernel_rfl) rfl rfl (by decide) rfl rfl rfl ?_
        simp only [beq_self_eq_true, Bool.and_self]
        repeat (first | refine Ops.pure T rfl (by decide) rfl ?_)
        refine Ops.call ((laws_authAwake _)) rfl (by decide) Proofs.Tryd.call7 rfl ?_
        rintro _ J9 l9 rfl
        repeat (first | refine Ops.nil ?_ | refine Ops.pure T rfl (by decide) rfl ?_)
        refine Run.fin (Run.ret1 (by rw [hCf]; exact Proofs.Tryd.func4) Proofs.Tryd.results4 rfl (hR _ _ _ ?_))
        exact ⟨rfl, rfl⟩
end Go.V
