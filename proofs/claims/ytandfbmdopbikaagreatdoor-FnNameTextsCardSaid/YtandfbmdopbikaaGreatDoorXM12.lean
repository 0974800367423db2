import Derived.Test.YtandfbmdopbikaaGreatDoorXM10
import Derived.Test.YtandfbmdopbikaaGreatDoorXM11
namespace Go.V
open Go.Proofs.Tryz
open Go.RowKit
set_option linter.unusedVariables false
set_option linter.unusedSimpArgs false
set_option maxRecDepth 10000
attribute [local irreducible] Run Ops
theorem lxI_none {c : UInt8} {s : Tx} (h : lx c s = none) : lxI c s = -1 := by simp [lxI, h]
theorem lxI_eq {c : UInt8} {s : Tx} {k : Nat} (h : lx c s = some k) : lxI c s = k := by simp [lxI, h]
theorem lxI_iff {c : UInt8} {s : Tx} {k : Nat} : decide ((k : Int) = lxI c s) = decide (lx c s = some k) := by
  rw [decide_eq_decide]
  cases h : lx c s with
  | none => rw [lxI_none h]; simp
  | some j => rw [lxI_eq h]; simp; omega
theorem spec_repositoryOf' (I : Imm) (s : Tx) (st ins : Bool) (reg tag : Tx) (hs : s.length ≤ 4620000000000000000) : Pure prog 12 [str s, .agg (NOpt.mk st ins reg tag).cs.toArray] I fun w J => w = t4 (sRepo st reg s) := spec_repositoryOf I s ⟨st, ins, reg, tag⟩ hs
set_option maxHeartbeats 4000000 in
theorem spec_tagOf (I : Imm) (s : Tx) (o : NOpt) (hs : s.length ≤ 4620000000000000000) : Pure prog 13 [str s, .agg o.cs.toArray] I fun w J => w = t5 (sTag o s) := by
  obtain ⟨st, ins, reg, tag⟩ := o
  refine Spec.enter 54 [(0, _), (1, _)] func13 rfl ntmps13 (by simp) rfl ?_
  intro C hCf hR hCI
  repeat (first | refine Run.seq ?_ | refine Run.region ?_)
  refine Ops.box rfl (by decide) rfl rfl (fun b => ?_)
  repeat (first | refine Run.seq ?_ | refine Run.region ?_ | refine Ops.nil ?_ | refine Ops.pure T rfl (by decide) rfl ?_)
  refine Ops.call ((spec_lastOf s 58 I (by omega))) rfl (by decide) call49 rfl ?_
  rintro _ J1 l1 rfl
  cases hk : lx 58 s with
  | none =>
    rw [lxI_none hk]
    have hct : cutTag s = none := by simp [cutTag, hk]
    repeat (first | refine Run.seq ?_ | refine Run.region ?_ | refine Ops.nil ?_ | refine Run.cond_f rfl ?_ | refine Ops.not rfl (by decide) ?_ | refine Ops.geq rfl (by decide) rfl rfl ?_ | refine Ops.pure T rfl (by decide) rfl ?_ | refine Ops.load 0 rfl (by decide) rfl rfl (T.aggOk rfl) rfl ?_)
    cases st with
    | true =>
      repeat (first | refine Run.seq ?_ | refine Run.region ?_ | refine Ops.nil ?_ | refine Run.cond_t rfl ?_ | refine Ops.pure T rfl (by decide) rfl ?_)
      refine Run.fin (Run.ret5 (by rw [hCf]; exact func13) results13 rfl rfl rfl rfl rfl (hR _ _ _ ?_))
      refine ⟨rfl, ?_⟩
      unfold sTag
      rw [hct]
      rfl
    | false =>
      repeat (first | refine Run.seq ?_ | refine Run.region ?_ | refine Ops.nil ?_ | refine Run.skip ?_ | refine Run.cond_t rfl ?_ | refine Run.cond_f rfl ?_ | refine Ops.eqlStr rfl (by decide) rfl rfl ?_ | refine Ops.pure T rfl (by decide) rfl ?_ | refine Ops.load 0 rfl (by decide) rfl rfl (T.aggOk rfl) rfl ?_)
      cases ht : decide (tag = []) with
      | true =>
        repeat (first | refine Run.seq ?_ | refine Run.region ?_ | refine Ops.nil ?_ | refine Run.cond_t rfl ?_ | refine Ops.pure T rfl (by decide) rfl ?_ | refine Ops.loadN 0 rfl (by decide) rfl rfl (T.aggOk rfl) (T.sizeOk rfl) rfl rfl ?_)
        refine Ops.call ((spec_repositoryOf J1 (s) ⟨false, ins, reg, tag⟩ (by first | (simp; done) | (simp; omega) | omega))) rfl (by decide) call12 rfl ?_
        rintro _ J8 l8 rfl
        unfold t4
        repeat (first | refine Run.seq ?_ | refine Run.region ?_ | refine Ops.nil ?_ | refine Ops.pure T rfl (by decide) rfl ?_)
        refine Run.fin (Run.ret5 (by rw [hCf]; exact func13) results13 rfl rfl rfl rfl rfl (hR _ _ _ ?_))
        refine ⟨rfl, ?_⟩
        unfold sTag
        rw [hct]
        simp only [Bool.false_eq_true, if_false, tagOr, if_pos (of_decide_eq_true ht)]
        rfl
      | false =>
        repeat (first | refine Run.seq ?_ | refine Run.region ?_ | refine Run.skip ?_ | refine Run.cond_f rfl ?_ | refine Ops.pure T rfl (by decide) rfl ?_ | refine Ops.loadN 0 rfl (by decide) rfl rfl (T.aggOk rfl) (T.sizeOk rfl) rfl rfl ?_)
        refine Ops.call ((spec_repositoryOf J1 (s) ⟨false, ins, reg, tag⟩ (by first | (simp; done) | (simp; omega) | omega))) rfl (by decide) call12 rfl ?_
        rintro _ J8 l8 rfl
        unfold t4
        repeat (first | refine Run.seq ?_ | refine Run.region ?_ | refine Ops.nil ?_ | refine Ops.pure T rfl (by decide) rfl ?_)
        refine Run.fin (Run.ret5 (by rw [hCf]; exact func13) results13 rfl rfl rfl rfl rfl (hR _ _ _ ?_))
        refine ⟨rfl, ?_⟩
        unfold sTag
        rw [hct]
        simp only [Bool.false_eq_true, if_false, tagOr, if_neg (of_decide_eq_false ht)]
        rfl
  | some k =>
    rw [lxI_eq hk]
    have hlt := (lx_split hk).1
    have hct0 : cutTag s = if hasB 47 (s.drop k) then none else some (s.take k, s.drop (k + 1)) := by simp [cutTag, hk]
    repeat (first | refine Run.seq ?_ | refine Run.region ?_ | refine Ops.nil ?_ | refine Ops.geq rfl (by decide) rfl rfl ?_ | refine Ops.pure T rfl (by decide) rfl ?_ | refine Ops.sliceStrLo rfl (by decide) (T.undOk rfl) rfl rfl (by first | omega | (simp only [List.length_cons, List.length_nil] ; omega) | (simp; omega)) (by first | omega | (simp only [List.length_cons, List.length_nil] ; omega) | (simp; omega)) ?_)
    rw [decide_eq_true (show (0 : Int) ≤ (k : Int) by omega)]
    skip
    have ek : ((k : Int)).toNat = k := by omega
    rw [ek]
    refine Ops.call ((spec_firstOf (s.drop k) 47 J1 (by simp; omega))) rfl (by decide) call47 rfl ?_
    rintro _ J2 l2 rfl
    repeat (first | refine Ops.nil ?_ | refine Ops.lss rfl (by decide) rfl rfl ?_ | refine Ops.pure T rfl (by decide) rfl ?_)
    rw [ixI_has']
    cases h47 : hasB 47 (s.drop k) with
    | true =>
      have hct : cutTag s = none := by rw [hct0, h47]; rfl
      repeat (first | refine Run.seq ?_ | refine Run.region ?_ | refine Ops.nil ?_ | refine Run.cond_f rfl ?_ | refine Ops.pure T rfl (by decide) rfl ?_ | refine Ops.load 0 rfl (by decide) rfl rfl (T.aggOk rfl) rfl ?_)
      cases st with
      | true =>
        repeat (first | refine Run.seq ?_ | refine Run.region ?_ | refine Ops.nil ?_ | refine Run.cond_t rfl ?_ | refine Ops.pure T rfl (by decide) rfl ?_)
        refine Run.fin (Run.ret5 (by rw [hCf]; exact func13) results13 rfl rfl rfl rfl rfl (hR _ _ _ ?_))
        refine ⟨rfl, ?_⟩
        unfold sTag
        rw [hct]
        rfl
      | false =>
        repeat (first | refine Run.seq ?_ | refine Run.region ?_ | refine Ops.nil ?_ | refine Run.skip ?_ | refine Run.cond_t rfl ?_ | refine Run.cond_f rfl ?_ | refine Ops.eqlStr rfl (by decide) rfl rfl ?_ | refine Ops.pure T rfl (by decide) rfl ?_ | refine Ops.load 0 rfl (by decide) rfl rfl (T.aggOk rfl) rfl ?_)
        cases ht : decide (tag = []) with
        | true =>
          repeat (first | refine Run.seq ?_ | refine Run.region ?_ | refine Ops.nil ?_ | refine Run.cond_t rfl ?_ | refine Ops.pure T rfl (by decide) rfl ?_ | refine Ops.loadN 0 rfl (by decide) rfl rfl (T.aggOk rfl) (T.sizeOk rfl) rfl rfl ?_)
          refine Ops.call ((spec_repositoryOf J2 (s) ⟨false, ins, reg, tag⟩ (by first | (simp; done) | (simp; omega) | omega))) rfl (by decide) call12 rfl ?_
          rintro _ J8 l8 rfl
          unfold t4
          repeat (first | refine Run.seq ?_ | refine Run.region ?_ | refine Ops.nil ?_ | refine Ops.pure T rfl (by decide) rfl ?_)
          refine Run.fin (Run.ret5 (by rw [hCf]; exact func13) results13 rfl rfl rfl rfl rfl (hR _ _ _ ?_))
          refine ⟨rfl, ?_⟩
          unfold sTag
          rw [hct]
          simp only [Bool.false_eq_true, if_false, tagOr, if_pos (of_decide_eq_true ht)]
          rfl
        | false =>
          repeat (first | refine Run.seq ?_ | refine Run.region ?_ | refine Run.skip ?_ | refine Run.cond_f rfl ?_ | refine Ops.pure T rfl (by decide) rfl ?_ | refine Ops.loadN 0 rfl (by decide) rfl rfl (T.aggOk rfl) (T.sizeOk rfl) rfl rfl ?_)
          refine Ops.call ((spec_repositoryOf J2 (s) ⟨false, ins, reg, tag⟩ (by first | (simp; done) | (simp; omega) | omega))) rfl (by decide) call12 rfl ?_
          rintro _ J8 l8 rfl
          unfold t4
          repeat (first | refine Run.seq ?_ | refine Run.region ?_ | refine Ops.nil ?_ | refine Ops.pure T rfl (by decide) rfl ?_)
          refine Run.fin (Run.ret5 (by rw [hCf]; exact func13) results13 rfl rfl rfl rfl rfl (hR _ _ _ ?_))
          refine ⟨rfl, ?_⟩
          unfold sTag
          rw [hct]
          simp only [Bool.false_eq_true, if_false, tagOr, if_neg (of_decide_eq_false ht)]
          rfl
    | false =>
      have hct : cutTag s = some (s.take k, s.drop (k + 1)) := by rw [hct0, h47]; rfl
      repeat (first | refine Run.seq ?_ | refine Run.cond_t rfl ?_)
      refine Run.regionAny (Holds J2 []) (bl 9 0) (by kernel_rfl) (by kernel_rfl) ?_
      refine RAny.tk 0 (bl 9 1) rfl (by kernel_rfl) (by decide) (fun W h => h.holds (Le.refl _) (by first | exact mp rfl | exact mq rfl)) (Yld.eval T rfl rfl) ?_
      refine RAny.tk 1 (bl 9 3) rfl (by kernel_rfl) (by decide) (fun W h => h.holds (Le.refl _) (by first | exact mp rfl | exact mq rfl)) (Yld.eval T rfl rfl) ?_
      refine RAny.tk 2 (bl 9 7) rfl (by kernel_rfl) (by decide) (fun W h => h.holds (Le.refl _) (by first | exact mp rfl | exact mq rfl)) (Yld.as (v' := str (s.take k)) (Yld.sliceHi T rfl rfl rfl rfl (by omega) (by omega)) (by rw [ek])) ?_
      refine RAny.tk 3 (bl 9 15) rfl (by kernel_rfl) (by decide) (fun W h => h.holds (Le.refl _) (by first | exact mp rfl | exact mq rfl)) (Yld.eval T rfl rfl) ?_
      refine RAny.tk 4 (bl 9 31) rfl (by kernel_rfl) (by decide) (fun W h => h.holds (Le.refl _) (by first | exact mp rfl | exact mq rfl)) (Yld.eval T rfl rfl) ?_
      refine RAny.tk 5 (bl 9 63) rfl (by kernel_rfl) (by decide) (fun W h => h.holds (Le.refl _) (by first | exact mp rfl | exact mq rfl)) (Yld.add rfl rfl rfl (wI (by omega) (by omega))) ?_
      refine RAny.tk 6 (bl 9 127) rfl (by kernel_rfl) (by decide) (fun W h => h.holds (Le.refl _) (by first | exact mp rfl | exact mq rfl)) (Yld.as (v' := str (s.drop (k + 1))) (Yld.sliceLo T rfl rfl rfl rfl (by omega) (by omega)) (by congr 2)) ?_
      refine RAny.tk 7 (bl 9 255) rfl (by kernel_rfl) (by decide) (fun W h => h.holds (Le.refl _) (by first | exact mp rfl | exact mq rfl)) (Yld.eval T rfl rfl) ?_
      refine RAny.tk 8 (bl 9 511) rfl (by kernel_rfl) (by decide) (fun W h => h.holds (Le.refl _) (by first | exact mp rfl | exact mq rfl)) (Yld.eval T rfl rfl) ?_
      refine RAny.done _ (by kernel_rfl) ?_
      repeat (first | refine Run.seq ?_ | refine Run.region ?_ | refine Ops.pure T rfl (by decide) rfl ?_)
      refine Ops.call ((spec_tagGood J2 (s.drop (k + 1)) (by simp; omega))) rfl (by decide) call50 rfl ?_
      rintro _ J3 l3 rfl
      cases htg : tagGood (s.drop (k + 1)) with
      | false =>
        repeat (first | refine Run.seq ?_ | refine Run.region ?_ | refine Ops.nil ?_ | refine Run.cond_t rfl ?_ | refine Ops.pure T rfl (by decide) rfl ?_)
        refine Run.fin (Run.ret5 (by rw [hCf]; exact func13) results13 rfl rfl rfl rfl rfl (hR _ _ _ ?_))
        refine ⟨rfl, ?_⟩
        unfold sTag
        rw [hct]
        simp only [htg]
        rfl
      | true =>
        have hne := (tagGood_no htg).2.2.2
        repeat (first | refine Run.seq ?_ | refine Run.region ?_ | refine Ops.nil ?_ | refine Run.skip ?_ | refine Run.cond_f rfl ?_ | refine Ops.eqlStr rfl (by decide) rfl rfl ?_ | refine Ops.pure T rfl (by decide) rfl ?_)
        rw [decide_eq_false hne]
        repeat (first | refine Run.seq ?_ | refine Run.region ?_ | refine Run.skip ?_ | refine Run.cond_f rfl ?_ | refine Ops.pure T rfl (by decide) rfl ?_ | refine Ops.loadN 0 rfl (by decide) rfl rfl (T.aggOk rfl) (T.sizeOk rfl) rfl rfl ?_)
        refine Ops.call ((spec_repositoryOf J3 (s.take k) ⟨st, ins, reg, tag⟩ (by first | (simp; done) | (simp; omega) | omega))) rfl (by decide) call12 rfl ?_
        rintro _ J8 l8 rfl
        unfold t4
        repeat (first | refine Run.seq ?_ | refine Run.region ?_ | refine Ops.nil ?_ | refine Ops.pure T rfl (by decide) rfl ?_)
        refine Run.fin (Run.ret5 (by rw [hCf]; exact func13) results13 rfl rfl rfl rfl rfl (hR _ _ _ ?_))
        refine ⟨rfl, ?_⟩
        unfold sTag
        rw [hct]
        simp only [htg, if_true]
        rfl
set_option maxHeartbeats 8000000 in
theorem spec_digestOf (I : Imm) (s : Tx) (o : NOpt) (hs : s.length ≤ 4620000000000000000) : Pure prog 14 [str s, .agg o.cs.toArray] I fun w J => w = t5 (sDig o s) := by
  obtain ⟨st, ins, reg, tag⟩ := o
  refine Spec.enter 88 [(0, _), (1, _)] func14 rfl ntmps14 (by simp) rfl ?_
  intro C hCf hR hCI
  repeat (first | refine Run.seq ?_ | refine Run.region ?_)
  refine Ops.box rfl (by decide) rfl rfl (fun b => ?_)
  repeat (first | refine Run.seq ?_ | refine Run.region ?_ | refine Ops.nil ?_ | refine Ops.pure T rfl (by decide) rfl ?_)
  refine Ops.call ((spec_firstOf s 64 I (by omega))) rfl (by decide) call47 rfl ?_
  rintro _ J1 l1 rfl
  cases hk : ix 64 s with
  | none =>
    rw [ixI_none hk]
    repeat (first | refine Run.seq ?_ | refine Run.region ?_ | refine Ops.nil ?_ | refine Run.cond_t rfl ?_ | refine Ops.not rfl (by decide) ?_ | refine Ops.lss rfl (by decide) rfl rfl ?_ | refine Ops.pure T rfl (by decide) rfl ?_)
    refine Run.fin (Run.ret5 (by rw [hCf]; exact func14) results14 rfl rfl rfl rfl rfl (hR _ _ _ ?_))
    refine ⟨rfl, ?_⟩
    unfold sDig
    rw [hk]
    rfl
  | some k =>
  rw [ixI_eq hk]
  have hlt := ix_lt hk
  repeat (first | refine Run.seq ?_ | refine Run.region ?_ | refine Ops.nil ?_ | refine Ops.lss rfl (by decide) rfl rfl ?_ | refine Ops.pure T rfl (by decide) rfl ?_)
  rw [decide_eq_false (show ¬ (k : Int) < 0 by omega)]
  skip
  refine Ops.call ((spec_lastOf s 64 J1 (by omega))) rfl (by decide) call49 rfl ?_
  rintro _ J2 l2 rfl
  repeat (first | refine Ops.nil ?_ | refine Ops.neq rfl (by decide) rfl rfl ?_ | refine Ops.pure T rfl (by decide) rfl ?_)
  rw [lxI_iff]
  cases hl : decide (lx 64 s = some k) with
  | false =>
    repeat (first | refine Run.seq ?_ | refine Run.region ?_ | refine Ops.nil ?_ | refine Run.cond_t rfl ?_ | refine Ops.pure T rfl (by decide) rfl ?_)
    refine Run.fin (Run.ret5 (by rw [hCf]; exact func14) results14 rfl rfl rfl rfl rfl (hR _ _ _ ?_))
    refine ⟨rfl, ?_⟩
    unfold sDig
    rw [hk]
    simp only [if_neg (of_decide_eq_false hl)]
    rfl
  | true =>
  have hl' := of_decide_eq_true hl
  repeat (first | refine Run.seq ?_ | refine Run.region ?_ | refine Ops.nil ?_ | refine Run.skip ?_ | refine Run.cond_f rfl ?_ | refine Ops.add rfl (by decide) rfl rfl (wI (by first | omega | (simp only [List.length_cons, List.length_nil] ; omega) | (simp; omega)) (by first | omega | (simp only [List.length_cons, List.length_nil] ; omega) | (simp; omega))) ?_ | refine Ops.pure T rfl (by decide) rfl ?_ | refine Ops.sliceStrLo rfl (by decide) (T.undOk rfl) rfl rfl (by first | omega | (simp only [List.length_cons, List.length_nil] ; omega) | (simp; omega)) (by first | omega | (simp only [List.length_cons, List.length_nil] ; omega) | (simp; omega)) ?_)
  have ek1 : ((k : Int) + 1).toNat = k + 1 := by omega
  rw [ek1]
  have hdl : (s.drop (k + 1)).length ≤ s.length := by simp
  refine Ops.call ((spec_digestGood J2 (s.drop (k + 1)) (by omega))) rfl (by decide) call51 rfl ?_
  rintro _ J3 l3 rfl
  cases hdg : digGood (s.drop (k + 1)) with
  | false =>
    repeat (first | refine Run.seq ?_ | refine Ops.nil ?_ | refine Run.cond_t rfl ?_ | refine Ops.pure T rfl (by decide) rfl ?_)
    refine Run.regionAny (Holds J3 []) (bl 18 0) (by kernel_rfl) (by kernel_rfl) ?_
    refine RAny.tk 0 (bl 18 1) rfl (by kernel_rfl) (by decide) (fun W h => h.holds (Le.refl _) (by first | exact mp rfl | exact mq rfl)) (Yld.eval T rfl rfl) ?_
    refine RAny.tk 1 (bl 18 3) rfl (by kernel_rfl) (by decide) (fun W h => h.holds (Le.refl _) (by first | exact mp rfl | exact mq rfl)) (Yld.lenS T rfl rfl rfl) ?_
    cases c0 : decide (7 < (s.drop (k + 1)).length) with
    | false =>
      skip
      refine RAny.tk 2 (bl 18 7) rfl (by kernel_rfl) (by decide) (fun W h => h.holds (Le.refl _) (by first | exact mp rfl | exact mq rfl)) (Yld.as (v' := .bool false) (Yld.gtr rfl rfl rfl) (by congr 1; rw [← c0, decide_eq_decide]; omega)) ?_
      refine RAny.tk 3 (bl 18 15) rfl (by kernel_rfl) (by decide) (fun W h => h.holds (Le.refl _) (by first | exact mp rfl | exact mq rfl)) (Yld.eval T rfl rfl) ?_
      first | refine RAny.tk 4 (bl 18 31) rfl (by kernel_rfl) (by decide) (fun W h => h.holds (Le.refl _) (by first | exact mp rfl | exact mq rfl)) (Yld.eval T rfl rfl) ?_ | refine RAny.tk 4 (bl 18 31) rfl (by kernel_rfl) (by decide) (fun W h => h.holds (Le.refl _) (by first | exact mp rfl | exact mq rfl)) (Yld.off rfl) ?_ | refine RAny.tu 4 (bl 18 31) rfl (by kernel_rfl) (by decide) (fun W h => h.holds (Le.refl _) (by first | exact mp rfl | exact mq rfl)) rfl ?_
      first | refine RAny.tk 5 (bl 18 63) rfl (by kernel_rfl) (by decide) (fun W h => h.holds (Le.refl _) (by first | exact mp rfl | exact mq rfl)) (Yld.eval T rfl rfl) ?_ | refine RAny.tk 5 (bl 18 63) rfl (by kernel_rfl) (by decide) (fun W h => h.holds (Le.refl _) (by first | exact mp rfl | exact mq rfl)) (Yld.off rfl) ?_ | refine RAny.tu 5 (bl 18 63) rfl (by kernel_rfl) (by decide) (fun W h => h.holds (Le.refl _) (by first | exact mp rfl | exact mq rfl)) rfl ?_
      first | refine RAny.tk 6 (bl 18 127) rfl (by kernel_rfl) (by decide) (fun W h => h.holds (Le.refl _) (by first | exact mp rfl | exact mq rfl)) (Yld.eval T rfl rfl) ?_ | refine RAny.tk 6 (bl 18 127) rfl (by kernel_rfl) (by decide) (fun W h => h.holds (Le.refl _) (by first | exact mp rfl | exact mq rfl)) (Yld.off rfl) ?_ | refine RAny.tu 6 (bl 18 127) rfl (by kernel_rfl) (by decide) (fun W h => h.holds (Le.refl _) (by first | exact mp rfl | exact mq rfl)) rfl ?_
      first | refine RAny.tk 7 (bl 18 255) rfl (by kernel_rfl) (by decide) (fun W h => h.holds (Le.refl _) (by first | exact mp rfl | exact mq rfl)) (Yld.eval T rfl rfl) ?_ | refine RAny.tk 7 (bl 18 255) rfl (by kernel_rfl) (by decide) (fun W h => h.holds (Le.refl _) (by first | exact mp rfl | exact mq rfl)) (Yld.off rfl) ?_ | refine RAny.tu 7 (bl 18 255) rfl (by kernel_rfl) (by decide) (fun W h => h.holds (Le.refl _) (by first | exact mp rfl | exact mq rfl)) rfl ?_
      first | refine RAny.tk 8 (bl 18 511) rfl (by kernel_rfl) (by decide) (fun W h => h.holds (Le.refl _) (by first | exact mp rfl | exact mq rfl)) (Yld.eval T rfl rfl) ?_ | refine RAny.tk 8 (bl 18 511) rfl (by kernel_rfl) (by decide) (fun W h => h.holds (Le.refl _) (by first | exact mp rfl | exact mq rfl)) (Yld.off rfl) ?_ | refine RAny.tu 8 (bl 18 511) rfl (by kernel_rfl) (by decide) (fun W h => h.holds (Le.refl _) (by first | exact mp rfl | exact mq rfl)) rfl ?_
      first | refine RAny.tk 9 (bl 18 1023) rfl (by kernel_rfl) (by decide) (fun W h => h.holds (Le.refl _) (by first | exact mp rfl | exact mq rfl)) (Yld.eval T rfl rfl) ?_ | refine RAny.tk 9 (bl 18 1023) rfl (by kernel_rfl) (by decide) (fun W h => h.holds (Le.refl _) (by first | exact mp rfl | exact mq rfl)) (Yld.off rfl) ?_ | refine RAny.tu 9 (bl 18 1023) rfl (by kernel_rfl) (by decide) (fun W h => h.holds (Le.refl _) (by first | exact mp rfl | exact mq rfl)) rfl ?_
      first | refine RAny.tk 10 (bl 18 2047) rfl (by kernel_rfl) (by decide) (fun W h => h.holds (Le.refl _) (by first | exact mp rfl | exact mq rfl)) (Yld.eval T rfl rfl) ?_ | refine RAny.tk 10 (bl 18 2047) rfl (by kernel_rfl) (by decide) (fun W h => h.holds (Le.refl _) (by first | exact mp rfl | exact mq rfl)) (Yld.off rfl) ?_ | refine RAny.tu 10 (bl 18 2047) rfl (by kernel_rfl) (by decide) (fun W h => h.holds (Le.refl _) (by first | exact mp rfl | exact mq rfl)) rfl ?_
      first | refine RAny.tk 11 (bl 18 4095) rfl (by kernel_rfl) (by decide) (fun W h => h.holds (Le.refl _) (by first | exact mp rfl | exact mq rfl)) (Yld.eval T rfl rfl) ?_ | refine RAny.tk 11 (bl 18 4095) rfl (by kernel_rfl) (by decide) (fun W h => h.holds (Le.refl _) (by first | exact mp rfl | exact mq rfl)) (Yld.off rfl) ?_ | refine RAny.tu 11 (bl 18 4095) rfl (by kernel_rfl) (by decide) (fun W h => h.holds (Le.refl _) (by first | exact mp rfl | exact mq rfl)) rfl ?_
      refine RAny.tk 12 (bl 18 8191) rfl (by kernel_rfl) (by decide) (fun W h => h.holds (Le.refl _) (by first | exact mp rfl | exact mq rfl)) (Yld.eval T rfl rfl) ?_
      refine RAny.tk 13 (bl 18 16383) rfl (by kernel_rfl) (by decide) (fun W h => h.holds (Le.refl _) (by first | exact mp rfl | exact mq rfl)) (Yld.eval T rfl rfl) ?_
      refine RAny.tk 14 (bl 18 32767) rfl (by kernel_rfl) (by decide) (fun W h => h.holds (Le.refl _) (by first | exact mp rfl | exact mq rfl)) (Yld.eval T rfl rfl) ?_
      refine RAny.tk 15 (bl 18 65535) rfl (by kernel_rfl) (by decide) (fun W h => h.holds (Le.refl _) (by first | exact mp rfl | exact mq rfl)) (Yld.eval T rfl rfl) ?_
      refine RAny.tk 16 (bl 18 131071) rfl (by kernel_rfl) (by decide) (fun W h => h.holds (Le.refl _) (by first | exact mp rfl | exact mq rfl)) (Yld.eval T rfl rfl) ?_
      refine RAny.tk 17 (bl 18 262143) rfl (by kernel_rfl) (by decide) (fun W h => h.holds (Le.refl _) (by first | exact mp rfl | exact mq rfl)) (Yld.eval T rfl rfl) ?_
      refine RAny.done _ (by kernel_rfl) ?_
      skip
      refine Run.fin (Run.ret5 (by rw [hCf]; exact func14) results14 rfl rfl rfl rfl rfl (hR _ _ _ ?_))
      refine ⟨rfl, ?_⟩
      unfold sDig
      rw [hk]
      simp only [hl', if_true, hdg, Bool.false_eq_true, if_false]
      simp only [otherDig, c0, Bool.true_and, Bool.false_and, Bool.true_or, Bool.false_or]
      rfl
      skip
    | true =>
      have c0' := of_decide_eq_true c0
      refine RAny.tk 2 (bl 18 7) rfl (by kernel_rfl) (by decide) (fun W h => h.holds (Le.refl _) (by first | exact mp rfl | exact mq rfl)) (Yld.as (v' := .bool true) (Yld.gtr rfl rfl rfl) (by congr 1; rw [← c0, decide_eq_decide]; omega)) ?_
      refine RAny.tk 3 (bl 18 15) rfl (by kernel_rfl) (by decide) (fun W h => h.holds (Le.refl _) (by first | exact mp rfl | exact mq rfl)) (Yld.eval T rfl rfl) ?_
      first | refine RAny.tk 4 (bl 18 31) rfl (by kernel_rfl) (by decide) (fun W h => h.holds (Le.refl _) (by first | exact mp rfl | exact mq rfl)) (Yld.eval T rfl rfl) ?_ | refine RAny.tk 4 (bl 18 31) rfl (by kernel_rfl) (by decide) (fun W h => h.holds (Le.refl _) (by first | exact mp rfl | exact mq rfl)) (Yld.off rfl) ?_ | refine RAny.tu 4 (bl 18 31) rfl (by kernel_rfl) (by decide) (fun W h => h.holds (Le.refl _) (by first | exact mp rfl | exact mq rfl)) rfl ?_
      refine RAny.tk 5 (bl 18 63) rfl (by kernel_rfl) (by decide) (fun W h => h.holds (Le.refl _) (by first | exact mp rfl | exact mq rfl)) (Yld.as (v' := str ((s.drop (k + 1)).take 7)) (Yld.sliceHi T rfl rfl rfl rfl (by omega) (by omega)) rfl) ?_
      refine RAny.tk 6 (bl 18 127) rfl (by kernel_rfl) (by decide) (fun W h => h.holds (Le.refl _) (by first | exact mp rfl | exact mq rfl)) (Yld.eqlS rfl rfl rfl) ?_
      cases c1 : decide ((s.drop (k + 1)).take 7 = [115, 104, 97, 51, 56, 52, 58]) with
      | true =>
        skip
        first | refine RAny.tk 7 (bl 18 255) rfl (by kernel_rfl) (by decide) (fun W h => h.holds (Le.refl _) (by first | exact mp rfl | exact mq rfl)) (Yld.eval T rfl rfl) ?_ | refine RAny.tk 7 (bl 18 255) rfl (by kernel_rfl) (by decide) (fun W h => h.holds (Le.refl _) (by first | exact mp rfl | exact mq rfl)) (Yld.off rfl) ?_ | refine RAny.tu 7 (bl 18 255) rfl (by kernel_rfl) (by decide) (fun W h => h.holds (Le.refl _) (by first | exact mp rfl | exact mq rfl)) rfl ?_
        first | refine RAny.tk 8 (bl 18 511) rfl (by kernel_rfl) (by decide) (fun W h => h.holds (Le.refl _) (by first | exact mp rfl | exact mq rfl)) (Yld.eval T rfl rfl) ?_ | refine RAny.tk 8 (bl 18 511) rfl (by kernel_rfl) (by decide) (fun W h => h.holds (Le.refl _) (by first | exact mp rfl | exact mq rfl)) (Yld.off rfl) ?_ | refine RAny.tu 8 (bl 18 511) rfl (by kernel_rfl) (by decide) (fun W h => h.holds (Le.refl _) (by first | exact mp rfl | exact mq rfl)) rfl ?_
        first | refine RAny.tk 9 (bl 18 1023) rfl (by kernel_rfl) (by decide) (fun W h => h.holds (Le.refl _) (by first | exact mp rfl | exact mq rfl)) (Yld.eval T rfl rfl) ?_ | refine RAny.tk 9 (bl 18 1023) rfl (by kernel_rfl) (by decide) (fun W h => h.holds (Le.refl _) (by first | exact mp rfl | exact mq rfl)) (Yld.off rfl) ?_ | refine RAny.tu 9 (bl 18 1023) rfl (by kernel_rfl) (by decide) (fun W h => h.holds (Le.refl _) (by first | exact mp rfl | exact mq rfl)) rfl ?_
        first | refine RAny.tk 10 (bl 18 2047) rfl (by kernel_rfl) (by decide) (fun W h => h.holds (Le.refl _) (by first | exact mp rfl | exact mq rfl)) (Yld.eval T rfl rfl) ?_ | refine RAny.tk 10 (bl 18 2047) rfl (by kernel_rfl) (by decide) (fun W h => h.holds (Le.refl _) (by first | exact mp rfl | exact mq rfl)) (Yld.off rfl) ?_ | refine RAny.tu 10 (bl 18 2047) rfl (by kernel_rfl) (by decide) (fun W h => h.holds (Le.refl _) (by first | exact mp rfl | exact mq rfl)) rfl ?_
        first | refine RAny.tk 11 (bl 18 4095) rfl (by kernel_rfl) (by decide) (fun W h => h.holds (Le.refl _) (by first | exact mp rfl | exact mq rfl)) (Yld.eval T rfl rfl) ?_ | refine RAny.tk 11 (bl 18 4095) rfl (by kernel_rfl) (by decide) (fun W h => h.holds (Le.refl _) (by first | exact mp rfl | exact mq rfl)) (Yld.off rfl) ?_ | refine RAny.tu 11 (bl 18 4095) rfl (by kernel_rfl) (by decide) (fun W h => h.holds (Le.refl _) (by first | exact mp rfl | exact mq rfl)) rfl ?_
        refine RAny.tk 12 (bl 18 8191) rfl (by kernel_rfl) (by decide) (fun W h => h.holds (Le.refl _) (by first | exact mp rfl | exact mq rfl)) (Yld.eval T rfl rfl) ?_
        refine RAny.tk 13 (bl 18 16383) rfl (by kernel_rfl) (by decide) (fun W h => h.holds (Le.refl _) (by first | exact mp rfl | exact mq rfl)) (Yld.eval T rfl rfl) ?_
        refine RAny.tk 14 (bl 18 32767) rfl (by kernel_rfl) (by decide) (fun W h => h.holds (Le.refl _) (by first | exact mp rfl | exact mq rfl)) (Yld.eval T rfl rfl) ?_
        refine RAny.tk 15 (bl 18 65535) rfl (by kernel_rfl) (by decide) (fun W h => h.holds (Le.refl _) (by first | exact mp rfl | exact mq rfl)) (Yld.eval T rfl rfl) ?_
        refine RAny.tk 16 (bl 18 131071) rfl (by kernel_rfl) (by decide) (fun W h => h.holds (Le.refl _) (by first | exact mp rfl | exact mq rfl)) (Yld.eval T rfl rfl) ?_
        refine RAny.tk 17 (bl 18 262143) rfl (by kernel_rfl) (by decide) (fun W h => h.holds (Le.refl _) (by first | exact mp rfl | exact mq rfl)) (Yld.eval T rfl rfl) ?_
        refine RAny.done _ (by kernel_rfl) ?_
        skip
        refine Run.fin (Run.ret5 (by rw [hCf]; exact func14) results14 rfl rfl rfl rfl rfl (hR _ _ _ ?_))
        refine ⟨rfl, ?_⟩
        unfold sDig
        rw [hk]
        simp only [hl', if_true, hdg, Bool.false_eq_true, if_false]
        simp only [otherDig, c0, c1, Bool.true_and, Bool.false_and, Bool.true_or, Bool.false_or]
        rfl
        skip
      | false =>
        first | refine RAny.tk 7 (bl 18 255) rfl (by kernel_rfl) (by decide) (fun W h => h.holds (Le.refl _) (by first | exact mp rfl | exact mq rfl)) (Yld.eval T rfl rfl) ?_ | refine RAny.tk 7 (bl 18 255) rfl (by kernel_rfl) (by decide) (fun W h => h.holds (Le.refl _) (by first | exact mp rfl | exact mq rfl)) (Yld.off rfl) ?_ | refine RAny.tu 7 (bl 18 255) rfl (by kernel_rfl) (by decide) (fun W h => h.holds (Le.refl _) (by first | exact mp rfl | exact mq rfl)) rfl ?_
        first | refine RAny.tk 8 (bl 18 511) rfl (by kernel_rfl) (by decide) (fun W h => h.holds (Le.refl _) (by first | exact mp rfl | exact mq rfl)) (Yld.eval T rfl rfl) ?_ | refine RAny.tk 8 (bl 18 511) rfl (by kernel_rfl) (by decide) (fun W h => h.holds (Le.refl _) (by first | exact mp rfl | exact mq rfl)) (Yld.off rfl) ?_ | refine RAny.tu 8 (bl 18 511) rfl (by kernel_rfl) (by decide) (fun W h => h.holds (Le.refl _) (by first | exact mp rfl | exact mq rfl)) rfl ?_
        refine RAny.tk 9 (bl 18 1023) rfl (by kernel_rfl) (by decide) (fun W h => h.holds (Le.refl _) (by first | exact mp rfl | exact mq rfl)) (Yld.as (v' := str ((s.drop (k + 1)).take 7)) (Yld.sliceHi T rfl rfl rfl rfl (by omega) (by omega)) rfl) ?_
        refine RAny.tk 10 (bl 18 2047) rfl (by kernel_rfl) (by decide) (fun W h => h.holds (Le.refl _) (by first | exact mp rfl | exact mq rfl)) (Yld.eqlS rfl rfl rfl) ?_
        first | refine RAny.tk 11 (bl 18 4095) rfl (by kernel_rfl) (by decide) (fun W h => h.holds (Le.refl _) (by first | exact mp rfl | exact mq rfl)) (Yld.eval T rfl rfl) ?_ | refine RAny.tk 11 (bl 18 4095) rfl (by kernel_rfl) (by decide) (fun W h => h.holds (Le.refl _) (by first | exact mp rfl | exact mq rfl)) (Yld.off rfl) ?_ | refine RAny.tu 11 (bl 18 4095) rfl (by kernel_rfl) (by decide) (fun W h => h.holds (Le.refl _) (by first | exact mp rfl | exact mq rfl)) rfl ?_
        refine RAny.tk 12 (bl 18 8191) rfl (by kernel_rfl) (by decide) (fun W h => h.holds (Le.refl _) (by first | exact mp rfl | exact mq rfl)) (Yld.eval T rfl rfl) ?_
        refine RAny.tk 13 (bl 18 16383) rfl (by kernel_rfl) (by decide) (fun W h => h.holds (Le.refl _) (by first | exact mp rfl | exact mq rfl)) (Yld.eval T rfl rfl) ?_
        refine RAny.tk 14 (bl 18 32767) rfl (by kernel_rfl) (by decide) (fun W h => h.holds (Le.refl _) (by first | exact mp rfl | exact mq rfl)) (Yld.eval T rfl rfl) ?_
        refine RAny.tk 15 (bl 18 65535) rfl (by kernel_rfl) (by decide) (fun W h => h.holds (Le.refl _) (by first | exact mp rfl | exact mq rfl)) (Yld.eval T rfl rfl) ?_
        refine RAny.tk 16 (bl 18 131071) rfl (by kernel_rfl) (by decide) (fun W h => h.holds (Le.refl _) (by first | exact mp rfl | exact mq rfl)) (Yld.eval T rfl rfl) ?_
        refine RAny.tk 17 (bl 18 262143) rfl (by kernel_rfl) (by decide) (fun W h => h.holds (Le.refl _) (by first | exact mp rfl | exact mq rfl)) (Yld.eval T rfl rfl) ?_
        refine RAny.done _ (by kernel_rfl) ?_
        skip
        refine Run.fin (Run.ret5 (by rw [hCf]; exact func14) results14 rfl rfl rfl rfl rfl (hR _ _ _ ?_))
        refine ⟨rfl, ?_⟩
        unfold sDig
        rw [hk]
        simp only [hl', if_true, hdg, Bool.false_eq_true, if_false]
        simp only [otherDig, c0, c1, Bool.true_and, Bool.false_and, Bool.true_or, Bool.false_or]
        rfl
  | true =>
  repeat (first | refine Run.seq ?_ | refine Run.region ?_ | refine Ops.nil ?_ | refine Run.skip ?_ | refine Run.cond_f rfl ?_ | refine Ops.pure T rfl (by decide) rfl ?_ | refine Ops.sliceStrHi rfl (by decide) (T.undOk rfl) rfl rfl (by first | omega | (simp only [List.length_cons, List.length_nil] ; omega) | (simp; omega)) (by first | omega | (simp only [List.length_cons, List.length_nil] ; omega) | (simp; omega)) ?_)
  have ek : ((k : Int)).toNat = k := by omega
  rw [ek]
  have htl : (s.take k).length ≤ s.length := by simp; omega
  refine Ops.call ((spec_lastOf (s.take k) 58 J3 (by omega))) rfl (by decide) call49 rfl ?_
  rintro _ J4 l4 rfl
  cases hj : lx 58 (s.take k) with
  | none =>
    rw [lxI_none hj]
    have hoff : offTag (s.take k) = s.take k := by simp [offTag, cutTag, hj]
    repeat (first | refine Run.seq ?_ | refine Run.region ?_ | refine Ops.nil ?_ | refine Run.skip ?_ | refine Run.cond_f rfl ?_ | refine Ops.not rfl (by decide) ?_ | refine Ops.geq rfl (by decide) rfl rfl ?_ | refine Ops.pure T rfl (by decide) rfl ?_ | refine Ops.loadN 0 rfl (by decide) rfl rfl (T.aggOk rfl) (T.sizeOk rfl) rfl rfl ?_)
    have hbl : (s.take k : Tx).length ≤ s.length := by first | (simp; done) | (simp; omega) | omega
    refine Ops.call ((spec_repositoryOf' J4 (s.take k) st ins reg tag (by omega))) rfl (by decide) call12 rfl ?_
    rintro _ J8 l8 rfl
    unfold t4
    have hd0 : sDig ⟨st, ins, reg, tag⟩ s = ((sRepo st reg (s.take k)).1, (sRepo st reg (s.take k)).2.1, s.drop (k + 1), (sRepo st reg (s.take k)).2.2.1, (sRepo st reg (s.take k)).2.2.2 || decide (255 < (sRepo st reg (s.take k)).2.1.length)) := by
      unfold sDig
      rw [hk]
      simp only [hl', if_true, hdg, hoff]
    generalize (sRepo st reg (s.take k)).1 = r at *
    generalize (sRepo st reg (s.take k)).2.1 = p at *
    generalize (sRepo st reg (s.take k)).2.2.1 = ok at *
    generalize (sRepo st reg (s.take k)).2.2.2 = op at *
    repeat (first | refine Run.seq ?_ | refine Ops.nil ?_ | refine Ops.pure T rfl (by decide) rfl ?_)
    refine Run.regionAny (Holds J8 []) (bl 18 0) (by kernel_rfl) (by kernel_rfl) ?_
    refine RAny.tk 0 (bl 18 1) rfl (by kernel_rfl) (by decide) (fun W h => h.holds (Le.refl _) (by first | exact mp rfl | exact mq rfl)) (Yld.eval T rfl rfl) ?_
    refine RAny.tk 1 (bl 18 3) rfl (by kernel_rfl) (by decide) (fun W h => h.holds (Le.refl _) (by first | exact mp rfl | exact mq rfl)) (Yld.eval T rfl rfl) ?_
    refine RAny.tk 2 (bl 18 7) rfl (by kernel_rfl) (by decide) (fun W h => h.holds (Le.refl _) (by first | exact mp rfl | exact mq rfl)) (Yld.eval T rfl rfl) ?_
    refine RAny.tk 3 (bl 18 15) rfl (by kernel_rfl) (by decide) (fun W h => h.holds (Le.refl _) (by first | exact mp rfl | exact mq rfl)) (Yld.eval T rfl rfl) ?_
    refine RAny.tk 4 (bl 18 31) rfl (by kernel_rfl) (by decide) (fun W h => h.holds (Le.refl _) (by first | exact mp rfl | exact mq rfl)) (Yld.add rfl rfl rfl (wI (by omega) (by omega))) ?_
    refine RAny.tk 5 (bl 18 63) rfl (by kernel_rfl) (by decide) (fun W h => h.holds (Le.refl _) (by first | exact mp rfl | exact mq rfl)) (Yld.as (v' := str (s.drop (k + 1))) (Yld.sliceLo T rfl rfl rfl rfl (by omega) (by omega)) (by congr 2)) ?_
    refine RAny.tk 6 (bl 18 127) rfl (by kernel_rfl) (by decide) (fun W h => h.holds (Le.refl _) (by first | exact mp rfl | exact mq rfl)) (Yld.eval T rfl rfl) ?_
    refine RAny.tk 7 (bl 18 255) rfl (by kernel_rfl) (by decide) (fun W h => h.holds (Le.refl _) (by first | exact mp rfl | exact mq rfl)) (Yld.eval T rfl rfl) ?_
    refine RAny.tk 8 (bl 18 511) rfl (by kernel_rfl) (by decide) (fun W h => h.holds (Le.refl _) (by first | exact mp rfl | exact mq rfl)) (Yld.eval T rfl rfl) ?_
    cases op with
    | true =>
      skip
      first | refine RAny.tk 9 (bl 18 1023) rfl (by kernel_rfl) (by decide) (fun W h => h.holds (Le.refl _) (by first | exact mp rfl | exact mq rfl)) (Yld.eval T rfl rfl) ?_ | refine RAny.tk 9 (bl 18 1023) rfl (by kernel_rfl) (by decide) (fun W h => h.holds (Le.refl _) (by first | exact mp rfl | exact mq rfl)) (Yld.off rfl) ?_ | refine RAny.tu 9 (bl 18 1023) rfl (by kernel_rfl) (by decide) (fun W h => h.holds (Le.refl _) (by first | exact mp rfl | exact mq rfl)) rfl ?_
      first | refine RAny.tk 10 (bl 18 2047) rfl (by kernel_rfl) (by decide) (fun W h => h.holds (Le.refl _) (by first | exact mp rfl | exact mq rfl)) (Yld.eval T rfl rfl) ?_ | refine RAny.tk 10 (bl 18 2047) rfl (by kernel_rfl) (by decide) (fun W h => h.holds (Le.refl _) (by first | exact mp rfl | exact mq rfl)) (Yld.off rfl) ?_ | refine RAny.tu 10 (bl 18 2047) rfl (by kernel_rfl) (by decide) (fun W h => h.holds (Le.refl _) (by first | exact mp rfl | exact mq rfl)) rfl ?_
      first | refine RAny.tk 11 (bl 18 4095) rfl (by kernel_rfl) (by decide) (fun W h => h.holds (Le.refl _) (by first | exact mp rfl | exact mq rfl)) (Yld.eval T rfl rfl) ?_ | refine RAny.tk 11 (bl 18 4095) rfl (by kernel_rfl) (by decide) (fun W h => h.holds (Le.refl _) (by first | exact mp rfl | exact mq rfl)) (Yld.off rfl) ?_ | refine RAny.tu 11 (bl 18 4095) rfl (by kernel_rfl) (by decide) (fun W h => h.holds (Le.refl _) (by first | exact mp rfl | exact mq rfl)) rfl ?_
      refine RAny.tk 12 (bl 18 8191) rfl (by kernel_rfl) (by decide) (fun W h => h.holds (Le.refl _) (by first | exact mp rfl | exact mq rfl)) (Yld.eval T rfl rfl) ?_
      refine RAny.tk 13 (bl 18 16383) rfl (by kernel_rfl) (by decide) (fun W h => h.holds (Le.refl _) (by first | exact mp rfl | exact mq rfl)) (Yld.eval T rfl rfl) ?_
      refine RAny.tk 14 (bl 18 32767) rfl (by kernel_rfl) (by decide) (fun W h => h.holds (Le.refl _) (by first | exact mp rfl | exact mq rfl)) (Yld.eval T rfl rfl) ?_
      refine RAny.tk 15 (bl 18 65535) rfl (by kernel_rfl) (by decide) (fun W h => h.holds (Le.refl _) (by first | exact mp rfl | exact mq rfl)) (Yld.eval T rfl rfl) ?_
      refine RAny.tk 16 (bl 18 131071) rfl (by kernel_rfl) (by decide) (fun W h => h.holds (Le.refl _) (by first | exact mp rfl | exact mq rfl)) (Yld.eval T rfl rfl) ?_
      refine RAny.tk 17 (bl 18 262143) rfl (by kernel_rfl) (by decide) (fun W h => h.holds (Le.refl _) (by first | exact mp rfl | exact mq rfl)) (Yld.eval T rfl rfl) ?_
      refine RAny.done _ (by kernel_rfl) ?_
      skip
      refine Run.fin (Run.ret5 (by rw [hCf]; exact func14) results14 rfl rfl rfl rfl rfl (hR _ _ _ ?_))
      refine ⟨rfl, ?_⟩
      rw [hd0]
      rfl
      skip
    | false =>
      first | refine RAny.tk 9 (bl 18 1023) rfl (by kernel_rfl) (by decide) (fun W h => h.holds (Le.refl _) (by first | exact mp rfl | exact mq rfl)) (Yld.eval T rfl rfl) ?_ | refine RAny.tk 9 (bl 18 1023) rfl (by kernel_rfl) (by decide) (fun W h => h.holds (Le.refl _) (by first | exact mp rfl | exact mq rfl)) (Yld.off rfl) ?_ | refine RAny.tu 9 (bl 18 1023) rfl (by kernel_rfl) (by decide) (fun W h => h.holds (Le.refl _) (by first | exact mp rfl | exact mq rfl)) rfl ?_
      refine RAny.tk 10 (bl 18 2047) rfl (by kernel_rfl) (by decide) (fun W h => h.holds (Le.refl _) (by first | exact mp rfl | exact mq rfl)) (Yld.lenS T rfl rfl rfl) ?_
      refine RAny.tk 11 (bl 18 4095) rfl (by kernel_rfl) (by decide) (fun W h => h.holds (Le.refl _) (by first | exact mp rfl | exact mq rfl)) (Yld.as (v' := .bool (decide (255 < p.length))) (Yld.gtr rfl rfl rfl) (by congr 1; rw [decide_eq_decide]; omega)) ?_
      refine RAny.tk 12 (bl 18 8191) rfl (by kernel_rfl) (by decide) (fun W h => h.holds (Le.refl _) (by first | exact mp rfl | exact mq rfl)) (Yld.eval T rfl rfl) ?_
      refine RAny.tk 13 (bl 18 16383) rfl (by kernel_rfl) (by decide) (fun W h => h.holds (Le.refl _) (by first | exact mp rfl | exact mq rfl)) (Yld.eval T rfl rfl) ?_
      refine RAny.tk 14 (bl 18 32767) rfl (by kernel_rfl) (by decide) (fun W h => h.holds (Le.refl _) (by first | exact mp rfl | exact mq rfl)) (Yld.eval T rfl rfl) ?_
      refine RAny.tk 15 (bl 18 65535) rfl (by kernel_rfl) (by decide) (fun W h => h.holds (Le.refl _) (by first | exact mp rfl | exact mq rfl)) (Yld.eval T rfl rfl) ?_
      refine RAny.tk 16 (bl 18 131071) rfl (by kernel_rfl) (by decide) (fun W h => h.holds (Le.refl _) (by first | exact mp rfl | exact mq rfl)) (Yld.eval T rfl rfl) ?_
      refine RAny.tk 17 (bl 18 262143) rfl (by kernel_rfl) (by decide) (fun W h => h.holds (Le.refl _) (by first | exact mp rfl | exact mq rfl)) (Yld.eval T rfl rfl) ?_
      refine RAny.done _ (by kernel_rfl) ?_
      skip
      refine Run.fin (Run.ret5 (by rw [hCf]; exact func14) results14 rfl rfl rfl rfl rfl (hR _ _ _ ?_))
      refine ⟨rfl, ?_⟩
      rw [hd0]
      rfl
  | some j =>
    rw [lxI_eq hj]
    have hjlt := (lx_split hj).1
    have hct0 : cutTag (s.take k) = if hasB 47 ((s.take k).drop j) then none else some ((s.take k).take j, (s.take k).drop (j + 1)) := by simp only [cutTag, hj]
    repeat (first | refine Run.seq ?_ | refine Run.region ?_ | refine Ops.nil ?_ | refine Ops.geq rfl (by decide) rfl rfl ?_ | refine Ops.pure T rfl (by decide) rfl ?_ | refine Ops.sliceStrLo rfl (by decide) (T.undOk rfl) rfl rfl (by first | omega | (simp only [List.length_cons, List.length_nil] ; omega) | (simp; omega)) (by first | omega | (simp only [List.length_cons, List.length_nil] ; omega) | (simp; omega)) ?_)
    rw [decide_eq_true (show (0 : Int) ≤ (j : Int) by omega)]
    skip
    have ej : ((j : Int)).toNat = j := by omega
    rw [ej]
    refine Ops.call ((spec_firstOf ((s.take k).drop j) 47 J4 (by simp; omega))) rfl (by decide) call47 rfl ?_
    rintro _ J5 l5 rfl
    repeat (first | refine Ops.lss rfl (by decide) rfl rfl ?_ | refine Ops.pure T rfl (by decide) rfl ?_)
    rw [ixI_has']
    cases h47 : hasB 47 ((s.take k).drop j) with
    | true =>
      have hoff : offTag (s.take k) = s.take k := by unfold offTag; rw [hct0, h47]; rfl
      repeat (first | refine Run.seq ?_ | refine Run.region ?_ | refine Ops.nil ?_ | refine Run.skip ?_ | refine Run.cond_f rfl ?_ | refine Ops.not rfl (by decide) ?_ | refine Ops.pure T rfl (by decide) rfl ?_ | refine Ops.loadN 0 rfl (by decide) rfl rfl (T.aggOk rfl) (T.sizeOk rfl) rfl rfl ?_)
      have hbl : (s.take k : Tx).length ≤ s.length := by first | (simp; done) | (simp; omega) | omega
      refine Ops.call ((spec_repositoryOf' J5 (s.take k) st ins reg tag (by omega))) rfl (by decide) call12 rfl ?_
      rintro _ J8 l8 rfl
      unfold t4
      have hd0 : sDig ⟨st, ins, reg, tag⟩ s = ((sRepo st reg (s.take k)).1, (sRepo st reg (s.take k)).2.1, s.drop (k + 1), (sRepo st reg (s.take k)).2.2.1, (sRepo st reg (s.take k)).2.2.2 || decide (255 < (sRepo st reg (s.take k)).2.1.length)) := by
        unfold sDig
        rw [hk]
        simp only [hl', if_true, hdg, hoff]
      generalize (sRepo st reg (s.take k)).1 = r at *
      generalize (sRepo st reg (s.take k)).2.1 = p at *
      generalize (sRepo st reg (s.take k)).2.2.1 = ok at *
      generalize (sRepo st reg (s.take k)).2.2.2 = op at *
      repeat (first | refine Run.seq ?_ | refine Ops.nil ?_ | refine Ops.pure T rfl (by decide) rfl ?_)
      refine Run.regionAny (Holds J8 []) (bl 18 0) (by kernel_rfl) (by kernel_rfl) ?_
      refine RAny.tk 0 (bl 18 1) rfl (by kernel_rfl) (by decide) (fun W h => h.holds (Le.refl _) (by first | exact mp rfl | exact mq rfl)) (Yld.eval T rfl rfl) ?_
      refine RAny.tk 1 (bl 18 3) rfl (by kernel_rfl) (by decide) (fun W h => h.holds (Le.refl _) (by first | exact mp rfl | exact mq rfl)) (Yld.eval T rfl rfl) ?_
      refine RAny.tk 2 (bl 18 7) rfl (by kernel_rfl) (by decide) (fun W h => h.holds (Le.refl _) (by first | exact mp rfl | exact mq rfl)) (Yld.eval T rfl rfl) ?_
      refine RAny.tk 3 (bl 18 15) rfl (by kernel_rfl) (by decide) (fun W h => h.holds (Le.refl _) (by first | exact mp rfl | exact mq rfl)) (Yld.eval T rfl rfl) ?_
      refine RAny.tk 4 (bl 18 31) rfl (by kernel_rfl) (by decide) (fun W h => h.holds (Le.refl _) (by first | exact mp rfl | exact mq rfl)) (Yld.add rfl rfl rfl (wI (by omega) (by omega))) ?_
      refine RAny.tk 5 (bl 18 63) rfl (by kernel_rfl) (by decide) (fun W h => h.holds (Le.refl _) (by first | exact mp rfl | exact mq rfl)) (Yld.as (v' := str (s.drop (k + 1))) (Yld.sliceLo T rfl rfl rfl rfl (by omega) (by omega)) (by congr 2)) ?_
      refine RAny.tk 6 (bl 18 127) rfl (by kernel_rfl) (by decide) (fun W h => h.holds (Le.refl _) (by first | exact mp rfl | exact mq rfl)) (Yld.eval T rfl rfl) ?_
      refine RAny.tk 7 (bl 18 255) rfl (by kernel_rfl) (by decide) (fun W h => h.holds (Le.refl _) (by first | exact mp rfl | exact mq rfl)) (Yld.eval T rfl rfl) ?_
      refine RAny.tk 8 (bl 18 511) rfl (by kernel_rfl) (by decide) (fun W h => h.holds (Le.refl _) (by first | exact mp rfl | exact mq rfl)) (Yld.eval T rfl rfl) ?_
      cases op with
      | true =>
        skip
        first | refine RAny.tk 9 (bl 18 1023) rfl (by kernel_rfl) (by decide) (fun W h => h.holds (Le.refl _) (by first | exact mp rfl | exact mq rfl)) (Yld.eval T rfl rfl) ?_ | refine RAny.tk 9 (bl 18 1023) rfl (by kernel_rfl) (by decide) (fun W h => h.holds (Le.refl _) (by first | exact mp rfl | exact mq rfl)) (Yld.off rfl) ?_ | refine RAny.tu 9 (bl 18 1023) rfl (by kernel_rfl) (by decide) (fun W h => h.holds (Le.refl _) (by first | exact mp rfl | exact mq rfl)) rfl ?_
        first | refine RAny.tk 10 (bl 18 2047) rfl (by kernel_rfl) (by decide) (fun W h => h.holds (Le.refl _) (by first | exact mp rfl | exact mq rfl)) (Yld.eval T rfl rfl) ?_ | refine RAny.tk 10 (bl 18 2047) rfl (by kernel_rfl) (by decide) (fun W h => h.holds (Le.refl _) (by first | exact mp rfl | exact mq rfl)) (Yld.off rfl) ?_ | refine RAny.tu 10 (bl 18 2047) rfl (by kernel_rfl) (by decide) (fun W h => h.holds (Le.refl _) (by first | exact mp rfl | exact mq rfl)) rfl ?_
        first | refine RAny.tk 11 (bl 18 4095) rfl (by kernel_rfl) (by decide) (fun W h => h.holds (Le.refl _) (by first | exact mp rfl | exact mq rfl)) (Yld.eval T rfl rfl) ?_ | refine RAny.tk 11 (bl 18 4095) rfl (by kernel_rfl) (by decide) (fun W h => h.holds (Le.refl _) (by first | exact mp rfl | exact mq rfl)) (Yld.off rfl) ?_ | refine RAny.tu 11 (bl 18 4095) rfl (by kernel_rfl) (by decide) (fun W h => h.holds (Le.refl _) (by first | exact mp rfl | exact mq rfl)) rfl ?_
        refine RAny.tk 12 (bl 18 8191) rfl (by kernel_rfl) (by decide) (fun W h => h.holds (Le.refl _) (by first | exact mp rfl | exact mq rfl)) (Yld.eval T rfl rfl) ?_
        refine RAny.tk 13 (bl 18 16383) rfl (by kernel_rfl) (by decide) (fun W h => h.holds (Le.refl _) (by first | exact mp rfl | exact mq rfl)) (Yld.eval T rfl rfl) ?_
        refine RAny.tk 14 (bl 18 32767) rfl (by kernel_rfl) (by decide) (fun W h => h.holds (Le.refl _) (by first | exact mp rfl | exact mq rfl)) (Yld.eval T rfl rfl) ?_
        refine RAny.tk 15 (bl 18 65535) rfl (by kernel_rfl) (by decide) (fun W h => h.holds (Le.refl _) (by first | exact mp rfl | exact mq rfl)) (Yld.eval T rfl rfl) ?_
        refine RAny.tk 16 (bl 18 131071) rfl (by kernel_rfl) (by decide) (fun W h => h.holds (Le.refl _) (by first | exact mp rfl | exact mq rfl)) (Yld.eval T rfl rfl) ?_
        refine RAny.tk 17 (bl 18 262143) rfl (by kernel_rfl) (by decide) (fun W h => h.holds (Le.refl _) (by first | exact mp rfl | exact mq rfl)) (Yld.eval T rfl rfl) ?_
        refine RAny.done _ (by kernel_rfl) ?_
        skip
        refine Run.fin (Run.ret5 (by rw [hCf]; exact func14) results14 rfl rfl rfl rfl rfl (hR _ _ _ ?_))
        refine ⟨rfl, ?_⟩
        rw [hd0]
        rfl
        skip
      | false =>
        first | refine RAny.tk 9 (bl 18 1023) rfl (by kernel_rfl) (by decide) (fun W h => h.holds (Le.refl _) (by first | exact mp rfl | exact mq rfl)) (Yld.eval T rfl rfl) ?_ | refine RAny.tk 9 (bl 18 1023) rfl (by kernel_rfl) (by decide) (fun W h => h.holds (Le.refl _) (by first | exact mp rfl | exact mq rfl)) (Yld.off rfl) ?_ | refine RAny.tu 9 (bl 18 1023) rfl (by kernel_rfl) (by decide) (fun W h => h.holds (Le.refl _) (by first | exact mp rfl | exact mq rfl)) rfl ?_
        refine RAny.tk 10 (bl 18 2047) rfl (by kernel_rfl) (by decide) (fun W h => h.holds (Le.refl _) (by first | exact mp rfl | exact mq rfl)) (Yld.lenS T rfl rfl rfl) ?_
        refine RAny.tk 11 (bl 18 4095) rfl (by kernel_rfl) (by decide) (fun W h => h.holds (Le.refl _) (by first | exact mp rfl | exact mq rfl)) (Yld.as (v' := .bool (decide (255 < p.length))) (Yld.gtr rfl rfl rfl) (by congr 1; rw [decide_eq_decide]; omega)) ?_
        refine RAny.tk 12 (bl 18 8191) rfl (by kernel_rfl) (by decide) (fun W h => h.holds (Le.refl _) (by first | exact mp rfl | exact mq rfl)) (Yld.eval T rfl rfl) ?_
        refine RAny.tk 13 (bl 18 16383) rfl (by kernel_rfl) (by decide) (fun W h => h.holds (Le.refl _) (by first | exact mp rfl | exact mq rfl)) (Yld.eval T rfl rfl) ?_
        refine RAny.tk 14 (bl 18 32767) rfl (by kernel_rfl) (by decide) (fun W h => h.holds (Le.refl _) (by first | exact mp rfl | exact mq rfl)) (Yld.eval T rfl rfl) ?_
        refine RAny.tk 15 (bl 18 65535) rfl (by kernel_rfl) (by decide) (fun W h => h.holds (Le.refl _) (by first | exact mp rfl | exact mq rfl)) (Yld.eval T rfl rfl) ?_
        refine RAny.tk 16 (bl 18 131071) rfl (by kernel_rfl) (by decide) (fun W h => h.holds (Le.refl _) (by first | exact mp rfl | exact mq rfl)) (Yld.eval T rfl rfl) ?_
        refine RAny.tk 17 (bl 18 262143) rfl (by kernel_rfl) (by decide) (fun W h => h.holds (Le.refl _) (by first | exact mp rfl | exact mq rfl)) (Yld.eval T rfl rfl) ?_
        refine RAny.done _ (by kernel_rfl) ?_
        skip
        refine Run.fin (Run.ret5 (by rw [hCf]; exact func14) results14 rfl rfl rfl rfl rfl (hR _ _ _ ?_))
        refine ⟨rfl, ?_⟩
        rw [hd0]
        rfl
    | false =>
      repeat (first | refine Ops.add rfl (by decide) rfl rfl (wI (by first | omega | (simp only [List.length_cons, List.length_nil] ; omega) | (simp; omega)) (by first | omega | (simp only [List.length_cons, List.length_nil] ; omega) | (simp; omega))) ?_ | refine Ops.pure T rfl (by decide) rfl ?_ | refine Ops.sliceStrLo rfl (by decide) (T.undOk rfl) rfl rfl (by first | omega | (simp only [List.length_cons, List.length_nil] ; omega) | (simp; omega)) (by first | omega | (simp only [List.length_cons, List.length_nil] ; omega) | (simp; omega)) ?_)
      have ej1 : ((j : Int) + 1).toNat = j + 1 := by omega
      rw [ej1]
      refine Ops.call ((spec_tagGood J5 ((s.take k).drop (j + 1)) (by simp; omega))) rfl (by decide) call50 rfl ?_
      rintro _ J6 l6 rfl
      cases htg : tagGood ((s.take k).drop (j + 1)) with
      | false =>
        have hoff : offTag (s.take k) = s.take k := by unfold offTag; rw [hct0, h47]; simp [htg]
        repeat (first | refine Run.seq ?_ | refine Run.region ?_ | refine Ops.nil ?_ | refine Run.skip ?_ | refine Run.cond_f rfl ?_ | refine Ops.pure T rfl (by decide) rfl ?_ | refine Ops.loadN 0 rfl (by decide) rfl rfl (T.aggOk rfl) (T.sizeOk rfl) rfl rfl ?_)
        have hbl : (s.take k : Tx).length ≤ s.length := by first | (simp; done) | (simp; omega) | omega
        refine Ops.call ((spec_repositoryOf' J6 (s.take k) st ins reg tag (by omega))) rfl (by decide) call12 rfl ?_
        rintro _ J8 l8 rfl
        unfold t4
        have hd0 : sDig ⟨st, ins, reg, tag⟩ s = ((sRepo st reg (s.take k)).1, (sRepo st reg (s.take k)).2.1, s.drop (k + 1), (sRepo st reg (s.take k)).2.2.1, (sRepo st reg (s.take k)).2.2.2 || decide (255 < (sRepo st reg (s.take k)).2.1.length)) := by
          unfold sDig
          rw [hk]
          simp only [hl', if_true, hdg, hoff]
        generalize (sRepo st reg (s.take k)).1 = r at *
        generalize (sRepo st reg (s.take k)).2.1 = p at *
        generalize (sRepo st reg (s.take k)).2.2.1 = ok at *
        generalize (sRepo st reg (s.take k)).2.2.2 = op at *
        repeat (first | refine Run.seq ?_ | refine Ops.nil ?_ | refine Ops.pure T rfl (by decide) rfl ?_)
        refine Run.regionAny (Holds J8 []) (bl 18 0) (by kernel_rfl) (by kernel_rfl) ?_
        refine RAny.tk 0 (bl 18 1) rfl (by kernel_rfl) (by decide) (fun W h => h.holds (Le.refl _) (by first | exact mp rfl | exact mq rfl)) (Yld.eval T rfl rfl) ?_
        refine RAny.tk 1 (bl 18 3) rfl (by kernel_rfl) (by decide) (fun W h => h.holds (Le.refl _) (by first | exact mp rfl | exact mq rfl)) (Yld.eval T rfl rfl) ?_
        refine RAny.tk 2 (bl 18 7) rfl (by kernel_rfl) (by decide) (fun W h => h.holds (Le.refl _) (by first | exact mp rfl | exact mq rfl)) (Yld.eval T rfl rfl) ?_
        refine RAny.tk 3 (bl 18 15) rfl (by kernel_rfl) (by decide) (fun W h => h.holds (Le.refl _) (by first | exact mp rfl | exact mq rfl)) (Yld.eval T rfl rfl) ?_
        refine RAny.tk 4 (bl 18 31) rfl (by kernel_rfl) (by decide) (fun W h => h.holds (Le.refl _) (by first | exact mp rfl | exact mq rfl)) (Yld.add rfl rfl rfl (wI (by omega) (by omega))) ?_
        refine RAny.tk 5 (bl 18 63) rfl (by kernel_rfl) (by decide) (fun W h => h.holds (Le.refl _) (by first | exact mp rfl | exact mq rfl)) (Yld.as (v' := str (s.drop (k + 1))) (Yld.sliceLo T rfl rfl rfl rfl (by omega) (by omega)) (by congr 2)) ?_
        refine RAny.tk 6 (bl 18 127) rfl (by kernel_rfl) (by decide) (fun W h => h.holds (Le.refl _) (by first | exact mp rfl | exact mq rfl)) (Yld.eval T rfl rfl) ?_
        refine RAny.tk 7 (bl 18 255) rfl (by kernel_rfl) (by decide) (fun W h => h.holds (Le.refl _) (by first | exact mp rfl | exact mq rfl)) (Yld.eval T rfl rfl) ?_
        refine RAny.tk 8 (bl 18 511) rfl (by kernel_rfl) (by decide) (fun W h => h.holds (Le.refl _) (by first | exact mp rfl | exact mq rfl)) (Yld.eval T rfl rfl) ?_
        cases op with
        | true =>
          skip
          first | refine RAny.tk 9 (bl 18 1023) rfl (by kernel_rfl) (by decide) (fun W h => h.holds (Le.refl _) (by first | exact mp rfl | exact mq rfl)) (Yld.eval T rfl rfl) ?_ | refine RAny.tk 9 (bl 18 1023) rfl (by kernel_rfl) (by decide) (fun W h => h.holds (Le.refl _) (by first | exact mp rfl | exact mq rfl)) (Yld.off rfl) ?_ | refine RAny.tu 9 (bl 18 1023) rfl (by kernel_rfl) (by decide) (fun W h => h.holds (Le.refl _) (by first | exact mp rfl | exact mq rfl)) rfl ?_
          first | refine RAny.tk 10 (bl 18 2047) rfl (by kernel_rfl) (by decide) (fun W h => h.holds (Le.refl _) (by first | exact mp rfl | exact mq rfl)) (Yld.eval T rfl rfl) ?_ | refine RAny.tk 10 (bl 18 2047) rfl (by kernel_rfl) (by decide) (fun W h => h.holds (Le.refl _) (by first | exact mp rfl | exact mq rfl)) (Yld.off rfl) ?_ | refine RAny.tu 10 (bl 18 2047) rfl (by kernel_rfl) (by decide) (fun W h => h.holds (Le.refl _) (by first | exact mp rfl | exact mq rfl)) rfl ?_
          first | refine RAny.tk 11 (bl 18 4095) rfl (by kernel_rfl) (by decide) (fun W h => h.holds (Le.refl _) (by first | exact mp rfl | exact mq rfl)) (Yld.eval T rfl rfl) ?_ | refine RAny.tk 11 (bl 18 4095) rfl (by kernel_rfl) (by decide) (fun W h => h.holds (Le.refl _) (by first | exact mp rfl | exact mq rfl)) (Yld.off rfl) ?_ | refine RAny.tu 11 (bl 18 4095) rfl (by kernel_rfl) (by decide) (fun W h => h.holds (Le.refl _) (by first | exact mp rfl | exact mq rfl)) rfl ?_
          refine RAny.tk 12 (bl 18 8191) rfl (by kernel_rfl) (by decide) (fun W h => h.holds (Le.refl _) (by first | exact mp rfl | exact mq rfl)) (Yld.eval T rfl rfl) ?_
          refine RAny.tk 13 (bl 18 16383) rfl (by kernel_rfl) (by decide) (fun W h => h.holds (Le.refl _) (by first | exact mp rfl | exact mq rfl)) (Yld.eval T rfl rfl) ?_
          refine RAny.tk 14 (bl 18 32767) rfl (by kernel_rfl) (by decide) (fun W h => h.holds (Le.refl _) (by first | exact mp rfl | exact mq rfl)) (Yld.eval T rfl rfl) ?_
          refine RAny.tk 15 (bl 18 65535) rfl (by kernel_rfl) (by decide) (fun W h => h.holds (Le.refl _) (by first | exact mp rfl | exact mq rfl)) (Yld.eval T rfl rfl) ?_
          refine RAny.tk 16 (bl 18 131071) rfl (by kernel_rfl) (by decide) (fun W h => h.holds (Le.refl _) (by first | exact mp rfl | exact mq rfl)) (Yld.eval T rfl rfl) ?_
          refine RAny.tk 17 (bl 18 262143) rfl (by kernel_rfl) (by decide) (fun W h => h.holds (Le.refl _) (by first | exact mp rfl | exact mq rfl)) (Yld.eval T rfl rfl) ?_
          refine RAny.done _ (by kernel_rfl) ?_
          skip
          refine Run.fin (Run.ret5 (by rw [hCf]; exact func14) results14 rfl rfl rfl rfl rfl (hR _ _ _ ?_))
          refine ⟨rfl, ?_⟩
          rw [hd0]
          rfl
          skip
        | false =>
          first | refine RAny.tk 9 (bl 18 1023) rfl (by kernel_rfl) (by decide) (fun W h => h.holds (Le.refl _) (by first | exact mp rfl | exact mq rfl)) (Yld.eval T rfl rfl) ?_ | refine RAny.tk 9 (bl 18 1023) rfl (by kernel_rfl) (by decide) (fun W h => h.holds (Le.refl _) (by first | exact mp rfl | exact mq rfl)) (Yld.off rfl) ?_ | refine RAny.tu 9 (bl 18 1023) rfl (by kernel_rfl) (by decide) (fun W h => h.holds (Le.refl _) (by first | exact mp rfl | exact mq rfl)) rfl ?_
          refine RAny.tk 10 (bl 18 2047) rfl (by kernel_rfl) (by decide) (fun W h => h.holds (Le.refl _) (by first | exact mp rfl | exact mq rfl)) (Yld.lenS T rfl rfl rfl) ?_
          refine RAny.tk 11 (bl 18 4095) rfl (by kernel_rfl) (by decide) (fun W h => h.holds (Le.refl _) (by first | exact mp rfl | exact mq rfl)) (Yld.as (v' := .bool (decide (255 < p.length))) (Yld.gtr rfl rfl rfl) (by congr 1; rw [decide_eq_decide]; omega)) ?_
          refine RAny.tk 12 (bl 18 8191) rfl (by kernel_rfl) (by decide) (fun W h => h.holds (Le.refl _) (by first | exact mp rfl | exact mq rfl)) (Yld.eval T rfl rfl) ?_
          refine RAny.tk 13 (bl 18 16383) rfl (by kernel_rfl) (by decide) (fun W h => h.holds (Le.refl _) (by first | exact mp rfl | exact mq rfl)) (Yld.eval T rfl rfl) ?_
          refine RAny.tk 14 (bl 18 32767) rfl (by kernel_rfl) (by decide) (fun W h => h.holds (Le.refl _) (by first | exact mp rfl | exact mq rfl)) (Yld.eval T rfl rfl) ?_
          refine RAny.tk 15 (bl 18 65535) rfl (by kernel_rfl) (by decide) (fun W h => h.holds (Le.refl _) (by first | exact mp rfl | exact mq rfl)) (Yld.eval T rfl rfl) ?_
          refine RAny.tk 16 (bl 18 131071) rfl (by kernel_rfl) (by decide) (fun W h => h.holds (Le.refl _) (by first | exact mp rfl | exact mq rfl)) (Yld.eval T rfl rfl) ?_
          refine RAny.tk 17 (bl 18 262143) rfl (by kernel_rfl) (by decide) (fun W h => h.holds (Le.refl _) (by first | exact mp rfl | exact mq rfl)) (Yld.eval T rfl rfl) ?_
          refine RAny.done _ (by kernel_rfl) ?_
          skip
          refine Run.fin (Run.ret5 (by rw [hCf]; exact func14) results14 rfl rfl rfl rfl rfl (hR _ _ _ ?_))
          refine ⟨rfl, ?_⟩
          rw [hd0]
          rfl
      | true =>
        have hoff : offTag (s.take k) = (s.take k).take j := by unfold offTag; rw [hct0, h47]; simp only [Bool.false_eq_true, if_false, htg, if_true]
        repeat (first | refine Run.seq ?_ | refine Run.region ?_ | refine Ops.nil ?_ | refine Run.cond_t rfl ?_ | refine Ops.pure T rfl (by decide) rfl ?_ | refine Ops.sliceStrHi rfl (by decide) (T.undOk rfl) rfl rfl (by first | omega | (simp only [List.length_cons, List.length_nil] ; omega) | (simp; omega)) (by first | omega | (simp only [List.length_cons, List.length_nil] ; omega) | (simp; omega)) ?_ | refine Ops.loadN 0 rfl (by decide) rfl rfl (T.aggOk rfl) (T.sizeOk rfl) rfl rfl ?_)
        rw [ej]
        have hbl : ((s.take k).take j : Tx).length ≤ s.length := by first | (simp; done) | (simp; omega) | omega
        refine Ops.call ((spec_repositoryOf' J6 ((s.take k).take j) st ins reg tag (by omega))) rfl (by decide) call12 rfl ?_
        rintro _ J8 l8 rfl
        unfold t4
        have hd0 : sDig ⟨st, ins, reg, tag⟩ s = ((sRepo st reg ((s.take k).take j)).1, (sRepo st reg ((s.take k).take j)).2.1, s.drop (k + 1), (sRepo st reg ((s.take k).take j)).2.2.1, (sRepo st reg ((s.take k).take j)).2.2.2 || decide (255 < (sRepo st reg ((s.take k).take j)).2.1.length)) := by
          unfold sDig
          rw [hk]
          simp only [hl', if_true, hdg, hoff]
        generalize (sRepo st reg ((s.take k).take j)).1 = r at *
        generalize (sRepo st reg ((s.take k).take j)).2.1 = p at *
        generalize (sRepo st reg ((s.take k).take j)).2.2.1 = ok at *
        generalize (sRepo st reg ((s.take k).take j)).2.2.2 = op at *
        repeat (first | refine Run.seq ?_ | refine Ops.nil ?_ | refine Ops.pure T rfl (by decide) rfl ?_)
        refine Run.regionAny (Holds J8 []) (bl 18 0) (by kernel_rfl) (by kernel_rfl) ?_
        refine RAny.tk 0 (bl 18 1) rfl (by kernel_rfl) (by decide) (fun W h => h.holds (Le.refl _) (by first | exact mp rfl | exact mq rfl)) (Yld.eval T rfl rfl) ?_
        refine RAny.tk 1 (bl 18 3) rfl (by kernel_rfl) (by decide) (fun W h => h.holds (Le.refl _) (by first | exact mp rfl | exact mq rfl)) (Yld.eval T rfl rfl) ?_
        refine RAny.tk 2 (bl 18 7) rfl (by kernel_rfl) (by decide) (fun W h => h.holds (Le.refl _) (by first | exact mp rfl | exact mq rfl)) (Yld.eval T rfl rfl) ?_
        refine RAny.tk 3 (bl 18 15) rfl (by kernel_rfl) (by decide) (fun W h => h.holds (Le.refl _) (by first | exact mp rfl | exact mq rfl)) (Yld.eval T rfl rfl) ?_
        refine RAny.tk 4 (bl 18 31) rfl (by kernel_rfl) (by decide) (fun W h => h.holds (Le.refl _) (by first | exact mp rfl | exact mq rfl)) (Yld.add rfl rfl rfl (wI (by omega) (by omega))) ?_
        refine RAny.tk 5 (bl 18 63) rfl (by kernel_rfl) (by decide) (fun W h => h.holds (Le.refl _) (by first | exact mp rfl | exact mq rfl)) (Yld.as (v' := str (s.drop (k + 1))) (Yld.sliceLo T rfl rfl rfl rfl (by omega) (by omega)) (by congr 2)) ?_
        refine RAny.tk 6 (bl 18 127) rfl (by kernel_rfl) (by decide) (fun W h => h.holds (Le.refl _) (by first | exact mp rfl | exact mq rfl)) (Yld.eval T rfl rfl) ?_
        refine RAny.tk 7 (bl 18 255) rfl (by kernel_rfl) (by decide) (fun W h => h.holds (Le.refl _) (by first | exact mp rfl | exact mq rfl)) (Yld.eval T rfl rfl) ?_
        refine RAny.tk 8 (bl 18 511) rfl (by kernel_rfl) (by decide) (fun W h => h.holds (Le.refl _) (by first | exact mp rfl | exact mq rfl)) (Yld.eval T rfl rfl) ?_
        cases op with
        | true =>
          skip
          first | refine RAny.tk 9 (bl 18 1023) rfl (by kernel_rfl) (by decide) (fun W h => h.holds (Le.refl _) (by first | exact mp rfl | exact mq rfl)) (Yld.eval T rfl rfl) ?_ | refine RAny.tk 9 (bl 18 1023) rfl (by kernel_rfl) (by decide) (fun W h => h.holds (Le.refl _) (by first | exact mp rfl | exact mq rfl)) (Yld.off rfl) ?_ | refine RAny.tu 9 (bl 18 1023) rfl (by kernel_rfl) (by decide) (fun W h => h.holds (Le.refl _) (by first | exact mp rfl | exact mq rfl)) rfl ?_
          first | refine RAny.tk 10 (bl 18 2047) rfl (by kernel_rfl) (by decide) (fun W h => h.holds (Le.refl _) (by first | exact mp rfl | exact mq rfl)) (Yld.eval T rfl rfl) ?_ | refine RAny.tk 10 (bl 18 2047) rfl (by kernel_rfl) (by decide) (fun W h => h.holds (Le.refl _) (by first | exact mp rfl | exact mq rfl)) (Yld.off rfl) ?_ | refine RAny.tu 10 (bl 18 2047) rfl (by kernel_rfl) (by decide) (fun W h => h.holds (Le.refl _) (by first | exact mp rfl | exact mq rfl)) rfl ?_
          first | refine RAny.tk 11 (bl 18 4095) rfl (by kernel_rfl) (by decide) (fun W h => h.holds (Le.refl _) (by first | exact mp rfl | exact mq rfl)) (Yld.eval T rfl rfl) ?_ | refine RAny.tk 11 (bl 18 4095) rfl (by kernel_rfl) (by decide) (fun W h => h.holds (Le.refl _) (by first | exact mp rfl | exact mq rfl)) (Yld.off rfl) ?_ | refine RAny.tu 11 (bl 18 4095) rfl (by kernel_rfl) (by decide) (fun W h => h.holds (Le.refl _) (by first | exact mp rfl | exact mq rfl)) rfl ?_
          refine RAny.tk 12 (bl 18 8191) rfl (by kernel_rfl) (by decide) (fun W h => h.holds (Le.refl _) (by first | exact mp rfl | exact mq rfl)) (Yld.eval T rfl rfl) ?_
          refine RAny.tk 13 (bl 18 16383) rfl (by kernel_rfl) (by decide) (fun W h => h.holds (Le.refl _) (by first | exact mp rfl | exact mq rfl)) (Yld.eval T rfl rfl) ?_
          refine RAny.tk 14 (bl 18 32767) rfl (by kernel_rfl) (by decide) (fun W h => h.holds (Le.refl _) (by first | exact mp rfl | exact mq rfl)) (Yld.eval T rfl rfl) ?_
          refine RAny.tk 15 (bl 18 65535) rfl (by kernel_rfl) (by decide) (fun W h => h.holds (Le.refl _) (by first | exact mp rfl | exact mq rfl)) (Yld.eval T rfl rfl) ?_
          refine RAny.tk 16 (bl 18 131071) rfl (by kernel_rfl) (by decide) (fun W h => h.holds (Le.refl _) (by first | exact mp rfl | exact mq rfl)) (Yld.eval T rfl rfl) ?_
          refine RAny.tk 17 (bl 18 262143) rfl (by kernel_rfl) (by decide) (fun W h => h.holds (Le.refl _) (by first | exact mp rfl | exact mq rfl)) (Yld.eval T rfl rfl) ?_
          refine RAny.done _ (by kernel_rfl) ?_
          skip
          refine Run.fin (Run.ret5 (by rw [hCf]; exact func14) results14 rfl rfl rfl rfl rfl (hR _ _ _ ?_))
          refine ⟨rfl, ?_⟩
          rw [hd0]
          rfl
          skip
        | false =>
          first | refine RAny.tk 9 (bl 18 1023) rfl (by kernel_rfl) (by decide) (fun W h => h.holds (Le.refl _) (by first | exact mp rfl | exact mq rfl)) (Yld.eval T rfl rfl) ?_ | refine RAny.tk 9 (bl 18 1023) rfl (by kernel_rfl) (by decide) (fun W h => h.holds (Le.refl _) (by first | exact mp rfl | exact mq rfl)) (Yld.off rfl) ?_ | refine RAny.tu 9 (bl 18 1023) rfl (by kernel_rfl) (by decide) (fun W h => h.holds (Le.refl _) (by first | exact mp rfl | exact mq rfl)) rfl ?_
          refine RAny.tk 10 (bl 18 2047) rfl (by kernel_rfl) (by decide) (fun W h => h.holds (Le.refl _) (by first | exact mp rfl | exact mq rfl)) (Yld.lenS T rfl rfl rfl) ?_
          refine RAny.tk 11 (bl 18 4095) rfl (by kernel_rfl) (by decide) (fun W h => h.holds (Le.refl _) (by first | exact mp rfl | exact mq rfl)) (Yld.as (v' := .bool (decide (255 < p.length))) (Yld.gtr rfl rfl rfl) (by congr 1; rw [decide_eq_decide]; omega)) ?_
          refine RAny.tk 12 (bl 18 8191) rfl (by kernel_rfl) (by decide) (fun W h => h.holds (Le.refl _) (by first | exact mp rfl | exact mq rfl)) (Yld.eval T rfl rfl) ?_
          refine RAny.tk 13 (bl 18 16383) rfl (by kernel_rfl) (by decide) (fun W h => h.holds (Le.refl _) (by first | exact mp rfl | exact mq rfl)) (Yld.eval T rfl rfl) ?_
          refine RAny.tk 14 (bl 18 32767) rfl (by kernel_rfl) (by decide) (fun W h => h.holds (Le.refl _) (by first | exact mp rfl | exact mq rfl)) (Yld.eval T rfl rfl) ?_
          refine RAny.tk 15 (bl 18 65535) rfl (by kernel_rfl) (by decide) (fun W h => h.holds (Le.refl _) (by first | exact mp rfl | exact mq rfl)) (Yld.eval T rfl rfl) ?_
          refine RAny.tk 16 (bl 18 131071) rfl (by kernel_rfl) (by decide) (fun W h => h.holds (Le.refl _) (by first | exact mp rfl | exact mq rfl)) (Yld.eval T rfl rfl) ?_
          refine RAny.tk 17 (bl 18 262143) rfl (by kernel_rfl) (by decide) (fun W h => h.holds (Le.refl _) (by first | exact mp rfl | exact mq rfl)) (Yld.eval T rfl rfl) ?_
          refine RAny.done _ (by kernel_rfl) ?_
          skip
          refine Run.fin (Run.ret5 (by rw [hCf]; exact func14) results14 rfl rfl rfl rfl rfl (hR _ _ _ ?_))
          refine ⟨rfl, ?_⟩
          rw [hd0]
          rfl
end Go.V
namespace Go.V
open Go.Proofs.Tryz
open Go.RowKit
set_option linter.unusedVariables false
set_option linter.unusedSimpArgs false
set_option maxRecDepth 10000
attribute [local irreducible] Run Ops
def i64n (n : Nat) : Value := .int .i64 (n : Int)
abbrev Q4 := Nat × Nat × Nat × Nat
def Q4.l (q : Q4) : List Nat := [q.1, q.2.1, q.2.2.1, q.2.2.2]
def qInv (s : Tx) (i : Nat) (out : List Nat) (n d : Nat) : Prop := (i ≤ s.length ∧ quadGo (s.drop i) out n d = quadF s) ∨ (i = s.length + 1 ∧ quadF s = if out.length = 4 then some out else none)
set_option maxHeartbeats 8000000 in
theorem spec_quad (I : Imm) (s : Tx) (hs : s.length ≤ 4620000000000000000) : Pure prog 89 [str s] I fun w J => ∃ q : Q4, w = .tuple #[.agg (q.l.map i64n).toArray, .bool (quadF s).isSome] ∧ ∀ l', quadF s = some l' → l' = q.l := by
  refine Spec.enter 75 [(0, _)] func89 rfl ntmps89 (by simp) rfl ?_
  intro C hCf hR hCI
  repeat (first | refine Run.seq ?_ | refine Run.region ?_)
  refine Ops.alloc rfl (by decide) (T.zeroOk rfl) rfl (fun b => ?_)
  repeat (first | refine Run.seq ?_ | refine Run.region ?_ | refine Ops.nil ?_ | refine Run.block ?_ | refine Ops.pure T rfl (by decide) rfl ?_)
  refine Run.keep [0, 2, 4, 5, 6, 7] [_, _, _, _, _, _] rfl ?_
  refine Run.rounds (fun m env L K => ∃ (i k n d : Nat) (q : Q4), m = s.length + 1 - i ∧ k ≤ 4 ∧ n < 10 ^ d ∧ d ≤ 3 ∧ i ≤ s.length + 1 ∧ qInv s i (q.l.take k) n d ∧
    env = [(0, str s), (2, .pointer (some ⟨b, 0, none⟩)), (4, .int .i64 k), (5, .int .i64 n), (6, .int .i64 d), (7, .int .i64 i)] ∧
    L = [(b, blk (q.l.map i64n) 105)] ∧ K = I) (s.length + 1) ⟨0, 0, 0, 0, (0, 0, 0, 0), rfl, by omega, by decide, by decide, by omega, .inl ⟨by omega, rfl⟩, rfl, rfl, rfl⟩ ?_
  rintro m env L J ⟨i, k, n, d, ⟨a0, a1, a2, a3⟩, rfl, hk, hn10, hd3, hi1, hinv, rfl, rfl, rfl⟩ ih
  have hn3 : n < 1000 := Nat.lt_of_lt_of_le hn10 (Nat.pow_le_pow_right (by decide) hd3 : 10 ^ d ≤ 10 ^ 3)
  repeat (first | refine Run.seq ?_ | refine Run.region ?_ | refine Ops.nil ?_ | refine Ops.leq rfl (by decide) rfl rfl ?_ | refine Ops.pure T rfl (by decide) rfl ?_ | refine Ops.lenS T rfl (by decide) rfl rfl ?_)
  refine Run.cond rfl rfl (fun h => ?_) (fun h => ?_)
  all_goals (try rw [h])
  all_goals (try simp only [decide_eq_true_eq, decide_eq_false_iff_not, Bool.not_eq_true', Bool.not_eq_false', Bool.and_eq_true, Bool.or_eq_true, Bool.and_eq_false_imp, Bool.or_eq_false_iff] at h)
  · have hgo : quadGo (s.drop i) ((Q4.l (a0, a1, a2, a3)).take k) n d = quadF s := by
      rcases hinv with h | h
      · exact h.2
      · omega
    repeat (first | refine Run.seq ?_ | refine Run.region ?_ | refine Run.skip ?_ | refine Run.block ?_ | refine Ops.eql rfl (by decide) rfl rfl ?_ | refine Ops.pure T rfl (by decide) rfl ?_ | refine Ops.lenS T rfl (by decide) rfl rfl ?_)
    cases he : decide ((i : Int) = (s.length : Int)) with
    | true =>
      have hie : i = s.length := by have := of_decide_eq_true he; omega
      rw [hie, List.drop_length] at hgo
      simp only [quadGo] at hgo
      repeat (first | refine Run.seq ?_ | refine Run.region ?_ | refine Ops.nil ?_ | refine Run.cond_t rfl ?_ | refine Ops.not rfl (by decide) ?_ | refine Ops.eql rfl (by decide) rfl rfl ?_ | refine Ops.pure T rfl (by decide) rfl ?_)
      have hol : ((Q4.l (a0, a1, a2, a3)).take k).length = k := by simp [Q4.l]; omega
      rw [hol] at hgo
      have hbad : (d = 0 ∨ 3 < k ∨ 255 < n) → quadF s = none := (fun hh => by rw [← hgo, if_pos hh])
      have hok : ¬ (d = 0 ∨ 3 < k ∨ 255 < n) → qInv s (i + 1) ((Q4.l (a0, a1, a2, a3)).take k ++ [n]) 0 0 := (fun hh => .inr ⟨by omega, by rw [← hgo, if_neg hh]; simp only [List.length_append, hol, List.length_cons, List.length_nil]; by_cases h3 : k = 3 <;> simp [h3]⟩)
      cases d0 : decide ((d : Int) = 0) with
      | true =>
        have hn : quadF s = none := hbad (.inl (by have := of_decide_eq_true d0; omega))
        repeat (first | refine Run.seq ?_ | refine Run.region ?_ | refine Ops.nil ?_ | refine Run.cond_t rfl ?_ | refine Ops.not rfl (by decide) ?_ | refine Ops.pure T rfl (by decide) rfl ?_ | refine Ops.loadN 0 rfl (by decide) rfl rfl (T.aggOk rfl) (T.sizeOk rfl) rfl rfl ?_ | refine Ops.store 0 rfl rfl rfl rfl rfl (T.sizeOk rfl) rfl (Nat.le_of_ble_eq_true rfl) rfl rfl ?_)
        refine Run.retCT T 0 (by rw [hCf]; exact func89) results89 rfl rfl rfl rfl rfl rfl rfl (hR _ _ _ ?_)
        refine ⟨rfl, (a0, a1, a2, a3), ?_, ?_⟩
        · rw [hn]; rfl
        · rw [hn]; intro _ h; cases h
      | false =>
      have d0' := of_decide_eq_false d0
      repeat (first | refine Ops.gtr rfl (by decide) rfl rfl ?_ | refine Ops.pure T rfl (by decide) rfl ?_)
      cases d1 : decide ((3 : Int) < (k : Int)) with
      | true =>
        have hn : quadF s = none := hbad (.inr (.inl (by have := of_decide_eq_true d1; omega)))
        repeat (first | refine Run.seq ?_ | refine Run.region ?_ | refine Ops.nil ?_ | refine Run.cond_t rfl ?_ | refine Ops.not rfl (by decide) ?_ | refine Ops.pure T rfl (by decide) rfl ?_ | refine Ops.loadN 0 rfl (by decide) rfl rfl (T.aggOk rfl) (T.sizeOk rfl) rfl rfl ?_ | refine Ops.store 0 rfl rfl rfl rfl rfl (T.sizeOk rfl) rfl (Nat.le_of_ble_eq_true rfl) rfl rfl ?_)
        refine Run.retCT T 0 (by rw [hCf]; exact func89) results89 rfl rfl rfl rfl rfl rfl rfl (hR _ _ _ ?_)
        refine ⟨rfl, (a0, a1, a2, a3), ?_, ?_⟩
        · rw [hn]; rfl
        · rw [hn]; intro _ h; cases h
      | false =>
      have d1' := of_decide_eq_false d1
      repeat (first | refine Ops.nil ?_ | refine Ops.gtr rfl (by decide) rfl rfl ?_ | refine Ops.pure T rfl (by decide) rfl ?_)
      cases d2 : decide ((255 : Int) < (n : Int)) with
      | true =>
        have hn : quadF s = none := hbad (.inr (.inr (by have := of_decide_eq_true d2; omega)))
        repeat (first | refine Run.seq ?_ | refine Run.region ?_ | refine Ops.nil ?_ | refine Run.cond_t rfl ?_ | refine Ops.pure T rfl (by decide) rfl ?_ | refine Ops.loadN 0 rfl (by decide) rfl rfl (T.aggOk rfl) (T.sizeOk rfl) rfl rfl ?_ | refine Ops.store 0 rfl rfl rfl rfl rfl (T.sizeOk rfl) rfl (Nat.le_of_ble_eq_true rfl) rfl rfl ?_)
        refine Run.retCT T 0 (by rw [hCf]; exact func89) results89 rfl rfl rfl rfl rfl rfl rfl (hR _ _ _ ?_)
        refine ⟨rfl, (a0, a1, a2, a3), ?_, ?_⟩
        · rw [hn]; rfl
        · rw [hn]; intro _ h; cases h
      | false =>
      have d2' := of_decide_eq_false d2
      have hnx : qInv s (i + 1) ((Q4.l (a0, a1, a2, a3)).take k ++ [n]) 0 0 := hok (by rintro (h | h | h) <;> omega)
      repeat (first | refine Run.seq ?_ | refine Run.region ?_ | refine Run.skip ?_ | refine Run.cond_f rfl ?_ | refine Ops.pure T rfl (by decide) rfl ?_)
      have hk4 : k = 0 ∨ k = 1 ∨ k = 2 ∨ k = 3 := by omega
      rcases hk4 with rfl | rfl | rfl | rfl
      · refine Ops.indexArr T rfl (by decide) rfl rfl rfl rfl (by decide) (by decide) ?_
        repeat (first | refine Run.seq ?_ | refine Run.region ?_ | refine Ops.nil ?_ | refine Run.exit rfl ?_ | refine Ops.add rfl (by decide) rfl rfl (wI (by first | omega | (simp only [List.length_cons, List.length_nil] ; omega) | (simp; omega)) (by first | omega | (simp only [List.length_cons, List.length_nil] ; omega) | (simp; omega))) ?_ | refine Ops.pure T rfl (by decide) rfl ?_ | refine Ops.store 0 rfl rfl rfl rfl rfl (T.sizeOk rfl) rfl (Nat.le_of_ble_eq_true rfl) rfl rfl ?_)
        refine Run.keep [0, 2, 4, 5, 6, 7] [_, _, _, _, _, _] rfl ?_
        refine ih (s.length + 1 - (i + 1)) _ _ _ (by omega) ⟨i + 1, 0 + 1, 0, 0, (n, a1, a2, a3), rfl, by omega, by decide, by decide, by omega, ?_, rfl, rfl, rfl⟩
        rw [show (Q4.l (n, a1, a2, a3)).take (0 + 1) = (Q4.l (a0, a1, a2, a3)).take 0 ++ [n] from rfl]
        exact hnx
      · refine Ops.indexArr T rfl (by decide) rfl rfl rfl rfl (by decide) (by decide) ?_
        repeat (first | refine Run.seq ?_ | refine Run.region ?_ | refine Ops.nil ?_ | refine Run.exit rfl ?_ | refine Ops.add rfl (by decide) rfl rfl (wI (by first | omega | (simp only [List.length_cons, List.length_nil] ; omega) | (simp; omega)) (by first | omega | (simp only [List.length_cons, List.length_nil] ; omega) | (simp; omega))) ?_ | refine Ops.pure T rfl (by decide) rfl ?_ | refine Ops.store 0 rfl rfl rfl rfl rfl (T.sizeOk rfl) rfl (Nat.le_of_ble_eq_true rfl) rfl rfl ?_)
        refine Run.keep [0, 2, 4, 5, 6, 7] [_, _, _, _, _, _] rfl ?_
        refine ih (s.length + 1 - (i + 1)) _ _ _ (by omega) ⟨i + 1, 1 + 1, 0, 0, (a0, n, a2, a3), rfl, by omega, by decide, by decide, by omega, ?_, rfl, rfl, rfl⟩
        rw [show (Q4.l (a0, n, a2, a3)).take (1 + 1) = (Q4.l (a0, a1, a2, a3)).take 1 ++ [n] from rfl]
        exact hnx
      · refine Ops.indexArr T rfl (by decide) rfl rfl rfl rfl (by decide) (by decide) ?_
        repeat (first | refine Run.seq ?_ | refine Run.region ?_ | refine Ops.nil ?_ | refine Run.exit rfl ?_ | refine Ops.add rfl (by decide) rfl rfl (wI (by first | omega | (simp only [List.length_cons, List.length_nil] ; omega) | (simp; omega)) (by first | omega | (simp only [List.length_cons, List.length_nil] ; omega) | (simp; omega))) ?_ | refine Ops.pure T rfl (by decide) rfl ?_ | refine Ops.store 0 rfl rfl rfl rfl rfl (T.sizeOk rfl) rfl (Nat.le_of_ble_eq_true rfl) rfl rfl ?_)
        refine Run.keep [0, 2, 4, 5, 6, 7] [_, _, _, _, _, _] rfl ?_
        refine ih (s.length + 1 - (i + 1)) _ _ _ (by omega) ⟨i + 1, 2 + 1, 0, 0, (a0, a1, n, a3), rfl, by omega, by decide, by decide, by omega, ?_, rfl, rfl, rfl⟩
        rw [show (Q4.l (a0, a1, n, a3)).take (2 + 1) = (Q4.l (a0, a1, a2, a3)).take 2 ++ [n] from rfl]
        exact hnx
      · refine Ops.indexArr T rfl (by decide) rfl rfl rfl rfl (by decide) (by decide) ?_
        repeat (first | refine Run.seq ?_ | refine Run.region ?_ | refine Ops.nil ?_ | refine Run.exit rfl ?_ | refine Ops.add rfl (by decide) rfl rfl (wI (by first | omega | (simp only [List.length_cons, List.length_nil] ; omega) | (simp; omega)) (by first | omega | (simp only [List.length_cons, List.length_nil] ; omega) | (simp; omega))) ?_ | refine Ops.pure T rfl (by decide) rfl ?_ | refine Ops.store 0 rfl rfl rfl rfl rfl (T.sizeOk rfl) rfl (Nat.le_of_ble_eq_true rfl) rfl rfl ?_)
        refine Run.keep [0, 2, 4, 5, 6, 7] [_, _, _, _, _, _] rfl ?_
        refine ih (s.length + 1 - (i + 1)) _ _ _ (by omega) ⟨i + 1, 3 + 1, 0, 0, (a0, a1, a2, n), rfl, by omega, by decide, by decide, by omega, ?_, rfl, rfl, rfl⟩
        rw [show (Q4.l (a0, a1, a2, n)).take (3 + 1) = (Q4.l (a0, a1, a2, a3)).take 3 ++ [n] from rfl]
        exact hnx
    | false =>
      have hi : i < s.length := by have := of_decide_eq_false he; omega
      rw [drop_cons hi] at hgo
      repeat (first | refine Ops.nil ?_ | refine Ops.eql rfl (by decide) rfl rfl ?_ | refine Ops.pure T rfl (by decide) rfl ?_ | refine Ops.indexStr rfl (by decide) (T.undOk rfl) rfl rfl (by first | omega | (simp only [List.length_cons, List.length_nil] ; omega) | (simp; omega)) (by first | omega | (simp only [List.length_cons, List.length_nil] ; omega) | (simp; omega)) ?_)
      have ei : ((i : Int)).toNat = i := by omega
      rw [ei]
      generalize hc : s.getD i 0 = c at *
      simp only [quadGo] at hgo
      cases h46 : decide ((c.toNat : Int) = 46) with
      | true =>
        have hc46 : c = 46 := u8_inj.1 (of_decide_eq_true h46)
        rw [if_pos hc46] at hgo
        repeat (first | refine Run.seq ?_ | refine Run.region ?_ | refine Run.cond_t rfl ?_ | refine Ops.eql rfl (by decide) rfl rfl ?_ | refine Ops.pure T rfl (by decide) rfl ?_)
        have hol : ((Q4.l (a0, a1, a2, a3)).take k).length = k := by simp [Q4.l]; omega
        rw [hol] at hgo
        have hbad : (d = 0 ∨ 3 < k ∨ 255 < n) → quadF s = none := (fun hh => by rw [← hgo, if_pos hh])
        have hok : ¬ (d = 0 ∨ 3 < k ∨ 255 < n) → qInv s (i + 1) ((Q4.l (a0, a1, a2, a3)).take k ++ [n]) 0 0 := (fun hh => .inl ⟨by omega, by rw [← hgo, if_neg hh]⟩)
        cases d0 : decide ((d : Int) = 0) with
        | true =>
          have hn : quadF s = none := hbad (.inl (by have := of_decide_eq_true d0; omega))
          repeat (first | refine Run.seq ?_ | refine Run.region ?_ | refine Ops.nil ?_ | refine Run.cond_t rfl ?_ | refine Ops.not rfl (by decide) ?_ | refine Ops.pure T rfl (by decide) rfl ?_ | refine Ops.loadN 0 rfl (by decide) rfl rfl (T.aggOk rfl) (T.sizeOk rfl) rfl rfl ?_ | refine Ops.store 0 rfl rfl rfl rfl rfl (T.sizeOk rfl) rfl (Nat.le_of_ble_eq_true rfl) rfl rfl ?_)
          refine Run.retCT T 0 (by rw [hCf]; exact func89) results89 rfl rfl rfl rfl rfl rfl rfl (hR _ _ _ ?_)
          refine ⟨rfl, (a0, a1, a2, a3), ?_, ?_⟩
          · rw [hn]; rfl
          · rw [hn]; intro _ h; cases h
        | false =>
        have d0' := of_decide_eq_false d0
        repeat (first | refine Ops.gtr rfl (by decide) rfl rfl ?_ | refine Ops.pure T rfl (by decide) rfl ?_)
        cases d1 : decide ((3 : Int) < (k : Int)) with
        | true =>
          have hn : quadF s = none := hbad (.inr (.inl (by have := of_decide_eq_true d1; omega)))
          repeat (first | refine Run.seq ?_ | refine Run.region ?_ | refine Ops.nil ?_ | refine Run.cond_t rfl ?_ | refine Ops.not rfl (by decide) ?_ | refine Ops.pure T rfl (by decide) rfl ?_ | refine Ops.loadN 0 rfl (by decide) rfl rfl (T.aggOk rfl) (T.sizeOk rfl) rfl rfl ?_ | refine Ops.store 0 rfl rfl rfl rfl rfl (T.sizeOk rfl) rfl (Nat.le_of_ble_eq_true rfl) rfl rfl ?_)
          refine Run.retCT T 0 (by rw [hCf]; exact func89) results89 rfl rfl rfl rfl rfl rfl rfl (hR _ _ _ ?_)
          refine ⟨rfl, (a0, a1, a2, a3), ?_, ?_⟩
          · rw [hn]; rfl
          · rw [hn]; intro _ h; cases h
        | false =>
        have d1' := of_decide_eq_false d1
        repeat (first | refine Ops.nil ?_ | refine Ops.gtr rfl (by decide) rfl rfl ?_ | refine Ops.pure T rfl (by decide) rfl ?_)
        cases d2 : decide ((255 : Int) < (n : Int)) with
        | true =>
          have hn : quadF s = none := hbad (.inr (.inr (by have := of_decide_eq_true d2; omega)))
          repeat (first | refine Run.seq ?_ | refine Run.region ?_ | refine Ops.nil ?_ | refine Run.cond_t rfl ?_ | refine Ops.pure T rfl (by decide) rfl ?_ | refine Ops.loadN 0 rfl (by decide) rfl rfl (T.aggOk rfl) (T.sizeOk rfl) rfl rfl ?_ | refine Ops.store 0 rfl rfl rfl rfl rfl (T.sizeOk rfl) rfl (Nat.le_of_ble_eq_true rfl) rfl rfl ?_)
          refine Run.retCT T 0 (by rw [hCf]; exact func89) results89 rfl rfl rfl rfl rfl rfl rfl (hR _ _ _ ?_)
          refine ⟨rfl, (a0, a1, a2, a3), ?_, ?_⟩
          · rw [hn]; rfl
          · rw [hn]; intro _ h; cases h
        | false =>
        have d2' := of_decide_eq_false d2
        have hnx : qInv s (i + 1) ((Q4.l (a0, a1, a2, a3)).take k ++ [n]) 0 0 := hok (by rintro (h | h | h) <;> omega)
        repeat (first | refine Run.seq ?_ | refine Run.region ?_ | refine Run.skip ?_ | refine Run.cond_f rfl ?_ | refine Ops.pure T rfl (by decide) rfl ?_)
        have hk4 : k = 0 ∨ k = 1 ∨ k = 2 ∨ k = 3 := by omega
        rcases hk4 with rfl | rfl | rfl | rfl
        · refine Ops.indexArr T rfl (by decide) rfl rfl rfl rfl (by decide) (by decide) ?_
          repeat (first | refine Run.seq ?_ | refine Run.region ?_ | refine Ops.nil ?_ | refine Run.exit rfl ?_ | refine Ops.add rfl (by decide) rfl rfl (wI (by first | omega | (simp only [List.length_cons, List.length_nil] ; omega) | (simp; omega)) (by first | omega | (simp only [List.length_cons, List.length_nil] ; omega) | (simp; omega))) ?_ | refine Ops.pure T rfl (by decide) rfl ?_ | refine Ops.store 0 rfl rfl rfl rfl rfl (T.sizeOk rfl) rfl (Nat.le_of_ble_eq_true rfl) rfl rfl ?_)
          refine Run.keep [0, 2, 4, 5, 6, 7] [_, _, _, _, _, _] rfl ?_
          refine ih (s.length + 1 - (i + 1)) _ _ _ (by omega) ⟨i + 1, 0 + 1, 0, 0, (n, a1, a2, a3), rfl, by omega, by decide, by decide, by omega, ?_, rfl, rfl, rfl⟩
          rw [show (Q4.l (n, a1, a2, a3)).take (0 + 1) = (Q4.l (a0, a1, a2, a3)).take 0 ++ [n] from rfl]
          exact hnx
        · refine Ops.indexArr T rfl (by decide) rfl rfl rfl rfl (by decide) (by decide) ?_
          repeat (first | refine Run.seq ?_ | refine Run.region ?_ | refine Ops.nil ?_ | refine Run.exit rfl ?_ | refine Ops.add rfl (by decide) rfl rfl (wI (by first | omega | (simp only [List.length_cons, List.length_nil] ; omega) | (simp; omega)) (by first | omega | (simp only [List.length_cons, List.length_nil] ; omega) | (simp; omega))) ?_ | refine Ops.pure T rfl (by decide) rfl ?_ | refine Ops.store 0 rfl rfl rfl rfl rfl (T.sizeOk rfl) rfl (Nat.le_of_ble_eq_true rfl) rfl rfl ?_)
          refine Run.keep [0, 2, 4, 5, 6, 7] [_, _, _, _, _, _] rfl ?_
          refine ih (s.length + 1 - (i + 1)) _ _ _ (by omega) ⟨i + 1, 1 + 1, 0, 0, (a0, n, a2, a3), rfl, by omega, by decide, by decide, by omega, ?_, rfl, rfl, rfl⟩
          rw [show (Q4.l (a0, n, a2, a3)).take (1 + 1) = (Q4.l (a0, a1, a2, a3)).take 1 ++ [n] from rfl]
          exact hnx
        · refine Ops.indexArr T rfl (by decide) rfl rfl rfl rfl (by decide) (by decide) ?_
          repeat (first | refine Run.seq ?_ | refine Run.region ?_ | refine Ops.nil ?_ | refine Run.exit rfl ?_ | refine Ops.add rfl (by decide) rfl rfl (wI (by first | omega | (simp only [List.length_cons, List.length_nil] ; omega) | (simp; omega)) (by first | omega | (simp only [List.length_cons, List.length_nil] ; omega) | (simp; omega))) ?_ | refine Ops.pure T rfl (by decide) rfl ?_ | refine Ops.store 0 rfl rfl rfl rfl rfl (T.sizeOk rfl) rfl (Nat.le_of_ble_eq_true rfl) rfl rfl ?_)
          refine Run.keep [0, 2, 4, 5, 6, 7] [_, _, _, _, _, _] rfl ?_
          refine ih (s.length + 1 - (i + 1)) _ _ _ (by omega) ⟨i + 1, 2 + 1, 0, 0, (a0, a1, n, a3), rfl, by omega, by decide, by decide, by omega, ?_, rfl, rfl, rfl⟩
          rw [show (Q4.l (a0, a1, n, a3)).take (2 + 1) = (Q4.l (a0, a1, a2, a3)).take 2 ++ [n] from rfl]
          exact hnx
        · refine Ops.indexArr T rfl (by decide) rfl rfl rfl rfl (by decide) (by decide) ?_
          repeat (first | refine Run.seq ?_ | refine Run.region ?_ | refine Ops.nil ?_ | refine Run.exit rfl ?_ | refine Ops.add rfl (by decide) rfl rfl (wI (by first | omega | (simp only [List.length_cons, List.length_nil] ; omega) | (simp; omega)) (by first | omega | (simp only [List.length_cons, List.length_nil] ; omega) | (simp; omega))) ?_ | refine Ops.pure T rfl (by decide) rfl ?_ | refine Ops.store 0 rfl rfl rfl rfl rfl (T.sizeOk rfl) rfl (Nat.le_of_ble_eq_true rfl) rfl rfl ?_)
          refine Run.keep [0, 2, 4, 5, 6, 7] [_, _, _, _, _, _] rfl ?_
          refine ih (s.length + 1 - (i + 1)) _ _ _ (by omega) ⟨i + 1, 3 + 1, 0, 0, (a0, a1, a2, n), rfl, by omega, by decide, by decide, by omega, ?_, rfl, rfl, rfl⟩
          rw [show (Q4.l (a0, a1, a2, n)).take (3 + 1) = (Q4.l (a0, a1, a2, a3)).take 3 ++ [n] from rfl]
          exact hnx
      | false =>
        rw [if_neg (fun h => of_decide_eq_false h46 (u8_inj.2 h))] at hgo
        repeat (first | refine Run.seq ?_ | refine Run.region ?_ | refine Run.skip ?_ | refine Run.cond_f rfl ?_ | refine Ops.lss rfl (by decide) rfl rfl ?_ | refine Ops.pure T rfl (by decide) rfl ?_ | refine Ops.indexStr rfl (by decide) (T.undOk rfl) rfl rfl (by first | omega | (simp only [List.length_cons, List.length_nil] ; omega) | (simp; omega)) (by first | omega | (simp only [List.length_cons, List.length_nil] ; omega) | (simp; omega)) ?_)
        rw [ei, hc]
        cases c1 : decide ((c.toNat : Int) < 48) with
        | true =>
          have hn : quadF s = none := by rw [← hgo, if_pos (.inl (by have := of_decide_eq_true c1; omega))]
          repeat (first | refine Run.seq ?_ | refine Run.region ?_ | refine Ops.nil ?_ | refine Run.cond_t rfl ?_ | refine Ops.not rfl (by decide) ?_ | refine Ops.notU rfl (by decide) ?_ | refine Ops.pure T rfl (by decide) rfl ?_ | refine Ops.loadN 0 rfl (by decide) rfl rfl (T.aggOk rfl) (T.sizeOk rfl) rfl rfl ?_ | refine Ops.store 0 rfl rfl rfl rfl rfl (T.sizeOk rfl) rfl (Nat.le_of_ble_eq_true rfl) rfl rfl ?_)
          refine Run.retCT T 0 (by rw [hCf]; exact func89) results89 rfl rfl rfl rfl rfl rfl rfl (hR _ _ _ ?_)
          refine ⟨rfl, (a0, a1, a2, a3), ?_, ?_⟩
          · rw [hn]; rfl
          · rw [hn]; intro _ h; cases h
        | false =>
        have c1' := of_decide_eq_false c1
        repeat (first | refine Ops.gtr rfl (by decide) rfl rfl ?_ | refine Ops.pure T rfl (by decide) rfl ?_ | refine Ops.indexStr rfl (by decide) (T.undOk rfl) rfl rfl (by first | omega | (simp only [List.length_cons, List.length_nil] ; omega) | (simp; omega)) (by first | omega | (simp only [List.length_cons, List.length_nil] ; omega) | (simp; omega)) ?_)
        rw [ei, hc]
        cases c2 : decide ((57 : Int) < (c.toNat : Int)) with
        | true =>
          have hn : quadF s = none := by rw [← hgo, if_pos (.inr (.inl (by have := of_decide_eq_true c2; omega)))]
          repeat (first | refine Run.seq ?_ | refine Run.region ?_ | refine Ops.nil ?_ | refine Run.cond_t rfl ?_ | refine Ops.not rfl (by decide) ?_ | refine Ops.notU rfl (by decide) ?_ | refine Ops.pure T rfl (by decide) rfl ?_ | refine Ops.loadN 0 rfl (by decide) rfl rfl (T.aggOk rfl) (T.sizeOk rfl) rfl rfl ?_ | refine Ops.store 0 rfl rfl rfl rfl rfl (T.sizeOk rfl) rfl (Nat.le_of_ble_eq_true rfl) rfl rfl ?_)
          refine Run.retCT T 0 (by rw [hCf]; exact func89) results89 rfl rfl rfl rfl rfl rfl rfl (hR _ _ _ ?_)
          refine ⟨rfl, (a0, a1, a2, a3), ?_, ?_⟩
          · rw [hn]; rfl
          · rw [hn]; intro _ h; cases h
        | false =>
        have c2' := of_decide_eq_false c2
        repeat (first | refine Ops.gtr rfl (by decide) rfl rfl ?_ | refine Ops.pure T rfl (by decide) rfl ?_)
        cases c3 : decide ((0 : Int) < (d : Int)) with
        | true =>
          repeat (first | refine Ops.nil ?_ | refine Ops.eql rfl (by decide) rfl rfl ?_ | refine Ops.pure T rfl (by decide) rfl ?_)
          cases c4 : decide ((n : Int) = 0) with
          | true =>
            have hn : quadF s = none := by rw [← hgo, if_pos (.inr (.inr ⟨by have := of_decide_eq_true c3; omega, by have := of_decide_eq_true c4; omega⟩))]
            repeat (first | refine Run.seq ?_ | refine Run.region ?_ | refine Ops.nil ?_ | refine Run.cond_t rfl ?_ | refine Ops.pure T rfl (by decide) rfl ?_ | refine Ops.loadN 0 rfl (by decide) rfl rfl (T.aggOk rfl) (T.sizeOk rfl) rfl rfl ?_ | refine Ops.store 0 rfl rfl rfl rfl rfl (T.sizeOk rfl) rfl (Nat.le_of_ble_eq_true rfl) rfl rfl ?_)
            refine Run.retCT T 0 (by rw [hCf]; exact func89) results89 rfl rfl rfl rfl rfl rfl rfl (hR _ _ _ ?_)
            refine ⟨rfl, (a0, a1, a2, a3), ?_, ?_⟩
            · rw [hn]; rfl
            · rw [hn]; intro _ h; cases h
          | false =>
            have hz : ¬ (c.toNat < 48 ∨ 57 < c.toNat ∨ (0 < d ∧ n = 0)) := by have := of_decide_eq_false c4; omega
            rw [if_neg hz] at hgo
            repeat (first | refine Run.seq ?_ | refine Run.region ?_ | refine Run.skip ?_ | refine Run.cond_f rfl ?_ | refine Ops.pure T rfl (by decide) rfl ?_)
            refine Ops.mul rfl (by decide) rfl rfl (wI (by omega) (by omega)) ?_
            repeat (first | refine Ops.pure T rfl (by decide) rfl ?_ | refine Ops.indexStr rfl (by decide) (T.undOk rfl) rfl rfl (by first | omega | (simp only [List.length_cons, List.length_nil] ; omega) | (simp; omega)) (by first | omega | (simp only [List.length_cons, List.length_nil] ; omega) | (simp; omega)) ?_)
            rw [ei, hc]
            refine Ops.sub rfl (by decide) rfl rfl (w8 (by omega) (by omega)) ?_
            refine Ops.convInt rfl (by decide) (T.undOk rfl) (T.undOk rfl) rfl (wI (by omega) (by omega)) ?_
            repeat (first | refine Run.seq ?_ | refine Run.region ?_ | refine Ops.nil ?_ | refine Ops.add rfl (by decide) rfl rfl (wI (by first | omega | (simp only [List.length_cons, List.length_nil] ; omega) | (simp; omega)) (by first | omega | (simp only [List.length_cons, List.length_nil] ; omega) | (simp; omega))) ?_ | refine Ops.gtr rfl (by decide) rfl rfl ?_ | refine Ops.pure T rfl (by decide) rfl ?_)
            cases c5 : decide ((3 : Int) < (d : Int) + 1) with
            | true =>
              have hn : quadF s = none := by rw [← hgo, if_pos (by have := of_decide_eq_true c5; omega)]
              repeat (first | refine Run.seq ?_ | refine Run.region ?_ | refine Ops.nil ?_ | refine Run.cond_t rfl ?_ | refine Ops.pure T rfl (by decide) rfl ?_ | refine Ops.loadN 0 rfl (by decide) rfl rfl (T.aggOk rfl) (T.sizeOk rfl) rfl rfl ?_ | refine Ops.store 0 rfl rfl rfl rfl rfl (T.sizeOk rfl) rfl (Nat.le_of_ble_eq_true rfl) rfl rfl ?_)
              refine Run.retCT T 0 (by rw [hCf]; exact func89) results89 rfl rfl rfl rfl rfl rfl rfl (hR _ _ _ ?_)
              refine ⟨rfl, (a0, a1, a2, a3), ?_, ?_⟩
              · rw [hn]; rfl
              · rw [hn]; intro _ h; cases h
            | false =>
              have c5' := of_decide_eq_false c5
              rw [if_neg (by omega)] at hgo
              repeat (first | refine Run.region ?_ | refine Ops.nil ?_ | refine Run.skip ?_ | refine Run.inBlock ?_ | refine Run.cond_f rfl ?_ | refine Ops.add rfl (by decide) rfl rfl (wI (by first | omega | (simp only [List.length_cons, List.length_nil] ; omega) | (simp; omega)) (by first | omega | (simp only [List.length_cons, List.length_nil] ; omega) | (simp; omega))) ?_ | refine Ops.pure T rfl (by decide) rfl ?_)
              refine Run.keep [0, 2, 4, 5, 6, 7] [_, _, _, _, _, _] rfl ?_
              refine ih (s.length + 1 - (i + 1)) _ _ _ (by omega) ⟨i + 1, k, n * 10 + (c.toNat - 48), d + 1, (a0, a1, a2, a3), rfl, hk, by rw [Nat.pow_succ]; omega, by omega, by omega, .inl ⟨by omega, hgo⟩, ?_, rfl, rfl⟩
              have e7 : (n : Int) * 10 + ((c.toNat : Int) - 48) = ((n * 10 + (c.toNat - 48) : Nat) : Int) := by omega
              rw [e7]
              rfl
        | false =>
          have hz : ¬ (c.toNat < 48 ∨ 57 < c.toNat ∨ (0 < d ∧ n = 0)) := by have := of_decide_eq_false c3; omega
          rw [if_neg hz] at hgo
          repeat (first | refine Run.seq ?_ | refine Run.region ?_ | refine Ops.nil ?_ | refine Run.skip ?_ | refine Run.cond_f rfl ?_ | refine Ops.not rfl (by decide) ?_ | refine Ops.pure T rfl (by decide) rfl ?_)
          refine Ops.mul rfl (by decide) rfl rfl (wI (by omega) (by omega)) ?_
          repeat (first | refine Ops.pure T rfl (by decide) rfl ?_ | refine Ops.indexStr rfl (by decide) (T.undOk rfl) rfl rfl (by first | omega | (simp only [List.length_cons, List.length_nil] ; omega) | (simp; omega)) (by first | omega | (simp only [List.length_cons, List.length_nil] ; omega) | (simp; omega)) ?_)
          rw [ei, hc]
          refine Ops.sub rfl (by decide) rfl rfl (w8 (by omega) (by omega)) ?_
          refine Ops.convInt rfl (by decide) (T.undOk rfl) (T.undOk rfl) rfl (wI (by omega) (by omega)) ?_
          repeat (first | refine Run.seq ?_ | refine Run.region ?_ | refine Ops.nil ?_ | refine Ops.add rfl (by decide) rfl rfl (wI (by first | omega | (simp only [List.length_cons, List.length_nil] ; omega) | (simp; omega)) (by first | omega | (simp only [List.length_cons, List.length_nil] ; omega) | (simp; omega))) ?_ | refine Ops.gtr rfl (by decide) rfl rfl ?_ | refine Ops.pure T rfl (by decide) rfl ?_)
          cases c5 : decide ((3 : Int) < (d : Int) + 1) with
          | true =>
            have hn : quadF s = none := by rw [← hgo, if_pos (by have := of_decide_eq_true c5; omega)]
            repeat (first | refine Run.seq ?_ | refine Run.region ?_ | refine Ops.nil ?_ | refine Run.cond_t rfl ?_ | refine Ops.pure T rfl (by decide) rfl ?_ | refine Ops.loadN 0 rfl (by decide) rfl rfl (T.aggOk rfl) (T.sizeOk rfl) rfl rfl ?_ | refine Ops.store 0 rfl rfl rfl rfl rfl (T.sizeOk rfl) rfl (Nat.le_of_ble_eq_true rfl) rfl rfl ?_)
            refine Run.retCT T 0 (by rw [hCf]; exact func89) results89 rfl rfl rfl rfl rfl rfl rfl (hR _ _ _ ?_)
            refine ⟨rfl, (a0, a1, a2, a3), ?_, ?_⟩
            · rw [hn]; rfl
            · rw [hn]; intro _ h; cases h
          | false =>
            have c5' := of_decide_eq_false c5
            rw [if_neg (by omega)] at hgo
            repeat (first | refine Run.region ?_ | refine Ops.nil ?_ | refine Run.skip ?_ | refine Run.inBlock ?_ | refine Run.cond_f rfl ?_ | refine Ops.add rfl (by decide) rfl rfl (wI (by first | omega | (simp only [List.length_cons, List.length_nil] ; omega) | (simp; omega)) (by first | omega | (simp only [List.length_cons, List.length_nil] ; omega) | (simp; omega))) ?_ | refine Ops.pure T rfl (by decide) rfl ?_)
            refine Run.keep [0, 2, 4, 5, 6, 7] [_, _, _, _, _, _] rfl ?_
            refine ih (s.length + 1 - (i + 1)) _ _ _ (by omega) ⟨i + 1, k, n * 10 + (c.toNat - 48), d + 1, (a0, a1, a2, a3), rfl, hk, by rw [Nat.pow_succ]; omega, by omega, by omega, .inl ⟨by omega, hgo⟩, ?_, rfl, rfl⟩
            have e7 : (n : Int) * 10 + ((c.toNat : Int) - 48) = ((n * 10 + (c.toNat - 48) : Nat) : Int) := by omega
            rw [e7]
            rfl
  · have hq : quadF s = if ((Q4.l (a0, a1, a2, a3)).take k).length = 4 then some ((Q4.l (a0, a1, a2, a3)).take k) else none := by
      rcases hinv with h | h
      · omega
      · exact h.2
    have hol : ((Q4.l (a0, a1, a2, a3)).take k).length = k := by simp [Q4.l]; omega
    rw [hol] at hq
    repeat (first | refine Run.seq ?_ | refine Run.region ?_ | refine Ops.nil ?_ | refine Run.exit rfl ?_ | refine Ops.eql rfl (by decide) rfl rfl ?_ | refine Ops.pure T rfl (by decide) rfl ?_ | refine Ops.loadN 0 rfl (by decide) rfl rfl (T.aggOk rfl) (T.sizeOk rfl) rfl rfl ?_ | refine Ops.store 0 rfl rfl rfl rfl rfl (T.sizeOk rfl) rfl (Nat.le_of_ble_eq_true rfl) rfl rfl ?_)
    refine Run.retCT T 0 (by rw [hCf]; exact func89) results89 rfl rfl rfl rfl rfl rfl rfl (hR _ _ _ ?_)
    refine ⟨rfl, (a0, a1, a2, a3), ?_, ?_⟩
    · rw [hq]
      by_cases h4 : k = 4
      · subst h4; rfl
      · rw [if_neg h4, decide_eq_false (show ¬ (k : Int) = 4 by omega)]; rfl
    · intro l' hl'
      rw [hq] at hl'
      split at hl'
      · rename_i h4
        subst h4
        cases hl'
        rfl
      · cases hl'
end Go.V
