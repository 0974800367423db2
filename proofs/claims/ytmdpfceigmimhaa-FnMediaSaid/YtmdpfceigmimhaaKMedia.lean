/-
  Media types: what they tell.
-/
import Derived.Test.YtmdpfceigmimhaaVT
import Derived.Test.YtmdpfceigmimhaaV9
namespace Go.V
open Go.RowKit
set_option linter.unusedVariables false
set_option linter.unusedSimpArgs false
set_option maxRecDepth 10000
attribute [local irreducible] Run Ops

def mtIsDistributable : List (List UInt8) := [[97, 112, 112, 108, 105, 99, 97, 116, 105, 111, 110, 47, 118, 110, 100, 46, 100, 111, 99, 107, 101, 114, 46, 105, 109, 97, 103, 101, 46, 114, 111, 111, 116, 102, 115, 46, 102, 111, 114, 101, 105, 103, 110, 46, 100, 105, 102, 102, 46, 116, 97, 114, 46, 103, 122, 105, 112], [97, 112, 112, 108, 105, 99, 97, 116, 105, 111, 110, 47, 118, 110, 100, 46, 111, 99, 105, 46, 105, 109, 97, 103, 101, 46, 108, 97, 121, 101, 114, 46, 110, 111, 110, 100, 105, 115, 116, 114, 105, 98, 117, 116, 97, 98, 108, 101, 46, 118, 49, 46, 116, 97, 114, 43, 103, 122, 105, 112], [97, 112, 112, 108, 105, 99, 97, 116, 105, 111, 110, 47, 118, 110, 100, 46, 111, 99, 105, 46, 105, 109, 97, 103, 101, 46, 108, 97, 121, 101, 114, 46, 110, 111, 110, 100, 105, 115, 116, 114, 105, 98, 117, 116, 97, 98, 108, 101, 46, 118, 49, 46, 116, 97, 114]]
theorem types_IsDistributable (s : List UInt8) (I : Imm) : Pure Proofs.Try.prog 41 [str s] I fun v _ => v = .bool (!mtIsDistributable.contains s) := by
  refine Spec.enter 8 [(0, _)] Proofs.Try.func41 rfl Proofs.Try.ntmps41 (by simp) rfl ?_
  intro C hCf hR hCI
  repeat (first | refine Run.seq ?_ | refine Run.region ?_ | refine Ops.nil ?_ | refine Run.skip ?_ | refine Run.block ?_ | refine Run.inBlock ?_ | refine Run.exit rfl ?_ | refine Run.cond_t rfl ?_ | refine Run.cond_f rfl ?_ | refine Ops.eqlStr rfl (by decide) rfl rfl ?_ | refine Ops.pure T rfl (by decide) rfl ?_)
  refine Run.cond rfl rfl (fun hs0 => ?_) (fun hs0 => ?_)
  all_goals (try rw [hs0])
  all_goals (try simp only [decide_eq_true_eq, decide_eq_false_iff_not, Bool.not_eq_true', Bool.not_eq_false', Bool.and_eq_true, Bool.or_eq_true, Bool.and_eq_false_imp, Bool.or_eq_false_iff] at hs0)
  · skip
    repeat (first | refine Run.seq ?_ | refine Run.region ?_ | refine Ops.nil ?_ | refine Run.skip ?_ | refine Run.block ?_ | refine Run.inBlock ?_ | refine Run.exit rfl ?_ | refine Run.cond_t rfl ?_ | refine Run.cond_f rfl ?_ | refine Ops.eqlStr rfl (by decide) rfl rfl ?_ | refine Ops.pure T rfl (by decide) rfl ?_)
    refine Run.ret1 (by rw [hCf]; exact Proofs.Try.func41) Proofs.Try.results41 rfl (hR _ _ _ ?_)
    exact ⟨rfl, by simp_all [mtIsDistributable]⟩
  repeat (first | refine Run.seq ?_ | refine Run.region ?_ | refine Ops.nil ?_ | refine Run.skip ?_ | refine Run.block ?_ | refine Run.inBlock ?_ | refine Run.exit rfl ?_ | refine Run.cond_t rfl ?_ | refine Run.cond_f rfl ?_ | refine Ops.eqlStr rfl (by decide) rfl rfl ?_ | refine Ops.pure T rfl (by decide) rfl ?_)
  refine Run.cond rfl rfl (fun hs1 => ?_) (fun hs1 => ?_)
  all_goals (try rw [hs1])
  all_goals (try simp only [decide_eq_true_eq, decide_eq_false_iff_not, Bool.not_eq_true', Bool.not_eq_false', Bool.and_eq_true, Bool.or_eq_true, Bool.and_eq_false_imp, Bool.or_eq_false_iff] at hs1)
  · skip
    repeat (first | refine Run.seq ?_ | refine Run.region ?_ | refine Ops.nil ?_ | refine Run.skip ?_ | refine Run.block ?_ | refine Run.inBlock ?_ | refine Run.exit rfl ?_ | refine Run.cond_t rfl ?_ | refine Run.cond_f rfl ?_ | refine Ops.eqlStr rfl (by decide) rfl rfl ?_ | refine Ops.pure T rfl (by decide) rfl ?_)
    refine Run.ret1 (by rw [hCf]; exact Proofs.Try.func41) Proofs.Try.results41 rfl (hR _ _ _ ?_)
    exact ⟨rfl, by simp_all [mtIsDistributable]⟩
  repeat (first | refine Run.seq ?_ | refine Run.region ?_ | refine Ops.nil ?_ | refine Run.skip ?_ | refine Run.block ?_ | refine Run.inBlock ?_ | refine Run.exit rfl ?_ | refine Run.cond_t rfl ?_ | refine Run.cond_f rfl ?_ | refine Ops.eqlStr rfl (by decide) rfl rfl ?_ | refine Ops.pure T rfl (by decide) rfl ?_)
  refine Run.cond rfl rfl (fun hs2 => ?_) (fun hs2 => ?_)
  all_goals (try rw [hs2])
  all_goals (try simp only [decide_eq_true_eq, decide_eq_false_iff_not, Bool.not_eq_true', Bool.not_eq_false', Bool.and_eq_true, Bool.or_eq_true, Bool.and_eq_false_imp, Bool.or_eq_false_iff] at hs2)
  · skip
    repeat (first | refine Run.seq ?_ | refine Run.region ?_ | refine Ops.nil ?_ | refine Run.skip ?_ | refine Run.block ?_ | refine Run.inBlock ?_ | refine Run.exit rfl ?_ | refine Run.cond_t rfl ?_ | refine Run.cond_f rfl ?_ | refine Ops.eqlStr rfl (by decide) rfl rfl ?_ | refine Ops.pure T rfl (by decide) rfl ?_)
    refine Run.ret1 (by rw [hCf]; exact Proofs.Try.func41) Proofs.Try.results41 rfl (hR _ _ _ ?_)
    exact ⟨rfl, by simp_all [mtIsDistributable]⟩
  repeat (first | refine Run.seq ?_ | refine Run.region ?_ | refine Ops.nil ?_ | refine Run.skip ?_ | refine Run.block ?_ | refine Run.inBlock ?_ | refine Run.exit rfl ?_ | refine Run.cond_t rfl ?_ | refine Run.cond_f rfl ?_ | refine Ops.eqlStr rfl (by decide) rfl rfl ?_ | refine Ops.pure T rfl (by decide) rfl ?_)
  refine Run.ret1 (by rw [hCf]; exact Proofs.Try.func41) Proofs.Try.results41 rfl (hR _ _ _ ?_)
  exact ⟨rfl, by simp_all [mtIsDistributable]⟩

def mtIsImage : List (List UInt8) := [[97, 112, 112, 108, 105, 99, 97, 116, 105, 111, 110, 47, 118, 110, 100, 46, 111, 99, 105, 46, 105, 109, 97, 103, 101, 46, 109, 97, 110, 105, 102, 101, 115, 116, 46, 118, 49, 43, 106, 115, 111, 110], [97, 112, 112, 108, 105, 99, 97, 116, 105, 111, 110, 47, 118, 110, 100, 46, 100, 111, 99, 107, 101, 114, 46, 100, 105, 115, 116, 114, 105, 98, 117, 116, 105, 111, 110, 46, 109, 97, 110, 105, 102, 101, 115, 116, 46, 118, 50, 43, 106, 115, 111, 110]]
theorem types_IsImage (s : List UInt8) (I : Imm) : Pure Proofs.Try.prog 42 [str s] I fun v _ => v = .bool (mtIsImage.contains s) := by
  refine Spec.enter 7 [(0, _)] Proofs.Try.func42 rfl Proofs.Try.ntmps42 (by simp) rfl ?_
  intro C hCf hR hCI
  repeat (first | refine Run.seq ?_ | refine Run.region ?_ | refine Ops.nil ?_ | refine Run.skip ?_ | refine Run.block ?_ | refine Run.inBlock ?_ | refine Run.exit rfl ?_ | refine Run.cond_t rfl ?_ | refine Run.cond_f rfl ?_ | refine Ops.eqlStr rfl (by decide) rfl rfl ?_ | refine Ops.pure T rfl (by decide) rfl ?_)
  refine Run.cond rfl rfl (fun hs0 => ?_) (fun hs0 => ?_)
  all_goals (try rw [hs0])
  all_goals (try simp only [decide_eq_true_eq, decide_eq_false_iff_not, Bool.not_eq_true', Bool.not_eq_false', Bool.and_eq_true, Bool.or_eq_true, Bool.and_eq_false_imp, Bool.or_eq_false_iff] at hs0)
  · skip
    repeat (first | refine Run.seq ?_ | refine Run.region ?_ | refine Ops.nil ?_ | refine Run.skip ?_ | refine Run.block ?_ | refine Run.inBlock ?_ | refine Run.exit rfl ?_ | refine Run.cond_t rfl ?_ | refine Run.cond_f rfl ?_ | refine Ops.eqlStr rfl (by decide) rfl rfl ?_ | refine Ops.pure T rfl (by decide) rfl ?_)
    refine Run.ret1 (by rw [hCf]; exact Proofs.Try.func42) Proofs.Try.results42 rfl (hR _ _ _ ?_)
    exact ⟨rfl, by simp_all [mtIsImage]⟩
  repeat (first | refine Run.seq ?_ | refine Run.region ?_ | refine Ops.nil ?_ | refine Run.skip ?_ | refine Run.block ?_ | refine Run.inBlock ?_ | refine Run.exit rfl ?_ | refine Run.cond_t rfl ?_ | refine Run.cond_f rfl ?_ | refine Ops.eqlStr rfl (by decide) rfl rfl ?_ | refine Ops.pure T rfl (by decide) rfl ?_)
  refine Run.cond rfl rfl (fun hs1 => ?_) (fun hs1 => ?_)
  all_goals (try rw [hs1])
  all_goals (try simp only [decide_eq_true_eq, decide_eq_false_iff_not, Bool.not_eq_true', Bool.not_eq_false', Bool.and_eq_true, Bool.or_eq_true, Bool.and_eq_false_imp, Bool.or_eq_false_iff] at hs1)
  · skip
    repeat (first | refine Run.seq ?_ | refine Run.region ?_ | refine Ops.nil ?_ | refine Run.skip ?_ | refine Run.block ?_ | refine Run.inBlock ?_ | refine Run.exit rfl ?_ | refine Run.cond_t rfl ?_ | refine Run.cond_f rfl ?_ | refine Ops.eqlStr rfl (by decide) rfl rfl ?_ | refine Ops.pure T rfl (by decide) rfl ?_)
    refine Run.ret1 (by rw [hCf]; exact Proofs.Try.func42) Proofs.Try.results42 rfl (hR _ _ _ ?_)
    exact ⟨rfl, by simp_all [mtIsImage]⟩
  repeat (first | refine Run.seq ?_ | refine Run.region ?_ | refine Ops.nil ?_ | refine Run.skip ?_ | refine Run.block ?_ | refine Run.inBlock ?_ | refine Run.exit rfl ?_ | refine Run.cond_t rfl ?_ | refine Run.cond_f rfl ?_ | refine Ops.eqlStr rfl (by decide) rfl rfl ?_ | refine Ops.pure T rfl (by decide) rfl ?_)
  refine Run.ret1 (by rw [hCf]; exact Proofs.Try.func42) Proofs.Try.results42 rfl (hR _ _ _ ?_)
  exact ⟨rfl, by simp_all [mtIsImage]⟩

def mtIsIndex : List (List UInt8) := [[97, 112, 112, 108, 105, 99, 97, 116, 105, 111, 110, 47, 118, 110, 100, 46, 111, 99, 105, 46, 105, 109, 97, 103, 101, 46, 105, 110, 100, 101, 120, 46, 118, 49, 43, 106, 115, 111, 110], [97, 112, 112, 108, 105, 99, 97, 116, 105, 111, 110, 47, 118, 110, 100, 46, 100, 111, 99, 107, 101, 114, 46, 100, 105, 115, 116, 114, 105, 98, 117, 116, 105, 111, 110, 46, 109, 97, 110, 105, 102, 101, 115, 116, 46, 108, 105, 115, 116, 46, 118, 50, 43, 106, 115, 111, 110]]
theorem types_IsIndex (s : List UInt8) (I : Imm) : Pure Proofs.Try.prog 43 [str s] I fun v _ => v = .bool (mtIsIndex.contains s) := by
  refine Spec.enter 7 [(0, _)] Proofs.Try.func43 rfl Proofs.Try.ntmps43 (by simp) rfl ?_
  intro C hCf hR hCI
  repeat (first | refine Run.seq ?_ | refine Run.region ?_ | refine Ops.nil ?_ | refine Run.skip ?_ | refine Run.block ?_ | refine Run.inBlock ?_ | refine Run.exit rfl ?_ | refine Run.cond_t rfl ?_ | refine Run.cond_f rfl ?_ | refine Ops.eqlStr rfl (by decide) rfl rfl ?_ | refine Ops.pure T rfl (by decide) rfl ?_)
  refine Run.cond rfl rfl (fun hs0 => ?_) (fun hs0 => ?_)
  all_goals (try rw [hs0])
  all_goals (try simp only [decide_eq_true_eq, decide_eq_false_iff_not, Bool.not_eq_true', Bool.not_eq_false', Bool.and_eq_true, Bool.or_eq_true, Bool.and_eq_false_imp, Bool.or_eq_false_iff] at hs0)
  · skip
    repeat (first | refine Run.seq ?_ | refine Run.region ?_ | refine Ops.nil ?_ | refine Run.skip ?_ | refine Run.block ?_ | refine Run.inBlock ?_ | refine Run.exit rfl ?_ | refine Run.cond_t rfl ?_ | refine Run.cond_f rfl ?_ | refine Ops.eqlStr rfl (by decide) rfl rfl ?_ | refine Ops.pure T rfl (by decide) rfl ?_)
    refine Run.ret1 (by rw [hCf]; exact Proofs.Try.func43) Proofs.Try.results43 rfl (hR _ _ _ ?_)
    exact ⟨rfl, by simp_all [mtIsIndex]⟩
  repeat (first | refine Run.seq ?_ | refine Run.region ?_ | refine Ops.nil ?_ | refine Run.skip ?_ | refine Run.block ?_ | refine Run.inBlock ?_ | refine Run.exit rfl ?_ | refine Run.cond_t rfl ?_ | refine Run.cond_f rfl ?_ | refine Ops.eqlStr rfl (by decide) rfl rfl ?_ | refine Ops.pure T rfl (by decide) rfl ?_)
  refine Run.cond rfl rfl (fun hs1 => ?_) (fun hs1 => ?_)
  all_goals (try rw [hs1])
  all_goals (try simp only [decide_eq_true_eq, decide_eq_false_iff_not, Bool.not_eq_true', Bool.not_eq_false', Bool.and_eq_true, Bool.or_eq_true, Bool.and_eq_false_imp, Bool.or_eq_false_iff] at hs1)
  · skip
    repeat (first | refine Run.seq ?_ | refine Run.region ?_ | refine Ops.nil ?_ | refine Run.skip ?_ | refine Run.block ?_ | refine Run.inBlock ?_ | refine Run.exit rfl ?_ | refine Run.cond_t rfl ?_ | refine Run.cond_f rfl ?_ | refine Ops.eqlStr rfl (by decide) rfl rfl ?_ | refine Ops.pure T rfl (by decide) rfl ?_)
    refine Run.ret1 (by rw [hCf]; exact Proofs.Try.func43) Proofs.Try.results43 rfl (hR _ _ _ ?_)
    exact ⟨rfl, by simp_all [mtIsIndex]⟩
  repeat (first | refine Run.seq ?_ | refine Run.region ?_ | refine Ops.nil ?_ | refine Run.skip ?_ | refine Run.block ?_ | refine Run.inBlock ?_ | refine Run.exit rfl ?_ | refine Run.cond_t rfl ?_ | refine Run.cond_f rfl ?_ | refine Ops.eqlStr rfl (by decide) rfl rfl ?_ | refine Ops.pure T rfl (by decide) rfl ?_)
  refine Run.ret1 (by rw [hCf]; exact Proofs.Try.func43) Proofs.Try.results43 rfl (hR _ _ _ ?_)
  exact ⟨rfl, by simp_all [mtIsIndex]⟩

def mtIsConfig : List (List UInt8) := [[97, 112, 112, 108, 105, 99, 97, 116, 105, 111, 110, 47, 118, 110, 100, 46, 111, 99, 105, 46, 105, 109, 97, 103, 101, 46, 99, 111, 110, 102, 105, 103, 46, 118, 49, 43, 106, 115, 111, 110], [97, 112, 112, 108, 105, 99, 97, 116, 105, 111, 110, 47, 118, 110, 100, 46, 100, 111, 99, 107, 101, 114, 46, 99, 111, 110, 116, 97, 105, 110, 101, 114, 46, 105, 109, 97, 103, 101, 46, 118, 49, 43, 106, 115, 111, 110]]
theorem types_IsConfig (s : List UInt8) (I : Imm) : Pure Proofs.Try.prog 40 [str s] I fun v _ => v = .bool (mtIsConfig.contains s) := by
  refine Spec.enter 7 [(0, _)] Proofs.Try.func40 rfl Proofs.Try.ntmps40 (by simp) rfl ?_
  intro C hCf hR hCI
  repeat (first | refine Run.seq ?_ | refine Run.region ?_ | refine Ops.nil ?_ | refine Run.skip ?_ | refine Run.block ?_ | refine Run.inBlock ?_ | refine Run.exit rfl ?_ | refine Run.cond_t rfl ?_ | refine Run.cond_f rfl ?_ | refine Ops.eqlStr rfl (by decide) rfl rfl ?_ | refine Ops.pure T rfl (by decide) rfl ?_)
  refine Run.cond rfl rfl (fun hs0 => ?_) (fun hs0 => ?_)
  all_goals (try rw [hs0])
  all_goals (try simp only [decide_eq_true_eq, decide_eq_false_iff_not, Bool.not_eq_true', Bool.not_eq_false', Bool.and_eq_true, Bool.or_eq_true, Bool.and_eq_false_imp, Bool.or_eq_false_iff] at hs0)
  · skip
    repeat (first | refine Run.seq ?_ | refine Run.region ?_ | refine Ops.nil ?_ | refine Run.skip ?_ | refine Run.block ?_ | refine Run.inBlock ?_ | refine Run.exit rfl ?_ | refine Run.cond_t rfl ?_ | refine Run.cond_f rfl ?_ | refine Ops.eqlStr rfl (by decide) rfl rfl ?_ | refine Ops.pure T rfl (by decide) rfl ?_)
    refine Run.ret1 (by rw [hCf]; exact Proofs.Try.func40) Proofs.Try.results40 rfl (hR _ _ _ ?_)
    exact ⟨rfl, by simp_all [mtIsConfig]⟩
  repeat (first | refine Run.seq ?_ | refine Run.region ?_ | refine Ops.nil ?_ | refine Run.skip ?_ | refine Run.block ?_ | refine Run.inBlock ?_ | refine Run.exit rfl ?_ | refine Run.cond_t rfl ?_ | refine Run.cond_f rfl ?_ | refine Ops.eqlStr rfl (by decide) rfl rfl ?_ | refine Ops.pure T rfl (by decide) rfl ?_)
  refine Run.cond rfl rfl (fun hs1 => ?_) (fun hs1 => ?_)
  all_goals (try rw [hs1])
  all_goals (try simp only [decide_eq_true_eq, decide_eq_false_iff_not, Bool.not_eq_true', Bool.not_eq_false', Bool.and_eq_true, Bool.or_eq_true, Bool.and_eq_false_imp, Bool.or_eq_false_iff] at hs1)
  · skip
    repeat (first | refine Run.seq ?_ | refine Run.region ?_ | refine Ops.nil ?_ | refine Run.skip ?_ | refine Run.block ?_ | refine Run.inBlock ?_ | refine Run.exit rfl ?_ | refine Run.cond_t rfl ?_ | refine Run.cond_f rfl ?_ | refine Ops.eqlStr rfl (by decide) rfl rfl ?_ | refine Ops.pure T rfl (by decide) rfl ?_)
    refine Run.ret1 (by rw [hCf]; exact Proofs.Try.func40) Proofs.Try.results40 rfl (hR _ _ _ ?_)
    exact ⟨rfl, by simp_all [mtIsConfig]⟩
  repeat (first | refine Run.seq ?_ | refine Run.region ?_ | refine Ops.nil ?_ | refine Run.skip ?_ | refine Run.block ?_ | refine Run.inBlock ?_ | refine Run.exit rfl ?_ | refine Run.cond_t rfl ?_ | refine Run.cond_f rfl ?_ | refine Ops.eqlStr rfl (by decide) rfl rfl ?_ | refine Ops.pure T rfl (by decide) rfl ?_)
  refine Run.ret1 (by rw [hCf]; exact Proofs.Try.func40) Proofs.Try.results40 rfl (hR _ _ _ ?_)
  exact ⟨rfl, by simp_all [mtIsConfig]⟩

def mtIsSchema1 : List (List UInt8) := [[97, 112, 112, 108, 105, 99, 97, 116, 105, 111, 110, 47, 118, 110, 100, 46, 100, 111, 99, 107, 101, 114, 46, 100, 105, 115, 116, 114, 105, 98, 117, 116, 105, 111, 110, 46, 109, 97, 110, 105, 102, 101, 115, 116, 46, 118, 49, 43, 106, 115, 111, 110], [97, 112, 112, 108, 105, 99, 97, 116, 105, 111, 110, 47, 118, 110, 100, 46, 100, 111, 99, 107, 101, 114, 46, 100, 105, 115, 116, 114, 105, 98, 117, 116, 105, 111, 110, 46, 109, 97, 110, 105, 102, 101, 115, 116, 46, 118, 49, 43, 112, 114, 101, 116, 116, 121, 106, 119, 115]]
theorem types_IsSchema1 (s : List UInt8) (I : Imm) : Pure Proofs.Try.prog 45 [str s] I fun v _ => v = .bool (mtIsSchema1.contains s) := by
  refine Spec.enter 7 [(0, _)] Proofs.Try.func45 rfl Proofs.Try.ntmps45 (by simp) rfl ?_
  intro C hCf hR hCI
  repeat (first | refine Run.seq ?_ | refine Run.region ?_ | refine Ops.nil ?_ | refine Run.skip ?_ | refine Run.block ?_ | refine Run.inBlock ?_ | refine Run.exit rfl ?_ | refine Run.cond_t rfl ?_ | refine Run.cond_f rfl ?_ | refine Ops.eqlStr rfl (by decide) rfl rfl ?_ | refine Ops.pure T rfl (by decide) rfl ?_)
  refine Run.cond rfl rfl (fun hs0 => ?_) (fun hs0 => ?_)
  all_goals (try rw [hs0])
  all_goals (try simp only [decide_eq_true_eq, decide_eq_false_iff_not, Bool.not_eq_true', Bool.not_eq_false', Bool.and_eq_true, Bool.or_eq_true, Bool.and_eq_false_imp, Bool.or_eq_false_iff] at hs0)
  · skip
    repeat (first | refine Run.seq ?_ | refine Run.region ?_ | refine Ops.nil ?_ | refine Run.skip ?_ | refine Run.block ?_ | refine Run.inBlock ?_ | refine Run.exit rfl ?_ | refine Run.cond_t rfl ?_ | refine Run.cond_f rfl ?_ | refine Ops.eqlStr rfl (by decide) rfl rfl ?_ | refine Ops.pure T rfl (by decide) rfl ?_)
    refine Run.ret1 (by rw [hCf]; exact Proofs.Try.func45) Proofs.Try.results45 rfl (hR _ _ _ ?_)
    exact ⟨rfl, by simp_all [mtIsSchema1]⟩
  repeat (first | refine Run.seq ?_ | refine Run.region ?_ | refine Ops.nil ?_ | refine Run.skip ?_ | refine Run.block ?_ | refine Run.inBlock ?_ | refine Run.exit rfl ?_ | refine Run.cond_t rfl ?_ | refine Run.cond_f rfl ?_ | refine Ops.eqlStr rfl (by decide) rfl rfl ?_ | refine Ops.pure T rfl (by decide) rfl ?_)
  refine Run.cond rfl rfl (fun hs1 => ?_) (fun hs1 => ?_)
  all_goals (try rw [hs1])
  all_goals (try simp only [decide_eq_true_eq, decide_eq_false_iff_not, Bool.not_eq_true', Bool.not_eq_false', Bool.and_eq_true, Bool.or_eq_true, Bool.and_eq_false_imp, Bool.or_eq_false_iff] at hs1)
  · skip
    repeat (first | refine Run.seq ?_ | refine Run.region ?_ | refine Ops.nil ?_ | refine Run.skip ?_ | refine Run.block ?_ | refine Run.inBlock ?_ | refine Run.exit rfl ?_ | refine Run.cond_t rfl ?_ | refine Run.cond_f rfl ?_ | refine Ops.eqlStr rfl (by decide) rfl rfl ?_ | refine Ops.pure T rfl (by decide) rfl ?_)
    refine Run.ret1 (by rw [hCf]; exact Proofs.Try.func45) Proofs.Try.results45 rfl (hR _ _ _ ?_)
    exact ⟨rfl, by simp_all [mtIsSchema1]⟩
  repeat (first | refine Run.seq ?_ | refine Run.region ?_ | refine Ops.nil ?_ | refine Run.skip ?_ | refine Run.block ?_ | refine Run.inBlock ?_ | refine Run.exit rfl ?_ | refine Run.cond_t rfl ?_ | refine Run.cond_f rfl ?_ | refine Ops.eqlStr rfl (by decide) rfl rfl ?_ | refine Ops.pure T rfl (by decide) rfl ?_)
  refine Run.ret1 (by rw [hCf]; exact Proofs.Try.func45) Proofs.Try.results45 rfl (hR _ _ _ ?_)
  exact ⟨rfl, by simp_all [mtIsSchema1]⟩

def mtIsLayer : List (List UInt8) := [[97, 112, 112, 108, 105, 99, 97, 116, 105, 111, 110, 47, 118, 110, 100, 46, 100, 111, 99, 107, 101, 114, 46, 105, 109, 97, 103, 101, 46, 114, 111, 111, 116, 102, 115, 46, 100, 105, 102, 102, 46, 116, 97, 114, 46, 103, 122, 105, 112], [97, 112, 112, 108, 105, 99, 97, 116, 105, 111, 110, 47, 118, 110, 100, 46, 100, 111, 99, 107, 101, 114, 46, 105, 109, 97, 103, 101, 46, 114, 111, 111, 116, 102, 115, 46, 100, 105, 102, 102, 46, 116, 97, 114], [97, 112, 112, 108, 105, 99, 97, 116, 105, 111, 110, 47, 118, 110, 100, 46, 111, 99, 105, 46, 105, 109, 97, 103, 101, 46, 108, 97, 121, 101, 114, 46, 118, 49, 46, 116, 97, 114, 43, 103, 122, 105, 112], [97, 112, 112, 108, 105, 99, 97, 116, 105, 111, 110, 47, 118, 110, 100, 46, 111, 99, 105, 46, 105, 109, 97, 103, 101, 46, 108, 97, 121, 101, 114, 46, 118, 49, 46, 116, 97, 114, 43, 122, 115, 116, 100], [97, 112, 112, 108, 105, 99, 97, 116, 105, 111, 110, 47, 118, 110, 100, 46, 111, 99, 105, 46, 105, 109, 97, 103, 101, 46, 108, 97, 121, 101, 114, 46, 118, 49, 46, 116, 97, 114], [97, 112, 112, 108, 105, 99, 97, 116, 105, 111, 110, 47, 118, 110, 100, 46, 100, 111, 99, 107, 101, 114, 46, 105, 109, 97, 103, 101, 46, 114, 111, 111, 116, 102, 115, 46, 102, 111, 114, 101, 105, 103, 110, 46, 100, 105, 102, 102, 46, 116, 97, 114, 46, 103, 122, 105, 112], [97, 112, 112, 108, 105, 99, 97, 116, 105, 111, 110, 47, 118, 110, 100, 46, 111, 99, 105, 46, 105, 109, 97, 103, 101, 46, 108, 97, 121, 101, 114, 46, 110, 111, 110, 100, 105, 115, 116, 114, 105, 98, 117, 116, 97, 98, 108, 101, 46, 118, 49, 46, 116, 97, 114, 43, 103, 122, 105, 112], [97, 112, 112, 108, 105, 99, 97, 116, 105, 111, 110, 47, 118, 110, 100, 46, 111, 99, 105, 46, 105, 109, 97, 103, 101, 46, 108, 97, 121, 101, 114, 46, 110, 111, 110, 100, 105, 115, 116, 114, 105, 98, 117, 116, 97, 98, 108, 101, 46, 118, 49, 46, 116, 97, 114]]
set_option maxHeartbeats 800000 in
theorem types_IsLayer (s : List UInt8) (I : Imm) : Pure Proofs.Try.prog 44 [str s] I fun v _ => v = .bool (mtIsLayer.contains s) := by
  refine Spec.enter 13 [(0, _)] Proofs.Try.func44 rfl Proofs.Try.ntmps44 (by simp) rfl ?_
  intro C hCf hR hCI
  repeat (first | refine Run.seq ?_ | refine Run.region ?_ | refine Ops.nil ?_ | refine Run.skip ?_ | refine Run.block ?_ | refine Run.inBlock ?_ | refine Run.exit rfl ?_ | refine Run.cond_t rfl ?_ | refine Run.cond_f rfl ?_ | refine Ops.eqlStr rfl (by decide) rfl rfl ?_ | refine Ops.pure T rfl (by decide) rfl ?_)
  refine Run.cond rfl rfl (fun hs0 => ?_) (fun hs0 => ?_)
  all_goals (try rw [hs0])
  all_goals (try simp only [decide_eq_true_eq, decide_eq_false_iff_not, Bool.not_eq_true', Bool.not_eq_false', Bool.and_eq_true, Bool.or_eq_true, Bool.and_eq_false_imp, Bool.or_eq_false_iff] at hs0)
  · skip
    repeat (first | refine Run.seq ?_ | refine Run.region ?_ | refine Ops.nil ?_ | refine Run.skip ?_ | refine Run.block ?_ | refine Run.inBlock ?_ | refine Run.exit rfl ?_ | refine Run.cond_t rfl ?_ | refine Run.cond_f rfl ?_ | refine Ops.eqlStr rfl (by decide) rfl rfl ?_ | refine Ops.pure T rfl (by decide) rfl ?_)
    refine Run.ret1 (by rw [hCf]; exact Proofs.Try.func44) Proofs.Try.results44 rfl (hR _ _ _ ?_)
    exact ⟨rfl, by simp_all [mtIsLayer]⟩
  repeat (first | refine Run.seq ?_ | refine Run.region ?_ | refine Ops.nil ?_ | refine Run.skip ?_ | refine Run.block ?_ | refine Run.inBlock ?_ | refine Run.exit rfl ?_ | refine Run.cond_t rfl ?_ | refine Run.cond_f rfl ?_ | refine Ops.eqlStr rfl (by decide) rfl rfl ?_ | refine Ops.pure T rfl (by decide) rfl ?_)
  refine Run.cond rfl rfl (fun hs1 => ?_) (fun hs1 => ?_)
  all_goals (try rw [hs1])
  all_goals (try simp only [decide_eq_true_eq, decide_eq_false_iff_not, Bool.not_eq_true', Bool.not_eq_false', Bool.and_eq_true, Bool.or_eq_true, Bool.and_eq_false_imp, Bool.or_eq_false_iff] at hs1)
  · skip
    repeat (first | refine Run.seq ?_ | refine Run.region ?_ | refine Ops.nil ?_ | refine Run.skip ?_ | refine Run.block ?_ | refine Run.inBlock ?_ | refine Run.exit rfl ?_ | refine Run.cond_t rfl ?_ | refine Run.cond_f rfl ?_ | refine Ops.eqlStr rfl (by decide) rfl rfl ?_ | refine Ops.pure T rfl (by decide) rfl ?_)
    refine Run.ret1 (by rw [hCf]; exact Proofs.Try.func44) Proofs.Try.results44 rfl (hR _ _ _ ?_)
    exact ⟨rfl, by simp_all [mtIsLayer]⟩
  repeat (first | refine Run.seq ?_ | refine Run.region ?_ | refine Ops.nil ?_ | refine Run.skip ?_ | refine Run.block ?_ | refine Run.inBlock ?_ | refine Run.exit rfl ?_ | refine Run.cond_t rfl ?_ | refine Run.cond_f rfl ?_ | refine Ops.eqlStr rfl (by decide) rfl rfl ?_ | refine Ops.pure T rfl (by decide) rfl ?_)
  refine Run.cond rfl rfl (fun hs2 => ?_) (fun hs2 => ?_)
  all_goals (try rw [hs2])
  all_goals (try simp only [decide_eq_true_eq, decide_eq_false_iff_not, Bool.not_eq_true', Bool.not_eq_false', Bool.and_eq_true, Bool.or_eq_true, Bool.and_eq_false_imp, Bool.or_eq_false_iff] at hs2)
  · skip
    repeat (first | refine Run.seq ?_ | refine Run.region ?_ | refine Ops.nil ?_ | refine Run.skip ?_ | refine Run.block ?_ | refine Run.inBlock ?_ | refine Run.exit rfl ?_ | refine Run.cond_t rfl ?_ | refine Run.cond_f rfl ?_ | refine Ops.eqlStr rfl (by decide) rfl rfl ?_ | refine Ops.pure T rfl (by decide) rfl ?_)
    refine Run.ret1 (by rw [hCf]; exact Proofs.Try.func44) Proofs.Try.results44 rfl (hR _ _ _ ?_)
    exact ⟨rfl, by simp_all [mtIsLayer]⟩
  repeat (first | refine Run.seq ?_ | refine Run.region ?_ | refine Ops.nil ?_ | refine Run.skip ?_ | refine Run.block ?_ | refine Run.inBlock ?_ | refine Run.exit rfl ?_ | refine Run.cond_t rfl ?_ | refine Run.cond_f rfl ?_ | refine Ops.eqlStr rfl (by decide) rfl rfl ?_ | refine Ops.pure T rfl (by decide) rfl ?_)
  refine Run.cond rfl rfl (fun hs3 => ?_) (fun hs3 => ?_)
  all_goals (try rw [hs3])
  all_goals (try simp only [decide_eq_true_eq, decide_eq_false_iff_not, Bool.not_eq_true', Bool.not_eq_false', Bool.and_eq_true, Bool.or_eq_true, Bool.and_eq_false_imp, Bool.or_eq_false_iff] at hs3)
  · skip
    repeat (first | refine Run.seq ?_ | refine Run.region ?_ | refine Ops.nil ?_ | refine Run.skip ?_ | refine Run.block ?_ | refine Run.inBlock ?_ | refine Run.exit rfl ?_ | refine Run.cond_t rfl ?_ | refine Run.cond_f rfl ?_ | refine Ops.eqlStr rfl (by decide) rfl rfl ?_ | refine Ops.pure T rfl (by decide) rfl ?_)
    refine Run.ret1 (by rw [hCf]; exact Proofs.Try.func44) Proofs.Try.results44 rfl (hR _ _ _ ?_)
    exact ⟨rfl, by simp_all [mtIsLayer]⟩
  repeat (first | refine Run.seq ?_ | refine Run.region ?_ | refine Ops.nil ?_ | refine Run.skip ?_ | refine Run.block ?_ | refine Run.inBlock ?_ | refine Run.exit rfl ?_ | refine Run.cond_t rfl ?_ | refine Run.cond_f rfl ?_ | refine Ops.eqlStr rfl (by decide) rfl rfl ?_ | refine Ops.pure T rfl (by decide) rfl ?_)
  refine Run.cond rfl rfl (fun hs4 => ?_) (fun hs4 => ?_)
  all_goals (try rw [hs4])
  all_goals (try simp only [decide_eq_true_eq, decide_eq_false_iff_not, Bool.not_eq_true', Bool.not_eq_false', Bool.and_eq_true, Bool.or_eq_true, Bool.and_eq_false_imp, Bool.or_eq_false_iff] at hs4)
  · skip
    repeat (first | refine Run.seq ?_ | refine Run.region ?_ | refine Ops.nil ?_ | refine Run.skip ?_ | refine Run.block ?_ | refine Run.inBlock ?_ | refine Run.exit rfl ?_ | refine Run.cond_t rfl ?_ | refine Run.cond_f rfl ?_ | refine Ops.eqlStr rfl (by decide) rfl rfl ?_ | refine Ops.pure T rfl (by decide) rfl ?_)
    refine Run.ret1 (by rw [hCf]; exact Proofs.Try.func44) Proofs.Try.results44 rfl (hR _ _ _ ?_)
    exact ⟨rfl, by simp_all [mtIsLayer]⟩
  repeat (first | refine Run.seq ?_ | refine Run.region ?_ | refine Ops.nil ?_ | refine Run.skip ?_ | refine Run.block ?_ | refine Run.inBlock ?_ | refine Run.exit rfl ?_ | refine Run.cond_t rfl ?_ | refine Run.cond_f rfl ?_ | refine Ops.eqlStr rfl (by decide) rfl rfl ?_ | refine Ops.pure T rfl (by decide) rfl ?_)
  refine Run.cond rfl rfl (fun hs5 => ?_) (fun hs5 => ?_)
  all_goals (try rw [hs5])
  all_goals (try simp only [decide_eq_true_eq, decide_eq_false_iff_not, Bool.not_eq_true', Bool.not_eq_false', Bool.and_eq_true, Bool.or_eq_true, Bool.and_eq_false_imp, Bool.or_eq_false_iff] at hs5)
  · skip
    repeat (first | refine Run.seq ?_ | refine Run.region ?_ | refine Ops.nil ?_ | refine Run.skip ?_ | refine Run.block ?_ | refine Run.inBlock ?_ | refine Run.exit rfl ?_ | refine Run.cond_t rfl ?_ | refine Run.cond_f rfl ?_ | refine Ops.eqlStr rfl (by decide) rfl rfl ?_ | refine Ops.pure T rfl (by decide) rfl ?_)
    refine Run.ret1 (by rw [hCf]; exact Proofs.Try.func44) Proofs.Try.results44 rfl (hR _ _ _ ?_)
    exact ⟨rfl, by simp_all [mtIsLayer]⟩
  repeat (first | refine Run.seq ?_ | refine Run.region ?_ | refine Ops.nil ?_ | refine Run.skip ?_ | refine Run.block ?_ | refine Run.inBlock ?_ | refine Run.exit rfl ?_ | refine Run.cond_t rfl ?_ | refine Run.cond_f rfl ?_ | refine Ops.eqlStr rfl (by decide) rfl rfl ?_ | refine Ops.pure T rfl (by decide) rfl ?_)
  refine Run.cond rfl rfl (fun hs6 => ?_) (fun hs6 => ?_)
  all_goals (try rw [hs6])
  all_goals (try simp only [decide_eq_true_eq, decide_eq_false_iff_not, Bool.not_eq_true', Bool.not_eq_false', Bool.and_eq_true, Bool.or_eq_true, Bool.and_eq_false_imp, Bool.or_eq_false_iff] at hs6)
  · skip
    repeat (first | refine Run.seq ?_ | refine Run.region ?_ | refine Ops.nil ?_ | refine Run.skip ?_ | refine Run.block ?_ | refine Run.inBlock ?_ | refine Run.exit rfl ?_ | refine Run.cond_t rfl ?_ | refine Run.cond_f rfl ?_ | refine Ops.eqlStr rfl (by decide) rfl rfl ?_ | refine Ops.pure T rfl (by decide) rfl ?_)
    refine Run.ret1 (by rw [hCf]; exact Proofs.Try.func44) Proofs.Try.results44 rfl (hR _ _ _ ?_)
    exact ⟨rfl, by simp_all [mtIsLayer]⟩
  repeat (first | refine Run.seq ?_ | refine Run.region ?_ | refine Ops.nil ?_ | refine Run.skip ?_ | refine Run.block ?_ | refine Run.inBlock ?_ | refine Run.exit rfl ?_ | refine Run.cond_t rfl ?_ | refine Run.cond_f rfl ?_ | refine Ops.eqlStr rfl (by decide) rfl rfl ?_ | refine Ops.pure T rfl (by decide) rfl ?_)
  refine Run.cond rfl rfl (fun hs7 => ?_) (fun hs7 => ?_)
  all_goals (try rw [hs7])
  all_goals (try simp only [decide_eq_true_eq, decide_eq_false_iff_not, Bool.not_eq_true', Bool.not_eq_false', Bool.and_eq_true, Bool.or_eq_true, Bool.and_eq_false_imp, Bool.or_eq_false_iff] at hs7)
  · skip
    repeat (first | refine Run.seq ?_ | refine Run.region ?_ | refine Ops.nil ?_ | refine Run.skip ?_ | refine Run.block ?_ | refine Run.inBlock ?_ | refine Run.exit rfl ?_ | refine Run.cond_t rfl ?_ | refine Run.cond_f rfl ?_ | refine Ops.eqlStr rfl (by decide) rfl rfl ?_ | refine Ops.pure T rfl (by decide) rfl ?_)
    refine Run.ret1 (by rw [hCf]; exact Proofs.Try.func44) Proofs.Try.results44 rfl (hR _ _ _ ?_)
    exact ⟨rfl, by simp_all [mtIsLayer]⟩
  repeat (first | refine Run.seq ?_ | refine Run.region ?_ | refine Ops.nil ?_ | refine Run.skip ?_ | refine Run.block ?_ | refine Run.inBlock ?_ | refine Run.exit rfl ?_ | refine Run.cond_t rfl ?_ | refine Run.cond_f rfl ?_ | refine Ops.eqlStr rfl (by decide) rfl rfl ?_ | refine Ops.pure T rfl (by decide) rfl ?_)
  refine Run.ret1 (by rw [hCf]; exact Proofs.Try.func44) Proofs.Try.results44 rfl (hR _ _ _ ?_)
  exact ⟨rfl, by simp_all [mtIsLayer]⟩

end Go.V
