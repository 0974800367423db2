/-
  Texts parted at a byte, and their first place of a byte.
-/
import Derived.Test.YtmdpfceigmimhaaKIdx
import Derived.Test.YtmdpfceigmimhaaV10
namespace Go.V
open Go.RowKit
set_option linter.unusedVariables false
set_option linter.unusedSimpArgs false
set_option maxRecDepth 10000
attribute [local irreducible] Run Ops

theorem ix_lt {c : UInt8} : ∀ {s : List UInt8} {k : Nat}, ix c s = some k → k < s.length
  | [], k, h => by simp [ix] at h
  | x :: r, k, h => by
    simp only [ix] at h
    split at h
    · simp at h; subst h; simp
    · cases hr : ix c r with
      | none => rw [hr] at h; simp at h
      | some j =>
        rw [hr] at h; simp at h
        have := ix_lt hr
        simp; omega
/-- the parts -/
def spl (c : UInt8) : List UInt8 → List (List UInt8)
  | [] => [[]]
  | x :: r => if x = c then [] :: spl c r else match spl c r with
    | [] => [[x]]
    | y :: ys => (x :: y) :: ys
theorem spl_none {c : UInt8} : ∀ {s : List UInt8}, ix c s = none → spl c s = [s]
  | [], _ => rfl
  | x :: r, h => by
    simp only [ix] at h
    split at h
    · simp at h
    · rename_i hx
      have := spl_none (s := r) (by simpa using h)
      simp [spl, hx, this]
theorem spl_some {c : UInt8} : ∀ {s : List UInt8} {k : Nat}, ix c s = some k → spl c s = s.take k :: spl c (s.drop (k + 1))
  | [], k, h => by simp [ix] at h
  | x :: r, k, h => by
    simp only [ix] at h
    split at h
    · rename_i hx
      simp at h; subst h; simp [spl, hx]
    · rename_i hx
      cases hr : ix c r with
      | none => rw [hr] at h; simp at h
      | some j =>
        rw [hr] at h; simp at h; subst h
        simp [spl, hx, spl_some hr]
theorem spl_pos (c : UInt8) : ∀ s : List UInt8, spl c s ≠ []
  | [] => by simp [spl]
  | x :: r => by
    simp only [spl]
    split
    · simp
    · split <;> simp
theorem spl_len (c : UInt8) : ∀ s : List UInt8, (spl c s).length ≤ s.length + 1
  | [] => by simp [spl]
  | x :: r => by
    have := spl_len c r
    simp only [spl]
    split
    · simp; omega
    · split
      · simp
      · rename_i h; rw [h] at this; simp at this ⊢; omega
theorem spl_mem (c : UInt8) : ∀ (s : List UInt8) (x : List UInt8), x ∈ spl c s → ∀ b ∈ x, b ∈ s ∧ b ≠ c
  | [], x, h => by simp [spl] at h; subst h; simp
  | y :: r, x, h => by
    simp only [spl] at h
    split at h
    · rename_i hy
      rcases List.mem_cons.1 h with rfl | h
      · simp
      · intro b hb
        have := spl_mem c r x h b hb
        exact ⟨List.mem_cons_of_mem _ this.1, this.2⟩
    · rename_i hy
      split at h
      · simp at h; subst h
        intro b hb; simp at hb; subst hb; exact ⟨List.mem_cons_self, hy⟩
      · rename_i z zs hz
        rcases List.mem_cons.1 h with rfl | h
        · intro b hb
          rcases List.mem_cons.1 hb with rfl | hb
          · exact ⟨List.mem_cons_self, hy⟩
          · have := spl_mem c r z (by rw [hz]; exact List.mem_cons_self) b hb
            exact ⟨List.mem_cons_of_mem _ this.1, this.2⟩
        · intro b hb
          have := spl_mem c r x (by rw [hz]; exact List.mem_cons_of_mem _ h) b hb
          exact ⟨List.mem_cons_of_mem _ this.1, this.2⟩

theorem ixI_neg {c : UInt8} {s : List UInt8} : ixI c s < 0 ↔ ix c s = none := by
  unfold ixI
  cases ix c s with
  | none => simp
  | some k => simp
theorem ixI_some {c : UInt8} {s : List UInt8} (h : ¬ ixI c s < 0) : ∃ k, ix c s = some k ∧ ixI c s = k := by
  unfold ixI at h ⊢
  cases hk : ix c s with
  | none => rw [hk] at h; simp at h
  | some k => exact ⟨k, rfl, rfl⟩

set_option maxHeartbeats 1000000 in
theorem v1_zzSplit (s : List UInt8) (c : UInt8) (I : Imm) (hs : s.length ≤ 1099511627776) :
    Spec Proofs.Try.prog 64 [str s, str [c]] I [] fun v J M => Gr tStr J 9 v (spl c s) M := by
  refine Spec.enter 58 [(0, _), (1, _)] Proofs.Try.func64 rfl Proofs.Try.ntmps64 (by simp) rfl ?_
  intro C hCf hR hCI
  repeat (first | refine Run.seq ?_ | refine Run.region ?_ | refine Ops.nil ?_ | refine Run.skip ?_ | refine Run.block ?_ | refine Run.inBlock ?_ | refine Run.exit rfl ?_ | refine Run.cond_t rfl ?_ | refine Run.cond_f rfl ?_ | refine Ops.add rfl (by decide) rfl rfl (wI (by first | omega | (simp only [List.length_cons, List.length_nil] ; omega) | (simp; omega)) (by first | omega | (simp only [List.length_cons, List.length_nil] ; omega) | (simp; omega))) ?_ | refine Ops.eql rfl (by decide) rfl rfl ?_ | refine Ops.gtr rfl (by decide) rfl rfl ?_ | refine Ops.lss rfl (by decide) rfl rfl ?_ | refine Ops.pure T rfl (by decide) rfl ?_ | refine Ops.lenS T rfl (by decide) rfl rfl ?_ | refine Ops.sliceStr rfl (by decide) (T.undOk rfl) rfl rfl rfl (by first | omega | (simp only [List.length_cons, List.length_nil] ; omega) | (simp; omega)) (by first | omega | (simp only [List.length_cons, List.length_nil] ; omega) | (simp; omega)) (by first | omega | (simp only [List.length_cons, List.length_nil] ; omega) | (simp; omega)) ?_ | refine Ops.sliceStrLo rfl (by decide) (T.undOk rfl) rfl rfl (by first | omega | (simp only [List.length_cons, List.length_nil] ; omega) | (simp; omega)) (by first | omega | (simp only [List.length_cons, List.length_nil] ; omega) | (simp; omega)) ?_ | refine Ops.sliceStrHi rfl (by decide) (T.undOk rfl) rfl rfl (by first | omega | (simp only [List.length_cons, List.length_nil] ; omega) | (simp; omega)) (by first | omega | (simp only [List.length_cons, List.length_nil] ; omega) | (simp; omega)) ?_)
  refine Run.keep [0, 1, 5] [_, _, _] rfl ?_
  refine Run.rounds (fun m env L J => ∃ r xs v M, m = r.length ∧ xs.length + r.length ≤ s.length ∧ xs ++ spl c r = spl c s ∧ Gr tStr J 9 v xs M ∧ env = [(0, str r), (1, str [c]), (5, v)] ∧ L = M) s.length ⟨s, [], _, [], rfl, by simp, rfl, Gr.nil _ _ _, rfl, rfl⟩ ?_
  rintro m env L J ⟨r, xs, v, M, rfl, hlen, hspl, hG, rfl, rfl⟩ ih
  repeat (first | refine Run.seq ?_ | refine Run.region ?_ | refine Ops.nil ?_ | refine Run.skip ?_ | refine Run.block ?_ | refine Run.inBlock ?_ | refine Run.exit rfl ?_ | refine Run.cond_t rfl ?_ | refine Run.cond_f rfl ?_ | refine Ops.add rfl (by decide) rfl rfl (wI (by first | omega | (simp only [List.length_cons, List.length_nil] ; omega) | (simp; omega)) (by first | omega | (simp only [List.length_cons, List.length_nil] ; omega) | (simp; omega))) ?_ | refine Ops.eql rfl (by decide) rfl rfl ?_ | refine Ops.gtr rfl (by decide) rfl rfl ?_ | refine Ops.lss rfl (by decide) rfl rfl ?_ | refine Ops.pure T rfl (by decide) rfl ?_ | refine Ops.lenS T rfl (by decide) rfl rfl ?_ | refine Ops.sliceStr rfl (by decide) (T.undOk rfl) rfl rfl rfl (by first | omega | (simp only [List.length_cons, List.length_nil] ; omega) | (simp; omega)) (by first | omega | (simp only [List.length_cons, List.length_nil] ; omega) | (simp; omega)) (by first | omega | (simp only [List.length_cons, List.length_nil] ; omega) | (simp; omega)) ?_ | refine Ops.sliceStrLo rfl (by decide) (T.undOk rfl) rfl rfl (by first | omega | (simp only [List.length_cons, List.length_nil] ; omega) | (simp; omega)) (by first | omega | (simp only [List.length_cons, List.length_nil] ; omega) | (simp; omega)) ?_ | refine Ops.sliceStrHi rfl (by decide) (T.undOk rfl) rfl rfl (by first | omega | (simp only [List.length_cons, List.length_nil] ; omega) | (simp; omega)) (by first | omega | (simp only [List.length_cons, List.length_nil] ; omega) | (simp; omega)) ?_)
  refine Ops.call ((v1_zzIndex r c J (by omega))) rfl (by decide) Proofs.Try.call81 rfl ?_
  rintro _ J1 hle rfl
  replace hG := hG.mono hle
  repeat (first | refine Run.seq ?_ | refine Run.region ?_ | refine Ops.nil ?_ | refine Run.skip ?_ | refine Run.block ?_ | refine Run.inBlock ?_ | refine Run.exit rfl ?_ | refine Run.cond_t rfl ?_ | refine Run.cond_f rfl ?_ | refine Ops.add rfl (by decide) rfl rfl (wI (by first | omega | (simp only [List.length_cons, List.length_nil] ; omega) | (simp; omega)) (by first | omega | (simp only [List.length_cons, List.length_nil] ; omega) | (simp; omega))) ?_ | refine Ops.eql rfl (by decide) rfl rfl ?_ | refine Ops.gtr rfl (by decide) rfl rfl ?_ | refine Ops.lss rfl (by decide) rfl rfl ?_ | refine Ops.pure T rfl (by decide) rfl ?_ | refine Ops.lenS T rfl (by decide) rfl rfl ?_ | refine Ops.sliceStr rfl (by decide) (T.undOk rfl) rfl rfl rfl (by first | omega | (simp only [List.length_cons, List.length_nil] ; omega) | (simp; omega)) (by first | omega | (simp only [List.length_cons, List.length_nil] ; omega) | (simp; omega)) (by first | omega | (simp only [List.length_cons, List.length_nil] ; omega) | (simp; omega)) ?_ | refine Ops.sliceStrLo rfl (by decide) (T.undOk rfl) rfl rfl (by first | omega | (simp only [List.length_cons, List.length_nil] ; omega) | (simp; omega)) (by first | omega | (simp only [List.length_cons, List.length_nil] ; omega) | (simp; omega)) ?_ | refine Ops.sliceStrHi rfl (by decide) (T.undOk rfl) rfl rfl (by first | omega | (simp only [List.length_cons, List.length_nil] ; omega) | (simp; omega)) (by first | omega | (simp only [List.length_cons, List.length_nil] ; omega) | (simp; omega)) ?_)
  refine Run.cond rfl rfl (fun h => ?_) (fun h => ?_)
  all_goals (try rw [h])
  all_goals (try simp only [decide_eq_true_eq, decide_eq_false_iff_not, Bool.not_eq_true', Bool.not_eq_false', Bool.and_eq_true, Bool.or_eq_true, Bool.and_eq_false_imp, Bool.or_eq_false_iff] at h)
  · have hn := ixI_neg.1 h
    repeat (first | refine Run.seq ?_ | refine Run.region ?_ | refine Ops.nil ?_ | refine Run.skip ?_ | refine Run.block ?_ | refine Run.inBlock ?_ | refine Run.exit rfl ?_ | refine Run.cond_t rfl ?_ | refine Run.cond_f rfl ?_ | refine Ops.add rfl (by decide) rfl rfl (wI (by first | omega | (simp only [List.length_cons, List.length_nil] ; omega) | (simp; omega)) (by first | omega | (simp only [List.length_cons, List.length_nil] ; omega) | (simp; omega))) ?_ | refine Ops.eql rfl (by decide) rfl rfl ?_ | refine Ops.gtr rfl (by decide) rfl rfl ?_ | refine Ops.lss rfl (by decide) rfl rfl ?_ | refine Ops.pure T rfl (by decide) rfl ?_ | refine Ops.lenS T rfl (by decide) rfl rfl ?_ | refine Ops.sliceStr rfl (by decide) (T.undOk rfl) rfl rfl rfl (by first | omega | (simp only [List.length_cons, List.length_nil] ; omega) | (simp; omega)) (by first | omega | (simp only [List.length_cons, List.length_nil] ; omega) | (simp; omega)) (by first | omega | (simp only [List.length_cons, List.length_nil] ; omega) | (simp; omega)) ?_ | refine Ops.sliceStrLo rfl (by decide) (T.undOk rfl) rfl rfl (by first | omega | (simp only [List.length_cons, List.length_nil] ; omega) | (simp; omega)) (by first | omega | (simp only [List.length_cons, List.length_nil] ; omega) | (simp; omega)) ?_ | refine Ops.sliceStrHi rfl (by decide) (T.undOk rfl) rfl rfl (by first | omega | (simp only [List.length_cons, List.length_nil] ; omega) | (simp; omega)) (by first | omega | (simp only [List.length_cons, List.length_nil] ; omega) | (simp; omega)) ?_)
    refine Ops.lit T rfl rfl rfl (by decide) rfl (by decide) (by decide) rfl rfl rfl rfl rfl (fun b => ?_)
    refine Ops.appOne (N := []) el30 hG rfl rfl (by decide) rfl rfl rfl rfl (by first | omega | (simp only [List.length_cons, List.length_nil] ; omega) | (simp; omega)) (by first | omega | (simp only [List.length_cons, List.length_nil] ; omega) | (simp; omega)) ?_
    rintro v2 M2 hG2
    repeat (first | refine Run.seq ?_ | refine Run.region ?_ | refine Ops.nil ?_ | refine Run.skip ?_ | refine Run.block ?_ | refine Run.inBlock ?_ | refine Run.exit rfl ?_ | refine Run.cond_t rfl ?_ | refine Run.cond_f rfl ?_ | refine Ops.add rfl (by decide) rfl rfl (wI (by first | omega | (simp only [List.length_cons, List.length_nil] ; omega) | (simp; omega)) (by first | omega | (simp only [List.length_cons, List.length_nil] ; omega) | (simp; omega))) ?_ | refine Ops.eql rfl (by decide) rfl rfl ?_ | refine Ops.gtr rfl (by decide) rfl rfl ?_ | refine Ops.lss rfl (by decide) rfl rfl ?_ | refine Ops.pure T rfl (by decide) rfl ?_ | refine Ops.lenS T rfl (by decide) rfl rfl ?_ | refine Ops.sliceStr rfl (by decide) (T.undOk rfl) rfl rfl rfl (by first | omega | (simp only [List.length_cons, List.length_nil] ; omega) | (simp; omega)) (by first | omega | (simp only [List.length_cons, List.length_nil] ; omega) | (simp; omega)) (by first | omega | (simp only [List.length_cons, List.length_nil] ; omega) | (simp; omega)) ?_ | refine Ops.sliceStrLo rfl (by decide) (T.undOk rfl) rfl rfl (by first | omega | (simp only [List.length_cons, List.length_nil] ; omega) | (simp; omega)) (by first | omega | (simp only [List.length_cons, List.length_nil] ; omega) | (simp; omega)) ?_ | refine Ops.sliceStrHi rfl (by decide) (T.undOk rfl) rfl rfl (by first | omega | (simp only [List.length_cons, List.length_nil] ; omega) | (simp; omega)) (by first | omega | (simp only [List.length_cons, List.length_nil] ; omega) | (simp; omega)) ?_)
    refine Run.ret1 (by rw [hCf]; exact Proofs.Try.func64) Proofs.Try.results64 rfl (hR _ _ _ ?_)
    rw [spl_none hn] at hspl
    rw [hspl] at hG2; exact hG2
  · obtain ⟨k, hk, hkI⟩ := ixI_some h
    have hlt := ix_lt hk
    rw [hkI]
    repeat (first | refine Run.seq ?_ | refine Run.region ?_ | refine Ops.nil ?_ | refine Run.skip ?_ | refine Run.block ?_ | refine Run.inBlock ?_ | refine Run.exit rfl ?_ | refine Run.cond_t rfl ?_ | refine Run.cond_f rfl ?_ | refine Ops.add rfl (by decide) rfl rfl (wI (by first | omega | (simp only [List.length_cons, List.length_nil] ; omega) | (simp; omega)) (by first | omega | (simp only [List.length_cons, List.length_nil] ; omega) | (simp; omega))) ?_ | refine Ops.eql rfl (by decide) rfl rfl ?_ | refine Ops.gtr rfl (by decide) rfl rfl ?_ | refine Ops.lss rfl (by decide) rfl rfl ?_ | refine Ops.pure T rfl (by decide) rfl ?_ | refine Ops.lenS T rfl (by decide) rfl rfl ?_ | refine Ops.sliceStr rfl (by decide) (T.undOk rfl) rfl rfl rfl (by first | omega | (simp only [List.length_cons, List.length_nil] ; omega) | (simp; omega)) (by first | omega | (simp only [List.length_cons, List.length_nil] ; omega) | (simp; omega)) (by first | omega | (simp only [List.length_cons, List.length_nil] ; omega) | (simp; omega)) ?_ | refine Ops.sliceStrLo rfl (by decide) (T.undOk rfl) rfl rfl (by first | omega | (simp only [List.length_cons, List.length_nil] ; omega) | (simp; omega)) (by first | omega | (simp only [List.length_cons, List.length_nil] ; omega) | (simp; omega)) ?_ | refine Ops.sliceStrHi rfl (by decide) (T.undOk rfl) rfl rfl (by first | omega | (simp only [List.length_cons, List.length_nil] ; omega) | (simp; omega)) (by first | omega | (simp only [List.length_cons, List.length_nil] ; omega) | (simp; omega)) ?_)
    refine Ops.lit T rfl rfl rfl (by decide) rfl (by decide) (by decide) rfl rfl rfl rfl rfl (fun b => ?_)
    refine Ops.appOne (N := []) el30 hG rfl rfl (by decide) rfl rfl rfl rfl (by first | omega | (simp only [List.length_cons, List.length_nil] ; omega) | (simp; omega)) (by first | omega | (simp only [List.length_cons, List.length_nil] ; omega) | (simp; omega)) ?_
    rintro v2 M2 hG2
    repeat (first | refine Run.seq ?_ | refine Run.region ?_ | refine Ops.nil ?_ | refine Run.skip ?_ | refine Run.block ?_ | refine Run.inBlock ?_ | refine Run.exit rfl ?_ | refine Run.cond_t rfl ?_ | refine Run.cond_f rfl ?_ | refine Ops.add rfl (by decide) rfl rfl (wI (by first | omega | (simp only [List.length_cons, List.length_nil] ; omega) | (simp; omega)) (by first | omega | (simp only [List.length_cons, List.length_nil] ; omega) | (simp; omega))) ?_ | refine Ops.eql rfl (by decide) rfl rfl ?_ | refine Ops.gtr rfl (by decide) rfl rfl ?_ | refine Ops.lss rfl (by decide) rfl rfl ?_ | refine Ops.pure T rfl (by decide) rfl ?_ | refine Ops.lenS T rfl (by decide) rfl rfl ?_ | refine Ops.sliceStr rfl (by decide) (T.undOk rfl) rfl rfl rfl (by first | omega | (simp only [List.length_cons, List.length_nil] ; omega) | (simp; omega)) (by first | omega | (simp only [List.length_cons, List.length_nil] ; omega) | (simp; omega)) (by first | omega | (simp only [List.length_cons, List.length_nil] ; omega) | (simp; omega)) ?_ | refine Ops.sliceStrLo rfl (by decide) (T.undOk rfl) rfl rfl (by first | omega | (simp only [List.length_cons, List.length_nil] ; omega) | (simp; omega)) (by first | omega | (simp only [List.length_cons, List.length_nil] ; omega) | (simp; omega)) ?_ | refine Ops.sliceStrHi rfl (by decide) (T.undOk rfl) rfl rfl (by first | omega | (simp only [List.length_cons, List.length_nil] ; omega) | (simp; omega)) (by first | omega | (simp only [List.length_cons, List.length_nil] ; omega) | (simp; omega)) ?_)
    refine Run.keep [0, 1, 5] [_, _, _] rfl ?_
    refine ih (r.drop (k + 1)).length _ _ _ (by simp; omega) ⟨r.drop (k + 1), _, v2, M2, rfl, ?_, ?_, hG2, rfl, rfl⟩
    · simp; omega
    · rw [spl_some hk] at hspl; simp at hspl ⊢; exact hspl
end Go.V
