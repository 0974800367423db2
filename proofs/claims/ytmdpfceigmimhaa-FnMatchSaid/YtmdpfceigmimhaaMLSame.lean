/-
  The law of platforms compared: it returns true.
-/
import Derived.Test.YtmdpfceigmimhaaMKSame5
import Derived.Test.YtmdpfceigmimhaaMLPlatT
namespace Go.V
open Go.RowKit
set_option linter.unusedVariables false
set_option linter.unusedSimpArgs false
set_option maxRecDepth 10000
attribute [local irreducible] Run Ops
theorem sorted_perm (ss : Txts) : (sorted ss).Perm ss := List.mergeSort_perm _ _
theorem sorted_eq {f f' : Txts} : sorted f = sorted f' ↔ f.Perm f' := by
  constructor
  · intro h
    exact (sorted_perm f).symm.trans (h ▸ sorted_perm f')
  · intro h
    have hp : (sorted f).Perm (sorted f') := ((sorted_perm f).trans h).trans (sorted_perm f').symm
    have hs : ∀ l : Txts, List.Pairwise (fun a b => decide (a ≤ b) = true) (sorted l) := fun l => List.pairwise_mergeSort (le := fun x y : List UInt8 => decide (x ≤ y))
      (fun a b c h1 h2 => decide_eq_true (List.le_trans (of_decide_eq_true h1) (of_decide_eq_true h2)))
      (fun a b => by rcases List.le_total a b with h | h <;> simp [h]) l
    refine List.Perm.eq_of_pairwise (le := fun a b => decide (a ≤ b) = true) ?_ (hs f) (hs f') hp
    intro a b _ _ h1 h2
    exact List.le_antisymm (of_decide_eq_true h1) (of_decide_eq_true h2)
theorem perm_of_sub : ∀ (l2 l1 : Txts), l2.Nodup → (∀ x ∈ l2, x ∈ l1) → l1.length ≤ l2.length → l1.Perm l2
  | [], l1, _, _, h => by
    have : l1 = [] := List.eq_nil_of_length_eq_zero (by simpa using h)
    subst this; exact .refl _
  | a :: r, l1, hn, hs, h => by
    have ha : a ∈ l1 := hs a List.mem_cons_self
    have hp := List.perm_cons_erase ha
    have hn' := List.nodup_cons.1 hn
    refine hp.trans (List.Perm.cons a (perm_of_sub r (l1.erase a) hn'.2 ?_ ?_))
    · intro x hx
      have hxa : x ≠ a := fun e => hn'.1 (e ▸ hx)
      exact (List.mem_erase_of_ne hxa).2 (hs x (List.mem_cons_of_mem _ hx))
    · rw [List.length_erase_of_mem ha]; simp at h; omega
theorem sorted_holds {f f' : Txts} (hf : f.Nodup) (hf' : f'.Nodup) : decide (sorted f = sorted f') = (decide (f.length = f'.length) && holdsL f f') := by
  rw [Bool.eq_iff_iff]
  simp only [decide_eq_true_eq, Bool.and_eq_true, holdsL, sorted_eq]
  constructor
  · intro h
    exact ⟨h.length_eq, fun x hx => h.mem_iff.2 hx⟩
  · rintro ⟨h1, h2⟩
    exact perm_of_sub f' f hf' h2 (by omega)
theorem eqP_same {p q : Pf} {f g f' g' : Txts} (h1 : f.Nodup) (h2 : g.Nodup) (h3 : f'.Nodup) (h4 : g'.Nodup) : eqP p q f g f' g' = same p q f g f' g' := by
  rw [eqP, same, sorted_holds h1 h3, sorted_holds h2 h4]
  rw [Bool.eq_iff_iff]
  simp only [Bool.and_eq_true]
  constructor <;> (intro h; simp only [h, and_self])
end Go.V
