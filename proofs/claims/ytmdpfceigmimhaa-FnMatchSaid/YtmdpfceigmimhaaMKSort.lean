/-
  A list of texts that the call owns, sorted in its place.
-/
import Derived.Test.YtmdpfceigmimhaaMSh192
import Derived.Test.YtmdpfceigmimhaaMVT
import Derived.Test.YtmdpfceigmimhaaMV13
import Derived.Sort.OwnSorted
namespace Go.V
open Go.RowKit
set_option linter.unusedVariables false
set_option linter.unusedSimpArgs false
set_option maxRecDepth 10000
theorem Cells.strs_eq {I : Imm} {cs : List Value} {xs : List (List UInt8)} (h : Cells tStr I cs xs) : cs = xs.map str := by
  obtain ⟨css, rfl, h2, h3⟩ := h
  induction css generalizing xs with
  | nil => cases xs with
    | nil => rfl
    | cons x r => simp at h2
  | cons c css ih => cases xs with
    | nil => simp at h2
    | cons x r =>
      have h0 : c = [str x] := h3 0 x c rfl rfl
      subst h0
      have := ih (xs := r) (by simpa using h2) (fun i y d hy hd => h3 (i + 1) y d (by simpa using hy) (by simpa using hd))
      simp [this]
def sorted (ss : List (List UInt8)) : List (List UInt8) := ss.mergeSort fun x y => decide (x ≤ y)
theorem sorted_len (ss : List (List UInt8)) : (sorted ss).length = ss.length := List.length_mergeSort _
theorem sort_Strings (I : Imm) (v : Value) (ss : List (List UInt8)) (M : Own) (hG : Gr tStr I 9 v ss M) (hne : v ≠ .slice none 0 0) (hlen : ss.length ≤ 2147483647) :
    Spec Proofs.Try.prog 88 [v] I M fun w J M' => J = I ∧ w = .tuple #[] ∧ Gr tStr I 9 v (sorted ss) M' := by
  obtain ⟨cs, ⟨hl, hG⟩, hC⟩ := hG
  have hcs := hC.strs_eq
  rcases hG with ⟨rfl, _, _⟩ | ⟨b, cap, cur, rfl, rfl, hmc, hsz, htake⟩
  · exact absurd rfl hne
  intro w0 hfit
  have hb := hfit.own b _ List.mem_cons_self
  have h1 : tStr.size = 1 := rfl
  rw [h1, Nat.mul_one] at htake hsz
  have hH : Sort.Holds Proofs.encStr w0 b 0 ss.toArray := by
    intro j hj
    have hj' : j < ss.length := by simpa using hj
    refine ⟨?_, by simp [World.frozen?, hb]⟩
    rw [Nat.zero_add, cell_blk hb]
    have e1 : (cur.toList.take ss.length)[j]? = some (str ss[j]) := by rw [htake, hcs]; simp [hj']
    rw [List.getElem?_take_of_lt hj', Array.getElem?_toList] at e1
    rw [e1]
    simp [hj']; rfl
  have hblt : b < w0.heap.size := (Array.getElem?_eq_some_iff.1 hb).1
  have := Proofs.Any.sort_Strings lays192 b 0 cap ss w0 hH hblt (by omega)
  refine Calls.mono this ?_
  rintro e w' ⟨rfl, k, os, rfl⟩
  have hinv : Inv w0 I [b] I [(b, .cells cur 9 (0, 0))] w0 := ⟨rfl, rfl, rfl, Nat.le_refl _, fun _ _ _ => rfl, hfit, Le.refl _, fun _ _ h => .inl h, fun c o h => by simp at h; exact .inr (by simp [h.1])⟩
  have hgr := Go.grownBy_sorted (w := w0) (g := b) (n := k) (os := os) (sorted ss).toArray
  have hhp := Go.heap_sorted (w := w0) (g := b) (n := k) (os := os) (sorted ss).toArray hb
  refine ⟨_, I, [(b, .cells (Sort.putCells Proofs.encStr 0 (sorted ss).toArray cur) 9 (0, 0))], rfl, ⟨rfl, rfl, (sorted ss).map str, ⟨by simp [h1], .inr ⟨b, cap, _, by rw [sorted_len], rfl, by rw [sorted_len]; exact hmc, by simp [Sort.putCells, hsz, h1], ?_⟩⟩, Cells.strs _⟩,
    hinv.upd hgr.os hgr.tape hgr.output hgr.size (fun c hc hcb => hgr.block c hc (fun e => hcb (by cases e; rfl))) hhp⟩
  rw [h1, Nat.mul_one]
  exact Go.take_putCells cur (sorted ss) (by rw [sorted_len]; omega)
end Go.V
