/-
  Blocks lent to a call that only reads them.
-/
import Derived.Test.YtmdpfceigmimhaaMV15
namespace Go.V
open Go.RowKit
set_option linter.unusedVariables false
set_option linter.unusedSimpArgs false
open Classical in
theorem Spec.borrow {P : Program} {f : FuncId} {args : List Value} {I : Imm} {L : Own} {R : Value → Prop} (h : ∀ J, Le I J → (∀ b o, (b, o) ∈ L → J b = some o) → Pure P f args J fun v _ => R v) :
    Spec P f args I L fun v J M => J = I ∧ M = L ∧ R v := by
  intro w0 hfit
  let J : Imm := fun c => if hc : ∃ o, (c, o) ∈ L then some hc.choose else I c
  have hJL : ∀ b o, (b, o) ∈ L → J b = some o := by
    intro b o hm
    have hc : ∃ o, (b, o) ∈ L := ⟨o, hm⟩
    have h1 := hfit.own b _ hc.choose_spec
    have h2 := hfit.own b o hm
    rw [h1] at h2
    simp only [J, dif_pos hc]
    exact h2
  have hJI : Le I J := by
    intro b o hb
    have hc : ¬ ∃ o, (b, o) ∈ L := fun ⟨o', hm⟩ => by rw [hfit.sep b o' hm] at hb; cases hb
    simp only [J, dif_neg hc]; exact hb
  have hfJ : Fits J [] w0 := by
    refine ⟨?_, (fun _ _ h => by cases h), (fun _ _ h => by cases h), List.nodup_nil⟩
    intro b o hb
    by_cases hc : ∃ o, (b, o) ∈ L
    · simp only [J, dif_pos hc, Option.some.injEq] at hb
      subst hb
      exact hfit.own b _ hc.choose_spec
    · simp only [J, dif_neg hc] at hb
      exact hfit.imm b o hb
  refine Calls.mono (h J hJI hJL w0 hfJ) ?_
  rintro e W' ⟨v, J1, M1, rfl, ⟨rfl, hR⟩, hi⟩
  have hold : ∀ b, b < w0.heap.size → W'.heap[b]? = w0.heap[b]? := fun b hb => hi.old b hb (by simp)
  refine ⟨v, I, L, rfl, ⟨rfl, rfl, hR⟩, hi.os, hi.tape, hi.output, hi.size, fun b hb _ => hold b hb, ⟨?_, ?_, hfit.sep, hfit.nd⟩, Le.refl _, fun _ _ h => .inl h, fun b o hm => .inr (List.mem_map.2 ⟨(b, o), hm, rfl⟩)⟩
  · intro b o hb
    have h0 := hfit.imm b o hb
    rw [hold b (Array.getElem?_eq_some_iff.1 h0).1]; exact h0
  · intro b o hm
    have h0 := hfit.own b o hm
    rw [hold b (Array.getElem?_eq_some_iff.1 h0).1]; exact h0
theorem Gr.sl_of {α : Type} {t : Ty α} {I J : Imm} {e : TypeId} {v : Value} {xs : List α} {M : Own} (hG : Gr t I e v xs M) (hle : Le I J) (hJ : ∀ b o, (b, o) ∈ M → J b = some o) : Sl t J v xs := by
  obtain ⟨cs, ⟨hlen, hG1⟩, hC⟩ := hG
  rcases hG1 with ⟨rfl, h0, rfl⟩ | ⟨b, cap, cur, rfl, rfl, hmc, hcs, htake⟩
  · have : xs = [] := List.eq_nil_of_length_eq_zero h0
    subst this
    exact Sl.nil t J
  · have hb := hJ b _ List.mem_cons_self
    refine ⟨_, _, rfl, hmc, .inr ⟨b, 0, rfl, ?_⟩⟩
    intro i x hx
    obtain ⟨css, rfl, h2, h3⟩ := hC
    have hi : i < css.length := by rw [h2]; exact (List.getElem?_eq_some_iff.1 hx).1
    have hc := List.getElem?_eq_getElem hi
    refine ⟨css[i], t.mono (h3 i x _ hx hc) hle, At.of_block hb ?_⟩
    intro j u hu
    have := flatten_at css t.size (Cells.sizes h2 h3) i _ hc j u hu
    rw [← htake, List.getElem?_take] at this
    split at this
    · simpa using this
    · cases this
end Go.V
