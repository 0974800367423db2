/-
  Two operations, either of which may come up next.
-/
import Derived.Test.YtmdpfceigmimhaaMV16
namespace Go.V
open Go.RowKit
set_option linter.unusedVariables false
set_option linter.unusedSimpArgs false
section
variable {P : Program} {n : Nat} {C : Cx} {k : List Item} {env : Env} {L : Own} {I : Imm} {ops : Array Oper}
def twoOk (ops : Array Oper) (listed : List Bool) (i j : Nat) (l1 l2 : List Bool) : Bool :=
  (Region.ready .any ops listed.toArray == [i, j]) && (listed.set i true == l1) && (listed.set j true == l2)
theorem RAny.two {S : World → Prop} {listed : List Bool} {fuel : Nat} (i j : Nat) {d1 d2 : Nat} {op1 op2 : Op} {ty1 ty2 : TypeId} {ps1 ps2 : String} {af1 af2 : Array Edge} {g1 g2 : Option (Nat × Bool)} (l1 l2 : List Bool)
    (h1 : ops[i]? = some ⟨some d1, op1, ty1, ps1, af1, g1⟩) (h2 : ops[j]? = some ⟨some d2, op2, ty2, ps2, af2, g2⟩) (ok : twoOk ops listed i j l1 l2 = true) (w1 : want env ops g1 = some true) (w2 : want env ops g2 = some true) (hd1 : d1 < n) (hd2 : d2 < n)
    (e1 : Eff P n C env L I ⟨some d1, op1, ty1, ps1, af1, g1⟩ fun v L1 I1 => (∀ W, Inv C.w0 C.I0 C.L0 I1 L1 W → S W) ∧ RAny P n C ops S k fuel l1 ((d1, v) :: env) L1 I1)
    (e2 : Eff P n C env L I ⟨some d2, op2, ty2, ps2, af2, g2⟩ fun v L1 I1 => (∀ W, Inv C.w0 C.I0 C.L0 I1 L1 W → S W) ∧ RAny P n C ops S k fuel l2 ((d2, v) :: env) L1 I1) : RAny P n C ops S k (fuel + 1) listed env L I := by
  simp only [twoOk, Bool.and_eq_true, beq_iff_eq] at ok
  obtain ⟨⟨hr, hs1⟩, hs2⟩ := ok
  refine RAny.all [i, j] hr (by simp) fun q hq => ?_
  have hq' : q = i ∨ q = j := by simpa using hq
  rcases hq' with rfl | rfl
  · refine ⟨_, h1, w1, dOk hd1, fun a W he hin => ?_⟩
    rcases e1 a W he hin with ⟨v, W1, L1, I1, q1, q2, q3, q4⟩ | ⟨f, args, q1, q2⟩
    · exact .inl ⟨v, W1, L1, I1, q1, q2, q3, l1, by rw [← hs1]; simp, q4⟩
    · exact .inr ⟨f, args, q1, q2.mono fun e W' ⟨v, L1, I1, p1, p2, p3, p4⟩ => ⟨v, L1, I1, p1, p2, p3, l1, by rw [← hs1]; simp, p4⟩⟩
  · refine ⟨_, h2, w2, dOk hd2, fun a W he hin => ?_⟩
    rcases e2 a W he hin with ⟨v, W1, L1, I1, q1, q2, q3, q4⟩ | ⟨f, args, q1, q2⟩
    · exact .inl ⟨v, W1, L1, I1, q1, q2, q3, l2, by rw [← hs2]; simp, q4⟩
    · exact .inr ⟨f, args, q1, q2.mono fun e W' ⟨v, L1, I1, p1, p2, p3, p4⟩ => ⟨v, L1, I1, p1, p2, p3, l2, by rw [← hs2]; simp, p4⟩⟩
end
end Go.V
