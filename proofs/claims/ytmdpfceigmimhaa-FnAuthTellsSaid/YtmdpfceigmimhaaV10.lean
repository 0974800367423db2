/-
  Blocks made immutable in the midst of a statement; facts about lists of owned blocks.
-/
import Derived.Test.YtmdpfceigmimhaaV9
namespace Go.V
open Go.RowKit
set_option linter.unusedVariables false
set_option linter.unusedSimpArgs false

section
variable {P : Program} {n : Nat} {C : Cx} {k : List Item} {env : Env} {L : Own} {I : Imm} {ops : Array Oper} {i : Nat} {l : List Oper}
variable {ty : TypeId} {ps : String} {af : Array Edge} {g : Option (Nat × Bool)} {d : Nat}

theorem perm_get : ∀ (L : Own) (j : Nat) (x : Nat × Obj), L[j]? = some x → L.Perm (x :: L.eraseIdx j)
  | [], j, x, h => by simp at h
  | y :: r, 0, x, h => by simp at h; subst h; simp
  | y :: r, j + 1, x, h => by
    have := perm_get r j x (by simpa using h)
    simp only [List.eraseIdx_cons_succ]
    exact ((this.cons y).trans (List.Perm.swap _ _ _))
/-- block j of those owned becomes immutable -/
theorem Run.freezeAt (j : Nat) {b : Nat} {o : Obj} {L' : Own} (hL : L[j]? = some (b, o)) (he : L.eraseIdx j = L') (h : ∀ J, Le I J → J b = some o → Run P n C k env L' J) : Run P n C k env L I := by
  subst he; exact Run.perm (perm_get L j _ hL) (Run.freeze h)
theorem Ops.freezeAt (j : Nat) {b : Nat} {o : Obj} {L' : Own} (hL : L[j]? = some (b, o)) (he : L.eraseIdx j = L') (h : ∀ J, Le I J → J b = some o → Ops P n C ops i l k env L' J) : Ops P n C ops i l k env L I :=
  fun hl => Run.freezeAt j hL he fun J hle hb => h J hle hb hl
theorem Ops.perm {L' : Own} (hp : L.Perm L') (h : Ops P n C ops i l k env L' I) : Ops P n C ops i l k env L I := fun hl => Run.perm hp (h hl)
theorem Ops.dropL {L' : Own} (hs : L'.Sublist L) (h : Ops P n C ops i l k env L' I) : Ops P n C ops i l k env L I := fun hl => Run.dropL hs (h hl)
theorem Ops.keepGr {α : Type} {t : Ty α} {e : TypeId} {v : Value} {xs : List α} {M N : Own} (hG : Gr t I e v xs M) (hL : L.Perm (M ++ N)) (h : ∀ J, Le I J → Sl t J v xs → Ops P n C ops i l k env N J) : Ops P n C ops i l k env L I :=
  fun hl => Run.keepGr hG hL fun J hle hs => h J hle hs hl

theorem At.block {b : Nat} {cs : List Value} {t : TypeId} (h : I b = some (blk cs t)) : At I b 0 cs := ⟨cs.toArray, t, (0, 0), h, fun j v hv => by simpa using hv⟩
theorem At.part {b off : Nat} {vs ws : List Value} {q : Nat} (h : At I b off vs) (hw : (vs.drop q).take ws.length = ws) : At I b (off + q) ws := by
  obtain ⟨cs, t, fr, h1, h2⟩ := h
  refine ⟨cs, t, fr, h1, fun j v hv => ?_⟩
  rw [← hw, List.getElem?_take] at hv
  split at hv
  · rw [List.getElem?_drop] at hv
    rw [Nat.add_assoc]; exact h2 _ _ hv
  · cases hv
theorem At.cellAt {b off : Nat} {vs : List Value} {v : Value} (q : Nat) (h : At I b off vs) (hw : vs[q]? = some v) : At I b (off + q) [v] := by
  obtain ⟨cs, t, fr, h1, h2⟩ := h
  refine ⟨cs, t, fr, h1, fun j u hu => ?_⟩
  cases j with
  | zero => simp at hu; subst hu; exact h2 q _ hw
  | succ j => simp at hu

/-! statements whose order is drawn -/
variable {o : Oper}
theorem RAny.takeD {S : World → Prop} {listed : List Bool} {fuel : Nat} (j : Nat) {d : Nat} {op : Op} {v : Value} (listed' : List Bool) (hi : ops[j]? = some ⟨some d, op, ty, ps, af, g⟩) (hs : Region.noSelect ops = true) (hf : Region.free .any ops listed.toArray j = true)
    (hr : (Region.ready .any ops listed.toArray).contains j = true) (hl : listed.toArray.setIfInBounds j true = listed'.toArray) (hd : d < n) (hS : ∀ W, Inv C.w0 C.I0 C.L0 I L W → S W) (hy : Yld P n env ops S ⟨some d, op, ty, ps, af, g⟩ v)
    (h : RAny P n C ops S k fuel listed' ((d, v) :: env) L I) : RAny P n C ops S k (fuel + 1) listed env L I :=
  RAny.take j listed' hi hs hf hr hl (dOk hd) hS hy h
theorem RAny.oneD {S : World → Prop} {listed : List Bool} {fuel : Nat} (j : Nat) {d : Nat} {op : Op} (listed' : List Bool) (hi : ops[j]? = some ⟨some d, op, ty, ps, af, g⟩) (hr : Region.ready .any ops listed.toArray = [j]) (hl : listed.toArray.setIfInBounds j true = listed'.toArray) (hw : want env ops g = some true) (hd : d < n)
    (h : Eff P n C env L I ⟨some d, op, ty, ps, af, g⟩ fun v L1 I1 => (∀ W, Inv C.w0 C.I0 C.L0 I1 L1 W → S W) ∧ RAny P n C ops S k fuel listed' ((d, v) :: env) L1 I1) : RAny P n C ops S k (fuel + 1) listed env L I := by
  refine RAny.all [j] hr (by simp) fun j' hj => ?_
  obtain rfl : j' = j := by simpa using hj
  refine ⟨_, hi, hw, dOk hd, fun a W he hin => ?_⟩
  rcases h a W he hin with ⟨v, W1, L1, I1, h1, h2, h3, h4⟩ | ⟨f, args, h1, h2⟩
  · exact .inl ⟨v, W1, L1, I1, h1, h2, h3, listed', hl, h4⟩
  · exact .inr ⟨f, args, h1, h2.mono fun e W' ⟨v, L1, I1, q1, q2, q3, q4⟩ => ⟨v, L1, I1, q1, q2, q3, listed', hl, q4⟩⟩
theorem Yld.buildL {S : World → Prop} {t : TypeId} {xs : List (Nat × Operand)} {vs : List (Nat × Value)} {pl : List (Nat × Nat)} {z : Array Value} {cs : List Value}
    (hb : ∀ w ps cells, Instr.fill (pl[·]?) z ps = some cells → (Instr.build t ps.toArray).run P w = .ok (.agg cells) w) (hg : want env ops g = some true)
    (hx : parts env xs = some vs) (hf : fillL pl z.toList vs = some cs) : Yld P n env ops S ⟨some d, .build t xs.toArray, ty, ps, af, g⟩ (.agg cs.toArray) :=
  Yld.val hg (fun a W he _ => by
    have h := hb W vs cs.toArray (by simpa using fillL_ok pl vs z.toList cs hf)
    rw [← parts_spec he hx] at h
    simp only [execOp, List.map_toArray, Sem.run_bind]
    have hm : (List.map (fun (x : Nat × Operand) => match x with | (i, x) => (i, a.eval x)) xs) = xs.map (fun (p : Nat × Operand) => (p.1, a.eval p.2)) := rfl
    rw [hm, h]; rfl)

/-- an operation whose rule is taken as it stands -/
theorem Pure.of {f : FuncId} {args : List Value} {R : Value → Imm → Prop} (h : Spec P f args I [] fun v J M => M = [] ∧ R v J) : Pure P f args I R := h
end
end Go.V
