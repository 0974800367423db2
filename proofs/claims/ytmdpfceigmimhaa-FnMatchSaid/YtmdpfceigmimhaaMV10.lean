/-
  Blocks made immutable in the midst of a statement; facts about lists of owned blocks.
-/
import Derived.Test.YtmdpfceigmimhaaMV9
namespace Go.V
open Go.RowKit
set_option linter.unusedVariables false
set_option linter.unusedSimpArgs false
section
variable {P : Program} {n : Nat} {C : Cx} {k : List Item} {env : Env} {L : Own} {I : Imm} {ops : Array Oper} {i : Nat} {l : List Oper}
variable {ty : TypeId} {ps : String} {af : Array Edge} {g : Option (Nat × Bool)} {d : Nat}
theorem perm_get : ∀ (L : Own) (j : Nat) (x : Nat × Obj), L[j]? = some x → L.Perm (x :: L.eraseIdx j)
  | [], j, x, h => by simp at h
  | y :: r, 0, x, h => by simp at h; subst h; simp
  | y :: r, j + 1, x, h => by
    have := perm_get r j x (by simpa using h)
    simp only [List.eraseIdx_cons_succ]
    exact ((this.cons y).trans (List.Perm.swap _ _ _))
/-- block j of those owned becomes immutable -/
theorem Run.freezeAt (j : Nat) {b : Nat} {o : Obj} {L' : Own} (hL : L[j]? = some (b, o)) (he : L.eraseIdx j = L') (h : ∀ J, Le I J → J b = some o → Run P n C k env L' J) : Run P n C k env L I := by
  subst he; exact Run.perm (perm_get L j _ hL) (Run.freeze h)
theorem Ops.freezeAt (j : Nat) {b : Nat} {o : Obj} {L' : Own} (hL : L[j]? = some (b, o)) (he : L.eraseIdx j = L') (h : ∀ J, Le I J → J b = some o → Ops P n C ops i l k env L' J) : Ops P n C ops i l k env L I :=
  fun hl => Run.freezeAt j hL he fun J hle hb => h J hle hb hl
theorem Ops.perm {L' : Own} (hp : L.Perm L') (h : Ops P n C ops i l k env L' I) : Ops P n C ops i l k env L I := fun hl => Run.perm hp (h hl)
theorem Ops.dropL {L' : Own} (hs : L'.Sublist L) (h : Ops P n C ops i l k env L' I) : Ops P n C ops i l k env L I := fun hl => Run.dropL hs (h hl)
theorem Ops.keepGr {α : Type} {t : Ty α} {e : TypeId} {v : Value} {xs : List α} {M N : Own} (hG : Gr t I e v xs M) (hL : L.Perm (M ++ N)) (h : ∀ J, Le I J → Sl t J v xs → Ops P n C ops i l k env N J) : Ops P n C ops i l k env L I :=
  fun hl => Run.keepGr hG hL fun J hle hs => h J hle hs hl
theorem At.block {b : Nat} {cs : List Value} {t : TypeId} (h : I b = some (blk cs t)) : At I b 0 cs := ⟨cs.toArray, t, (0, 0), h, fun j v hv => by simpa using hv⟩
theorem At.part {b off : Nat} {vs ws : List Value} {q : Nat} (h : At I b off vs) (hw : (vs.drop q).take ws.length = ws) : At I b (off + q) ws := by
  obtain ⟨cs, t, fr, h1, h2⟩ := h
  refine ⟨cs, t, fr, h1, fun j v hv => ?_⟩
  rw [← hw, List.getElem?_take] at hv
  split at hv
  · rw [List.getElem?_drop] at hv
    rw [Nat.add_assoc]; exact h2 _ _ hv
  · cases hv
theorem At.cellAt {b off : Nat} {vs : List Value} {v : Value} (q : Nat) (h : At I b off vs) (hw : vs[q]? = some v) : At I b (off + q) [v] := by
  obtain ⟨cs, t, fr, h1, h2⟩ := h
  refine ⟨cs, t, fr, h1, fun j u hu => ?_⟩
  cases j with
  | zero => simp at hu; subst hu; exact h2 q _ hw
  | succ j => simp at hu
/-! statements whose order is drawn -/
variable {o : Oper}
theorem RAny.takeD {S : World → Prop} {listed : List Bool} {fuel : Nat} (j : Nat) {d : Nat} {op : Op} {v : Value} (listed' : List Bool) (hi : ops[j]? = some ⟨some d, op, ty, ps, af, g⟩) (hs : Region.noSelect ops = true) (hf : Region.free .any ops listed.toArray j = true)
    (hr : (Region.ready .any ops listed.toArray).contains j = true) (hl : listed.toArray.setIfInBounds j true = listed'.toArray) (hd : d < n) (hS : ∀ W, Inv C.w0 C.I0 C.L0 I L W → S W) (hy : Yld P n env ops S ⟨some d, op, ty, ps, af, g⟩ v)
    (h : RAny P n C ops S k fuel listed' ((d, v) :: env) L I) : RAny P n C ops S k (fuel + 1) listed env L I :=
  RAny.take j listed' hi hs hf hr hl (dOk hd) hS hy h
theorem RAny.oneD {S : World → Prop} {listed : List Bool} {fuel : Nat} (j : Nat) {d : Nat} {op : Op} (listed' : List Bool) (hi : ops[j]? = some ⟨some d, op, ty, ps, af, g⟩) (hr : Region.ready .any ops listed.toArray = [j]) (hl : listed.toArray.setIfInBounds j true = listed'.toArray) (hw : want env ops g = some true) (hd : d < n)
    (h : Eff P n C env L I ⟨some d, op, ty, ps, af, g⟩ fun v L1 I1 => (∀ W, Inv C.w0 C.I0 C.L0 I1 L1 W → S W) ∧ RAny P n C ops S k fuel listed' ((d, v) :: env) L1 I1) : RAny P n C ops S k (fuel + 1) listed env L I := by
  refine RAny.all [j] hr (by simp) fun j' hj => ?_
  obtain rfl : j' = j := by simpa using hj
  refine ⟨_, hi, hw, dOk hd, fun a W he hin => ?_⟩
  rcases h a W he hin with ⟨v, W1, L1, I1, h1, h2, h3, h4⟩ | ⟨f, args, h1, h2⟩
  · exact .inl ⟨v, W1, L1, I1, h1, h2, h3, listed', hl, h4⟩
  · exact .inr ⟨f, args, h1, h2.mono fun e W' ⟨v, L1, I1, q1, q2, q3, q4⟩ => ⟨v, L1, I1, q1, q2, q3, listed', hl, q4⟩⟩
theorem Yld.buildL {S : World → Prop} {t : TypeId} {xs : List (Nat × Operand)} {vs : List (Nat × Value)} {pl : List (Nat × Nat)} {z : Array Value} {cs : List Value}
    (hb : ∀ w ps cells, Instr.fill (pl[·]?) z ps = some cells → (Instr.build t ps.toArray).run P w = .ok (.agg cells) w) (hg : want env ops g = some true)
    (hx : parts env xs = some vs) (hf : fillL pl z.toList vs = some cs) : Yld P n env ops S ⟨some d, .build t xs.toArray, ty, ps, af, g⟩ (.agg cs.toArray) :=
  Yld.val hg (fun a W he _ => by
    have h := hb W vs cs.toArray (by simpa using fillL_ok pl vs z.toList cs hf)
    rw [← parts_spec he hx] at h
    simp only [execOp, List.map_toArray, Sem.run_bind]
    have hm : (List.map (fun (x : Nat × Operand) => match x with | (i, x) => (i, a.eval x)) xs) = xs.map (fun (p : Nat × Operand) => (p.1, a.eval p.2)) := rfl
    rw [hm, h]; rfl)
theorem Gr.lit0 {α : Type} (t : Ty α) (I : Imm) (e : TypeId) (b : Nat) : Gr t I e (.slice (some ⟨b, 0, none⟩) 0 0) [] [(b, blk [] e)] :=
  ⟨[], ⟨by simp, .inr ⟨b, 0, #[], rfl, rfl, Nat.le_refl _, by simp, by simp⟩⟩, Cells.nil t I⟩
/-- the slice's own blocks stand last -/
theorem Ops.appOne {α : Type} {t : Ty α} {y : α} {s x : Operand} {ts e : TypeId} {bytes b : Nat} {M N : Own} {v : Value} {xs : List α} {news : List Value} (hE : Elem P ts e t.size bytes) (hG : Gr t I e v xs M) (hr : t.rel I news y) (hg : want env ops g = some true) (hd : d < n)
    (hs : opnd env s = some v) (hx : opnd env x = some (.slice (some ⟨b, 0, none⟩) 1 1)) (hL : L = (b, blk news e) :: (N ++ M)) (h1 : one news = true)
    (hbytes : (2 * (xs.length + 1) + 512) * bytes ≤ 281474976710656) (h63 : xs.length + 1 ≤ 4611686018427387904)
    (next : ∀ v' M', Gr t I e v' (xs ++ [y]) M' → Ops P n C ops (i + 1) l k ((d, v') :: env) (N ++ M') I) :
    Ops P n C ops i (⟨some d, .call ⟨.builtin .append, #[s, x], #[ts, ts]⟩, ty, ps, af, g⟩ :: l) k env L I := by
  subst hL
  refine Ops.perm (List.Perm.cons _ List.perm_append_comm) ?_
  exact Ops.appendOne hE hG hr hg hd hs hx rfl h1 hbytes h63 fun v' M' h => Ops.perm List.perm_append_comm (next v' M' h)
theorem Run.keepG {α : Type} {t : Ty α} {e : TypeId} {v : Value} {xs : List α} {M N : Own} (hG : Gr t I e v xs M) (hL : L = N ++ M) (h : ∀ J, Le I J → Sl t J v xs → Run P n C k env N J) : Run P n C k env L I :=
  Run.keepGr hG (by subst hL; exact List.perm_append_comm) h
theorem Ops.keepG {α : Type} {t : Ty α} {e : TypeId} {v : Value} {xs : List α} {M N : Own} (hG : Gr t I e v xs M) (hL : L = N ++ M) (h : ∀ J, Le I J → Sl t J v xs → Ops P n C ops i l k env N J) : Ops P n C ops i l k env L I :=
  Ops.keepGr hG (by subst hL; exact List.perm_append_comm) h
/-- a call that makes blocks and is handed none -/
theorem Ops.callN {f : FuncId} {xs : List Operand} {ats : Array TypeId} {vs : List Value} {R : Value → Imm → Own → Prop} (hs : Spec P f vs I [] R) (hg : want env ops g = some true) (hd : d < n) (hc : ∀ args w, (callFunc f args).run P w = .ok (.enter f args) w)
    (hx : opnds env xs = some vs) (next : ∀ v J M, Le I J → R v J M → Ops P n C ops (i + 1) l k ((d, v) :: env) (L ++ M) J) :
    Ops P n C ops i (⟨some d, .call ⟨.value (.func f), xs.toArray, ats⟩, ty, ps, af, g⟩ :: l) k env L I :=
  Ops.callM (N := L) hs (.refl _) hg hd hc hx fun v J M hle hR => Ops.perm List.perm_append_comm (next v J M hle hR)
theorem RAny.oneS {S : World → Prop} {listed : List Bool} {fuel : Nat} (j : Nat) {op : Op} (listed' : List Bool) (hi : ops[j]? = some ⟨none, op, ty, ps, af, g⟩) (hr : Region.ready .any ops listed.toArray = [j]) (hl : listed.toArray.setIfInBounds j true = listed'.toArray) (hw : want env ops g = some true)
    (h : Eff P n C env L I ⟨none, op, ty, ps, af, g⟩ fun v L1 I1 => (∀ W, Inv C.w0 C.I0 C.L0 I1 L1 W → S W) ∧ RAny P n C ops S k fuel listed' env L1 I1) : RAny P n C ops S k (fuel + 1) listed env L I := by
  refine RAny.all [j] hr (by simp) fun j' hj => ?_
  obtain rfl : j' = j := by simpa using hj
  refine ⟨_, hi, hw, dNo, fun a W he hin => ?_⟩
  rcases h a W he hin with ⟨v, W1, L1, I1, h1, h2, h3, h4⟩ | ⟨f, args, h1, h2⟩
  · exact .inl ⟨v, W1, L1, I1, h1, h2, h3, listed', hl, h4⟩
  · exact .inr ⟨f, args, h1, h2.mono fun e W' ⟨v, L1, I1, q1, q2, q3, q4⟩ => ⟨v, L1, I1, q1, q2, q3, listed', hl, q4⟩⟩
theorem Yld.indexSl {S : World → Prop} {α : Type} {t : Ty α} {x ix : Operand} {kd : IntKind} {j : Int} {ts e : TypeId} {A : Option Addr} {len c b off : Nat} (T : Tab P) (hg : want env ops g = some true) (hx : opnd env x = some (.slice A len c)) (hA : A = some ⟨b, off, none⟩) (hi : opnd env ix = some (.int kd j))
    (hu : T.und ts = some (.slice e)) (hz : T.size e = some t.size) (h0 : 0 ≤ j) (h1 : j < len) : Yld P n env ops S ⟨some d, .indexAddr ts x ix, ty, ps, af, g⟩ (.pointer (some ⟨b, off + j.toNat * t.size, none⟩)) :=
  Yld.val hg (fun a W he _ => by
    subst hA
    simp [execOp, Instr.indexAt, eval_opnd he hx, eval_opnd he hi, asIntOf, T.undOk hu, T.sizeOk hz, h0, h1, add_off])
/-- an operation whose rule is taken as it stands -/
theorem Pure.of {f : FuncId} {args : List Value} {R : Value → Imm → Prop} (h : Spec P f args I [] fun v J M => M = [] ∧ R v J) : Pure P f args I R := h
end
end Go.V
