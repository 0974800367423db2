/-
  Owned blocks in another order; calls that make blocks, in statements whose order is drawn.
-/
import Derived.Test.YtmdpfceigmimhaaMV13
namespace Go.V
open Go.RowKit
set_option linter.unusedVariables false
set_option linter.unusedSimpArgs false
section
variable {P : Program} {n : Nat} {C : Cx} {k : List Item} {env : Env} {L : Own} {I : Imm} {ops : Array Oper} {i : Nat} {l : List Oper}
variable {ty : TypeId} {ps : String} {af : Array Edge} {g : Option (Nat × Bool)} {d : Nat}
theorem RAny.perm {S : World → Prop} {listed : List Bool} {fuel : Nat} {L' : Own} (hp : L.Perm L') (h : RAny P n C ops S k fuel listed env L' I) : RAny P n C ops S k fuel listed env L I :=
  fun a W he hi => h a W he (hi.perm hp)
theorem RAny.dropL {S : World → Prop} {listed : List Bool} {fuel : Nat} {L' : Own} (hs : L'.Sublist L) (h : RAny P n C ops S k fuel listed env L' I) : RAny P n C ops S k fuel listed env L I :=
  fun a W he hi => h a W he (hi.weakenL hs)
theorem RAny.freeze {S : World → Prop} {listed : List Bool} {fuel : Nat} {b : Nat} {o : Obj} (h : ∀ J, Le I J → J b = some o → RAny P n C ops S k fuel listed env L J) : RAny P n C ops S k fuel listed env ((b, o) :: L) I :=
  fun a W he hi => h _ hi.le_iset (by simp [iset]) a W he hi.freeze
variable {K : Value → Own → Imm → Prop}
theorem Eff.callM {f : FuncId} {xs : List Operand} {ats : Array TypeId} {vs : List Value} {M N : Own} {R : Value → Imm → Own → Prop} (hs : Spec P f vs I M R) (hL : L.Perm (M ++ N)) (hc : ∀ args w, (callFunc f args).run P w = .ok (.enter f args) w)
    (hx : opnds env xs = some vs) (next : ∀ v J M', Le I J → R v J M' → K v (M' ++ N) J) : Eff P n C env L I ⟨some d, .call ⟨.value (.func f), xs.toArray, ats⟩, ty, ps, af, g⟩ K :=
  Eff.callW (fun a W he => run_callF hc he hx) hL hs next
/-- one struct, in variable t; other blocks are handed back -/
theorem Run.retCK (T : Tab P) (j : Nat) {fn : Func} {t b m : Nat} {vs cs : List Value} {rt t' : TypeId} {todo : List Item} {L' : Own} (hfn : P.funcs[C.f]? = some fn) (hres : fn.results = #[.cell t rt]) (hp : look env t = some (.pointer (some ⟨b, 0, none⟩)))
    (hL : L[j]? = some (b, blk cs t')) (ha : T.agg rt = some true) (hs : T.size rt = some m) (hv : (cs.drop 0).take m = vs) (hm : vs.length = m) (hsub : L'.Sublist L) (h : C.R (.agg vs.toArray) I L') : Run P n C (.code .ret :: todo) env L I := by
  intro bb a cs' W hb hk he hi
  have hr : (results fn a.tmps).run P W = .ok (.agg vs.toArray) W := by
    have h1 := run_cellN T hi hL ha hs hv hm
    have hp' : a.tmps[t]?.getD undef = .pointer (some ⟨b, 0, none⟩) := by rw [he.at_ _ _ hp]; rfl
    simp [results, hres, hp', asAddr, h1]
  exact ⟨.returned (.agg vs.toArray), W, _, ⟨_, I, L', rfl, h, hi.weakenL hsub⟩, Steps.one step_ret, hb, rfl, he.defers, hk, fn, by simpa [Frame.at, hb] using hfn, hr⟩
theorem RAny.takeU {S : World → Prop} {listed : List Bool} {fuel : Nat} (j : Nat) {d : Nat} {op : Op} (listed' : List Bool) (hi : ops[j]? = some ⟨some d, op, ty, ps, af, g⟩) (hs : Region.noSelect ops = true) (hf : Region.free .any ops listed.toArray j = true)
    (hr : (Region.ready .any ops listed.toArray).contains j = true) (hl : listed.toArray.setIfInBounds j true = listed'.toArray) (hd : d < n) (hS : ∀ W, Inv C.w0 C.I0 C.L0 I L W → S W) (hy : wantU env ops g = true)
    (h : RAny P n C ops S k fuel listed' ((d, undef) :: env) L I) : RAny P n C ops S k (fuel + 1) listed env L I := by
  intro a W he hinv
  exact wpAnyH_take hi hs hf hr (fun c a w h => h.elim) (.inr ⟨wantU_spec he hy, rfl⟩) (hS W hinv) (by rw [hl]; exact h _ W (he.put (dOk hd)) hinv)
theorem Yld.eqlB {S : World → Prop} {t t' : TypeId} {x y : Operand} {p q : Bool} (T : Tab P) (hg : want env ops g = some true) (hu : T.und t = some .bool) (hx : opnd env x = some (.bool p)) (hy : opnd env y = some (.bool q)) : Yld P n env ops S ⟨some d, .binOp .eql t x y t', ty, ps, af, g⟩ (.bool (p == q)) :=
  Yld.val hg (fun a W he hi => by
    have h1 := run_eqGuard_bool (P := P) .eql t x y p (.bool q) W
    have h2 : (Op.equal t (.bool p) (.bool q)).run P W = .ok (p == q) W := run_equalIn_bool W 9999 t p q (und_of_run (W := W) (T.undOk hu W))
    simp only [execOp, eval_opnd he hx, eval_opnd he hy, Sem.run_bind, h1, binOp, h2, Result.andThen_ok]; rfl)
def bl (n x : Nat) : List Bool := (List.range n).map fun i => x.testBit i
def tkOk (ops : Array Oper) (listed : List Bool) (j : Nat) (listed' : List Bool) : Bool :=
  Region.noSelect ops && Region.free .any ops listed.toArray j && (Region.ready .any ops listed.toArray).contains j && (listed.set j true == listed')
def oneOk (ops : Array Oper) (listed : List Bool) (j : Nat) (listed' : List Bool) : Bool :=
  (Region.ready .any ops listed.toArray == [j]) && (listed.set j true == listed')
theorem mp {M X L : Own} (h : L = M ++ X) : ∀ x, x ∈ M → x ∈ L := fun x hx => h ▸ List.mem_append_left _ hx
theorem mq {M X L : Own} {a : Nat × Obj} (h : L = a :: (M ++ X)) : ∀ x, x ∈ M → x ∈ L := fun x hx => h ▸ List.mem_cons_of_mem _ (List.mem_append_left _ hx)
theorem tk_spec {listed listed' : List Bool} {j : Nat} (h : tkOk ops listed j listed' = true) : Region.noSelect ops = true ∧ Region.free .any ops listed.toArray j = true ∧ (Region.ready .any ops listed.toArray).contains j = true ∧ listed.toArray.setIfInBounds j true = listed'.toArray := by
  simp only [tkOk, Bool.and_eq_true, beq_iff_eq] at h
  exact ⟨h.1.1.1, h.1.1.2, h.1.2, by rw [← h.2]; simp⟩
theorem one_spec' {listed listed' : List Bool} {j : Nat} (h : oneOk ops listed j listed' = true) : Region.ready .any ops listed.toArray = [j] ∧ listed.toArray.setIfInBounds j true = listed'.toArray := by
  simp only [oneOk, Bool.and_eq_true, beq_iff_eq] at h
  exact ⟨h.1, by rw [← h.2]; simp⟩
theorem RAny.tk {S : World → Prop} {listed : List Bool} {fuel : Nat} (j : Nat) {d : Nat} {op : Op} {v : Value} (listed' : List Bool) (hi : ops[j]? = some ⟨some d, op, ty, ps, af, g⟩) (ok : tkOk ops listed j listed' = true) (hd : d < n) (hS : ∀ W, Inv C.w0 C.I0 C.L0 I L W → S W) (hy : Yld P n env ops S ⟨some d, op, ty, ps, af, g⟩ v)
    (h : RAny P n C ops S k fuel listed' ((d, v) :: env) L I) : RAny P n C ops S k (fuel + 1) listed env L I :=
  RAny.takeD j listed' hi (tk_spec ok).1 (tk_spec ok).2.1 (tk_spec ok).2.2.1 (tk_spec ok).2.2.2 hd hS hy h
theorem RAny.tu {S : World → Prop} {listed : List Bool} {fuel : Nat} (j : Nat) {d : Nat} {op : Op} (listed' : List Bool) (hi : ops[j]? = some ⟨some d, op, ty, ps, af, g⟩) (ok : tkOk ops listed j listed' = true) (hd : d < n) (hS : ∀ W, Inv C.w0 C.I0 C.L0 I L W → S W) (hy : wantU env ops g = true)
    (h : RAny P n C ops S k fuel listed' ((d, undef) :: env) L I) : RAny P n C ops S k (fuel + 1) listed env L I :=
  RAny.takeU j listed' hi (tk_spec ok).1 (tk_spec ok).2.1 (tk_spec ok).2.2.1 (tk_spec ok).2.2.2 hd hS hy h
theorem RAny.on {S : World → Prop} {listed : List Bool} {fuel : Nat} (j : Nat) {d : Nat} {op : Op} (listed' : List Bool) (hi : ops[j]? = some ⟨some d, op, ty, ps, af, g⟩) (ok : oneOk ops listed j listed' = true) (hw : want env ops g = some true) (hd : d < n)
    (h : Eff P n C env L I ⟨some d, op, ty, ps, af, g⟩ fun v L1 I1 => (∀ W, Inv C.w0 C.I0 C.L0 I1 L1 W → S W) ∧ RAny P n C ops S k fuel listed' ((d, v) :: env) L1 I1) : RAny P n C ops S k (fuel + 1) listed env L I :=
  RAny.oneD j listed' hi (one_spec' ok).1 (one_spec' ok).2 hw hd h
theorem RAny.os {S : World → Prop} {listed : List Bool} {fuel : Nat} (j : Nat) {op : Op} (listed' : List Bool) (hi : ops[j]? = some ⟨none, op, ty, ps, af, g⟩) (ok : oneOk ops listed j listed' = true) (hw : want env ops g = some true)
    (h : Eff P n C env L I ⟨none, op, ty, ps, af, g⟩ fun v L1 I1 => (∀ W, Inv C.w0 C.I0 C.L0 I1 L1 W → S W) ∧ RAny P n C ops S k fuel listed' env L1 I1) : RAny P n C ops S k (fuel + 1) listed env L I :=
  RAny.oneS j listed' hi (one_spec' ok).1 (one_spec' ok).2 hw h
open Classical in
theorem perm_of_count {α : Type} {A B : List α} (h : ∀ x, A.count x = B.count x) : A.Perm B := List.perm_iff_count.2 h
end
end Go.V
