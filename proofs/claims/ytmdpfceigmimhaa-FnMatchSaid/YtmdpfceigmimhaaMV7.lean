/-
  A statement whose order Go leaves open: whatever order is drawn. Plain operations and reads are taken first; what makes memory or calls is gone over in each order.
-/
import Derived.Test.YtmdpfceigmimhaaMV6
import Derived.OrdersHeld
namespace Go.V
open Go.RowKit
set_option linter.unusedVariables false
set_option linter.unusedSimpArgs false
section
variable {P : Program} {n : Nat} {C : Cx} {k : List Item} {env : Env} {L : Own} {I : Imm} {ops : Array Oper} {i : Nat} {l : List Oper} {o : Oper}
variable {ty : TypeId} {ps : String} {af : Array Edge} {g : Option (Nat × Bool)} {d : Nat}
/-- a world that holds these blocks -/
def Holds (I : Imm) (L : Own) (W : World) : Prop := (∀ b o, I b = some o → W.heap[b]? = some o) ∧ ∀ b o, (b, o) ∈ L → W.heap[b]? = some o
theorem Inv.holds {w0 : World} {I0 : Imm} {L0 : List Nat} {W : World} {J : Imm} {M : Own} (h : Inv w0 I0 L0 I L W) (hle : Le J I) (hs : ∀ x, x ∈ M → x ∈ L) : Holds J M W :=
  ⟨fun b o hb => h.fits.imm b o (hle b o hb), fun b o hm => h.fits.own b o (hs _ hm)⟩
def Qk (P : Program) (n : Nat) (C : Cx) (k : List Item) : Exit → Act → World → Prop
  | .normal, a, W => ∃ env L I, EnvOk n env a ∧ Inv C.w0 C.I0 C.L0 I L W ∧ Run P n C k env L I
  | _, _, _ => False
/-- what is still to be done, in whatever order -/
def RAny (P : Program) (n : Nat) (C : Cx) (ops : Array Oper) (S : World → Prop) (k : List Item) (fuel : Nat) (listed : List Bool) (env : Env) (L : Own) (I : Imm) : Prop :=
  ∀ a W, EnvOk n env a → Inv C.w0 C.I0 C.L0 I L W → wpAnyH P .any ops (Qk P n C k) S fuel listed.toArray a W
theorem Run.regionAny {id : Nat} (S : World → Prop) (listed : List Bool) (hm : P.follows .mixedOrders = true) (hl : (Array.replicate ops.size false) = listed.toArray)
    (h : RAny P n C ops S k ops.size listed env L I) : Run P n C (.code (.region id ops true) :: k) env L I := by
  intro b a cs W hb hk he hi
  have hw : (Code.region id ops true).wp P (Qk P n C k) a W := wp_region_held hm (by
    rw [hl]
    exact h a _ he hi.drew)
  obtain ⟨e, a', W', hq, harr⟩ := hw b k cs
  cases e with
  | normal =>
    obtain ⟨env', L', I', he', hi', hrun⟩ := hq
    obtain ⟨e, W2, fr, h1, h2, h3⟩ := hrun b a' cs W' hb hk he' hi'
    exact ⟨e, W2, fr, h1, Comes.of_steps harr h2, h3⟩
  | _ => exact hq.elim
theorem RAny.done {S : World → Prop} {listed : List Bool} (fuel : Nat) (hr : Region.ready .any ops listed.toArray = []) (h : Run P n C k env L I) : RAny P n C ops S k fuel listed env L I :=
  fun a W he hi => wpAnyH_done hr ⟨env, L, I, he, hi, h⟩ fuel
/-- operation j yields v, wherever S holds -/
def Yld (P : Program) (n : Nat) (env : Env) (ops : Array Oper) (S : World → Prop) (o : Oper) (v : Value) : Prop :=
  (want env ops o.guard = some true ∧ ∀ a W, EnvOk n env a → S W → (execOp a.eval o).run P W = .ok (.value v) W) ∨ (want env ops o.guard = some false ∧ v = undef)
theorem RAny.take {S : World → Prop} {listed : List Bool} {fuel : Nat} (j : Nat) {oj : Oper} {v : Value} (listed' : List Bool) (hi : ops[j]? = some oj) (hs : Region.noSelect ops = true) (hf : Region.free .any ops listed.toArray j = true)
    (hr : (Region.ready .any ops listed.toArray).contains j = true) (hl : listed.toArray.setIfInBounds j true = listed'.toArray) (hd : ∀ t, oj.dst = some t → t < n) (hS : ∀ W, Inv C.w0 C.I0 C.L0 I L W → S W) (hy : Yld P n env ops S oj v)
    (h : RAny P n C ops S k fuel listed' (V.put env oj.dst v) L I) : RAny P n C ops S k (fuel + 1) listed env L I := by
  intro a W he hinv
  refine wpAnyH_take hi hs hf hr (fun c a w h => h.elim) ?_ (hS W hinv) (by rw [hl]; exact h _ W (he.put hd) hinv)
  rcases hy with ⟨hw, hv⟩ | ⟨hw, hv⟩
  · exact .inl ⟨want_spec he hw, fun w hSw => hv a w he hSw⟩
  · exact .inr ⟨want_spec he hw, hv⟩
theorem Yld.eval {S : World → Prop} (T : Tab P) {op : Op} {v : Value} (hg : want env ops g = some true) (h : evalOp T env op = some v) : Yld P n env ops S ⟨some d, op, ty, ps, af, g⟩ v :=
  .inl ⟨hg, fun a W he _ => evalOp_ok h he W⟩
theorem Yld.off {S : World → Prop} {op : Op} {d : Option Nat} (hg : want env ops g = some false) : Yld P n env ops S ⟨d, op, ty, ps, af, g⟩ undef := .inr ⟨hg, rfl⟩
/-- by a rule of its own: an operation that tells the same in every world -/
theorem Yld.of {S : World → Prop} {v : Value} (hg : want env ops o.guard = some true) (h : ∀ a W, EnvOk n env a → (execOp a.eval o).run P W = .ok (.value v) W) : Yld P n env ops S o v := .inl ⟨hg, fun a W he _ => h a W he⟩
theorem Holds.cell {J : Imm} {M : Own} {W : World} (h : Holds J M W) {b off : Nat} {vs : List Value} (hA : At J b off vs) : ∀ j v, vs[j]? = some v → W.cell? ⟨b, off + j, none⟩ = some v := by
  obtain ⟨cs, t, fr, h1, h2⟩ := hA
  intro j v hv
  rw [cell_blk (h.1 b _ h1)]; exact h2 j v hv
theorem Holds.own {J : Imm} {M : Own} {W : World} (h : Holds J M W) {b off : Nat} {cs : List Value} {t : TypeId} {v : Value} (j : Nat) (hM : M[j]? = some (b, blk cs t)) (hv : cs[off]? = some v) : W.cell? ⟨b, off, none⟩ = some v := by
  rw [cell_blk (h.2 b _ (List.mem_of_getElem? hM))]; simpa using hv
theorem Yld.load {J : Imm} {M : Own} {t : TypeId} {x : Operand} {b off : Nat} {v : Value} (j : Nat) {cs : List Value} {t' : TypeId} (T : Tab P) (hg : want env ops g = some true) (hx : opnd env x = some (.pointer (some ⟨b, off, none⟩)))
    (hM : M[j]? = some (b, blk cs t')) (ha : T.agg t = some false) (hv : cs[off]? = some v) : Yld P n env ops (Holds J M) ⟨some d, .load t x, ty, ps, af, g⟩ v :=
  .inl ⟨hg, fun a W he hS => by simp [execOp, Instr.loadAt, Instr.sureAddr, eval_opnd he hx, run_loadVar1 (T.aggOk ha) (hS.own j hM hv)]⟩
theorem Yld.loadI {J : Imm} {M : Own} {t : TypeId} {x : Operand} {b off : Nat} {v : Value} (T : Tab P) (hA : At J b off [v]) (hg : want env ops g = some true) (hx : opnd env x = some (.pointer (some ⟨b, off, none⟩)))
    (ha : T.agg t = some false) : Yld P n env ops (Holds J M) ⟨some d, .load t x, ty, ps, af, g⟩ v :=
  .inl ⟨hg, fun a W he hS => by simp [execOp, Instr.loadAt, Instr.sureAddr, eval_opnd he hx, run_loadVar1 (T.aggOk ha) (by simpa using hS.cell hA 0 v rfl)]⟩
theorem Yld.loadN {J : Imm} {M : Own} {t : TypeId} {x : Operand} {b off m : Nat} {vs : List Value} (j : Nat) {cs : List Value} {t' : TypeId} (T : Tab P) (hg : want env ops g = some true) (hx : opnd env x = some (.pointer (some ⟨b, off, none⟩)))
    (hM : M[j]? = some (b, blk cs t')) (ha : T.agg t = some true) (hs : T.size t = some m) (hv : (cs.drop off).take m = vs) (hm : vs.length = m) : Yld P n env ops (Holds J M) ⟨some d, .load t x, ty, ps, af, g⟩ (.agg vs.toArray) :=
  .inl ⟨hg, fun a W he hS => by
    have hc : ∀ j v, vs[j]? = some v → W.cell? ⟨b, off + j, none⟩ = some v := fun q v h => by
      rw [cell_blk (hS.2 b _ (List.mem_of_getElem? hM))]
      rw [← hv, List.getElem?_take] at h
      split at h
      · simpa using h
      · cases h
    simp [execOp, Instr.loadAt, Instr.sureAddr, eval_opnd he hx, run_loadVarN (T.aggOk ha) (T.sizeOk hs) hm hc]⟩
theorem Yld.loadIN {J : Imm} {M : Own} {t : TypeId} {x : Operand} {b off m : Nat} {vs : List Value} (T : Tab P) (hA : At J b off vs) (hg : want env ops g = some true) (hx : opnd env x = some (.pointer (some ⟨b, off, none⟩)))
    (ha : T.agg t = some true) (hs : T.size t = some m) (hm : vs.length = m) : Yld P n env ops (Holds J M) ⟨some d, .load t x, ty, ps, af, g⟩ (.agg vs.toArray) :=
  .inl ⟨hg, fun a W he hS => by simp [execOp, Instr.loadAt, Instr.sureAddr, eval_opnd he hx, run_loadVarN (T.aggOk ha) (T.sizeOk hs) hm (hS.cell hA)]⟩
/-- what Ops.val asks, where the world matters not -/
theorem Yld.val {S : World → Prop} {v : Value} (hg : want env ops o.guard = some true) (h : ∀ a W, EnvOk n env a → S W → (execOp a.eval o).run P W = .ok (.value v) W) : Yld P n env ops S o v := .inl ⟨hg, h⟩
/-- whichever comes up -/
theorem RAny.all {S : World → Prop} {listed : List Bool} {fuel : Nat} (rs : List Nat) (hr : Region.ready .any ops listed.toArray = rs) (hne : rs ≠ [])
    (h : ∀ j ∈ rs, ∃ o, ops[j]? = some o ∧ want env ops o.guard = some true ∧ (∀ t, o.dst = some t → t < n) ∧
      Eff P n C env L I o fun v L1 I1 => (∀ W, Inv C.w0 C.I0 C.L0 I1 L1 W → S W) ∧ ∃ listed', listed.toArray.setIfInBounds j true = listed'.toArray ∧ RAny P n C ops S k fuel listed' (V.put env o.dst v) L1 I1) :
    RAny P n C ops S k (fuel + 1) listed env L I := by
  intro a W he hi
  refine wpAnyH_all hr hne ?_
  intro j hj
  obtain ⟨o, ho, hw, hd, hE⟩ := h j hj
  unfold wpOp
  simp only [ho, want_spec he hw, if_true]
  refine .inl ?_
  unfold Oper.wp
  rcases hE a W he hi with ⟨v, W1, L1, I1, hr, hi1, hS, listed', hl, hR⟩ | ⟨f, args, hr, hc⟩
  · have hfin : S W1 ∧ wpAnyH P .any ops (Qk P n C k) S fuel (listed.toArray.setIfInBounds j true) (a.put o.dst v) W1 := ⟨hS W1 hi1, by rw [hl]; exact hR _ W1 (he.put hd) hi1⟩
    rcases hr with hr | ⟨hr, rfl⟩
    · rw [hr]; exact hfin
    · rw [hr]; exact hfin
  · rw [hr]
    refine hc.mono ?_
    rintro e W1 ⟨v, L1, I1, rfl, hi1, hS, listed', hl, hR⟩
    exact ⟨hS W1 hi1, by rw [hl]; exact hR _ W1 (he.put hd) hi1⟩
/-! what operations do, for such statements -/
variable {K : Value → Own → Imm → Prop}
theorem Eff.box {t : TypeId} {x : Operand} {z : Value} {cs : List Value} (hx : opnd env x = some z) (hc : z.cells = cs.toArray) (next : ∀ b, K (.pointer (some ⟨b, 0, none⟩)) ((b, blk cs t) :: L) I) :
    Eff P n C env L I ⟨some d, .box t x, ty, ps, af, g⟩ K :=
  Eff.valW fun a W he hi => ⟨.pointer (some ⟨W.heap.size, 0, none⟩), W.alloc (blk cs t), (W.heap.size, blk cs t) :: L, I,
    .inl (by
      have : ({ W with heap := W.heap.push (.cells cs.toArray t (0, 0)) } : World) = W.alloc (blk cs t) := rfl
      simp [execOp, Instr.box, eval_opnd he hx, newVar, newRow, newObj, Sem.run, hc, this]; try rfl), hi.alloc _, next _⟩
theorem Eff.alloc {t : TypeId} {z : Value} {cs : List Value} (hz : ∀ w, (zeroValue t).run P w = .ok z w) (hc : z.cells = cs.toArray) (next : ∀ b, K (.pointer (some ⟨b, 0, none⟩)) ((b, blk cs t) :: L) I) :
    Eff P n C env L I ⟨some d, .alloc t, ty, ps, af, g⟩ K :=
  Eff.valW fun a W he hi => ⟨.pointer (some ⟨W.heap.size, 0, none⟩), W.alloc (blk cs t), (W.heap.size, blk cs t) :: L, I,
    .inl (by
      have : ({ W with heap := W.heap.push (.cells cs.toArray t (0, 0)) } : World) = W.alloc (blk cs t) := rfl
      simp [execOp, Instr.alloc, hz, newVar, newRow, newObj, Sem.run, hc, this]; try rfl), hi.alloc _, next _⟩
theorem Eff.store {t : TypeId} {x y : Operand} {b off m : Nat} {v : Value} (j : Nat) {cs vs cs' : List Value} {t' : TypeId} (hx : opnd env x = some (.pointer (some ⟨b, off, none⟩))) (hy : opnd env y = some v)
    (hc : v.cells = vs.toArray) (hL : L[j]? = some (b, blk cs t')) (hs : ∀ w, (sizeOf t).run P w = .ok m w) (hm : vs.length = m) (hle : off + m ≤ cs.length) (h1 : one vs = true) (hcs : setAt cs off vs = cs')
    (next : K undef (upL L j (blk cs' t')) I) : Eff P n C env L I ⟨none, .store t x y, ty, ps, af, g⟩ K :=
  Eff.valW fun a W he hi => by
    obtain ⟨R, hp, hp'⟩ := upL_perm L j b (blk cs t') (blk cs' t') hL
    have hW := hi.fits.own b _ (List.mem_of_getElem? hL)
    have hr := run_storeCells_at P b off t' vs 0 cs.toArray W hW (by simp; omega) (one_spec h1)
    simp only [Nat.add_zero] at hr
    have hcs' : (cs.toArray.toList.take off ++ vs ++ cs.toArray.toList.drop (off + vs.length)).toArray = cs'.toArray := by rw [← hcs]; rfl
    rw [hcs'] at hr
    refine ⟨undef, W.setRow b cs'.toArray, upL L j (blk cs' t'), I, .inr ⟨?_, rfl⟩, ?_, next⟩
    · simp [execOp, Instr.storeAt, Instr.sureAddr, eval_opnd he hx, eval_opnd he hy, storeVar, hc, hs, hm, hr]
    · exact ((hi.perm hp).upd (W' := W.setRow b cs'.toArray) rfl rfl rfl (by simp) (fun c _ hcb => setRow_other W b c _ hcb) (setRow_heap W b cs.toArray cs'.toArray t' _ hW)).perm hp'.symm
theorem Eff.assign {x : Operand} {v : Value} (hx : opnd env x = some v) (next : K v L I) : Eff P n C env L I ⟨some d, .assign x, ty, ps, af, g⟩ K :=
  Eff.valW fun a W he hi => ⟨v, W, L, I, .inl (by simp [execOp, eval_opnd he hx]), hi, next⟩
theorem Eff.call {f : FuncId} {xs : List Operand} {ats : Array TypeId} {vs : List Value} {R : Value → Imm → Prop} (hs : Pure P f vs I R) (hc : ∀ args w, (callFunc f args).run P w = .ok (.enter f args) w)
    (hx : opnds env xs = some vs) (next : ∀ v J, Le I J → R v J → K v L J) : Eff P n C env L I ⟨some d, .call ⟨.value (.func f), xs.toArray, ats⟩, ty, ps, af, g⟩ K :=
  Eff.callW (M := []) (N := L) (fun a W he => run_callF hc he hx) (.refl _) hs fun v J M' hle ⟨hM, hR⟩ => by subst hM; exact next v J hle hR
end
end Go.V
