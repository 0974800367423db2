import Derived.Test.YtandfbmdopbikaaGreatDoorXM1
import Derived.OrdersHeld
import Derived.Carry
import Derived.ProofKit
import Derived.Below
import Derived.Laws.StructEq
import Derived.Great.FillDense
import Derived.Lib.Builder
import Derived.Lib.UnsafeStr
import Derived.MapKept
namespace Go.V
open Go.RowKit
set_option linter.unusedVariables false
set_option linter.unusedSimpArgs false
section
variable {P : Program} {n : Nat} {C : Cx} {k : List Item} {env : Env} {L : Own} {I : Imm} {ops : Array Oper} {i : Nat} {l : List Oper} {o : Oper}
variable {ty : TypeId} {ps : String} {af : Array Edge} {g : Option (Nat × Bool)} {d : Nat}
def Holds (I : Imm) (L : Own) (W : World) : Prop := (∀ b o, I b = some o → W.heap[b]? = some o) ∧ ∀ b o, (b, o) ∈ L → W.heap[b]? = some o
theorem Inv.holds {w0 : World} {I0 : Imm} {L0 : List Nat} {W : World} {J : Imm} {M : Own} (h : Inv w0 I0 L0 I L W) (hle : Le J I) (hs : ∀ x, x ∈ M → x ∈ L) : Holds J M W :=
  ⟨fun b o hb => h.fits.imm b o (hle b o hb), fun b o hm => h.fits.own b o (hs _ hm)⟩
def Qk (P : Program) (n : Nat) (C : Cx) (k : List Item) : Exit → Act → World → Prop
  | .normal, a, W => ∃ env L I, EnvOk n env a ∧ Inv C.w0 C.I0 C.L0 I L W ∧ Run P n C k env L I
  | _, _, _ => False
def RAny (P : Program) (n : Nat) (C : Cx) (ops : Array Oper) (S : World → Prop) (k : List Item) (fuel : Nat) (listed : List Bool) (env : Env) (L : Own) (I : Imm) : Prop :=
  ∀ a W, EnvOk n env a → Inv C.w0 C.I0 C.L0 I L W → wpAnyH P .any ops (Qk P n C k) S fuel listed.toArray a W
theorem Run.regionAny {id : Nat} (S : World → Prop) (listed : List Bool) (hm : P.follows .mixedOrders = true) (hl : (Array.replicate ops.size false) = listed.toArray)
    (h : RAny P n C ops S k ops.size listed env L I) : Run P n C (.code (.region id ops true) :: k) env L I := by
  intro b a cs W hb hk he hi
  have hw : (Code.region id ops true).wp P (Qk P n C k) a W := wp_region_held hm (by
    rw [hl]
    exact h a _ he hi.drew)
  obtain ⟨e, a', W', hq, harr⟩ := hw b k cs
  cases e with
  | normal =>
    obtain ⟨env', L', I', he', hi', hrun⟩ := hq
    obtain ⟨e, W2, fr, h1, h2, h3⟩ := hrun b a' cs W' hb hk he' hi'
    exact ⟨e, W2, fr, h1, Comes.of_steps harr h2, h3⟩
  | _ => exact hq.elim
theorem RAny.done {S : World → Prop} {listed : List Bool} (fuel : Nat) (hr : Region.ready .any ops listed.toArray = []) (h : Run P n C k env L I) : RAny P n C ops S k fuel listed env L I :=
  fun a W he hi => wpAnyH_done hr ⟨env, L, I, he, hi, h⟩ fuel
def Yld (P : Program) (n : Nat) (env : Env) (ops : Array Oper) (S : World → Prop) (o : Oper) (v : Value) : Prop :=
  (want env ops o.guard = some true ∧ ∀ a W, EnvOk n env a → S W → (execOp a.eval o).run P W = .ok (.value v) W) ∨ (want env ops o.guard = some false ∧ v = undef)
theorem RAny.take {S : World → Prop} {listed : List Bool} {fuel : Nat} (j : Nat) {oj : Oper} {v : Value} (listed' : List Bool) (hi : ops[j]? = some oj) (hs : Region.noSelect ops = true) (hf : Region.free .any ops listed.toArray j = true)
    (hr : (Region.ready .any ops listed.toArray).contains j = true) (hl : listed.toArray.setIfInBounds j true = listed'.toArray) (hd : ∀ t, oj.dst = some t → t < n) (hS : ∀ W, Inv C.w0 C.I0 C.L0 I L W → S W) (hy : Yld P n env ops S oj v)
    (h : RAny P n C ops S k fuel listed' (V.put env oj.dst v) L I) : RAny P n C ops S k (fuel + 1) listed env L I := by
  intro a W he hinv
  refine wpAnyH_take hi hs hf hr (fun c a w h => h.elim) ?_ (hS W hinv) (by rw [hl]; exact h _ W (he.put hd) hinv)
  rcases hy with ⟨hw, hv⟩ | ⟨hw, hv⟩
  · exact .inl ⟨want_spec he hw, fun w hSw => hv a w he hSw⟩
  · exact .inr ⟨want_spec he hw, hv⟩
theorem Yld.eval {S : World → Prop} (T : Tab P) {op : Op} {v : Value} (hg : want env ops g = some true) (h : evalOp T env op = some v) : Yld P n env ops S ⟨some d, op, ty, ps, af, g⟩ v :=
  .inl ⟨hg, fun a W he _ => evalOp_ok h he W⟩
theorem Yld.off {S : World → Prop} {op : Op} {d : Option Nat} (hg : want env ops g = some false) : Yld P n env ops S ⟨d, op, ty, ps, af, g⟩ undef := .inr ⟨hg, rfl⟩
theorem Yld.of {S : World → Prop} {v : Value} (hg : want env ops o.guard = some true) (h : ∀ a W, EnvOk n env a → (execOp a.eval o).run P W = .ok (.value v) W) : Yld P n env ops S o v := .inl ⟨hg, fun a W he _ => h a W he⟩
theorem Holds.cell {J : Imm} {M : Own} {W : World} (h : Holds J M W) {b off : Nat} {vs : List Value} (hA : At J b off vs) : ∀ j v, vs[j]? = some v → W.cell? ⟨b, off + j, none⟩ = some v := by
  obtain ⟨cs, t, fr, h1, h2⟩ := hA
  intro j v hv
  rw [cell_blk (h.1 b _ h1)]; exact h2 j v hv
theorem Holds.own {J : Imm} {M : Own} {W : World} (h : Holds J M W) {b off : Nat} {cs : List Value} {t : TypeId} {v : Value} (j : Nat) (hM : M[j]? = some (b, blk cs t)) (hv : cs[off]? = some v) : W.cell? ⟨b, off, none⟩ = some v := by
  rw [cell_blk (h.2 b _ (List.mem_of_getElem? hM))]; simpa using hv
theorem Yld.load {J : Imm} {M : Own} {t : TypeId} {x : Operand} {b off : Nat} {v : Value} (j : Nat) {cs : List Value} {t' : TypeId} (T : Tab P) (hg : want env ops g = some true) (hx : opnd env x = some (.pointer (some ⟨b, off, none⟩)))
    (hM : M[j]? = some (b, blk cs t')) (ha : T.agg t = some false) (hv : cs[off]? = some v) : Yld P n env ops (Holds J M) ⟨some d, .load t x, ty, ps, af, g⟩ v :=
  .inl ⟨hg, fun a W he hS => by simp [execOp, Instr.loadAt, Instr.sureAddr, eval_opnd he hx, run_loadVar1 (T.aggOk ha) (hS.own j hM hv)]⟩
theorem Yld.loadI {J : Imm} {M : Own} {t : TypeId} {x : Operand} {b off : Nat} {v : Value} (T : Tab P) (hA : At J b off [v]) (hg : want env ops g = some true) (hx : opnd env x = some (.pointer (some ⟨b, off, none⟩)))
    (ha : T.agg t = some false) : Yld P n env ops (Holds J M) ⟨some d, .load t x, ty, ps, af, g⟩ v :=
  .inl ⟨hg, fun a W he hS => by simp [execOp, Instr.loadAt, Instr.sureAddr, eval_opnd he hx, run_loadVar1 (T.aggOk ha) (by simpa using hS.cell hA 0 v rfl)]⟩
theorem Yld.loadN {J : Imm} {M : Own} {t : TypeId} {x : Operand} {b off m : Nat} {vs : List Value} (j : Nat) {cs : List Value} {t' : TypeId} (T : Tab P) (hg : want env ops g = some true) (hx : opnd env x = some (.pointer (some ⟨b, off, none⟩)))
    (hM : M[j]? = some (b, blk cs t')) (ha : T.agg t = some true) (hs : T.size t = some m) (hv : (cs.drop off).take m = vs) (hm : vs.length = m) : Yld P n env ops (Holds J M) ⟨some d, .load t x, ty, ps, af, g⟩ (.agg vs.toArray) :=
  .inl ⟨hg, fun a W he hS => by
    have hc : ∀ j v, vs[j]? = some v → W.cell? ⟨b, off + j, none⟩ = some v := fun q v h => by
      rw [cell_blk (hS.2 b _ (List.mem_of_getElem? hM))]
      rw [← hv, List.getElem?_take] at h
      split at h
      · simpa using h
      · cases h
    simp [execOp, Instr.loadAt, Instr.sureAddr, eval_opnd he hx, run_loadVarN (T.aggOk ha) (T.sizeOk hs) hm hc]⟩
theorem Yld.val {S : World → Prop} {v : Value} (hg : want env ops o.guard = some true) (h : ∀ a W, EnvOk n env a → S W → (execOp a.eval o).run P W = .ok (.value v) W) : Yld P n env ops S o v := .inl ⟨hg, h⟩
theorem RAny.all {S : World → Prop} {listed : List Bool} {fuel : Nat} (rs : List Nat) (hr : Region.ready .any ops listed.toArray = rs) (hne : rs ≠ [])
    (h : ∀ j ∈ rs, ∃ o, ops[j]? = some o ∧ want env ops o.guard = some true ∧ (∀ t, o.dst = some t → t < n) ∧
      Eff P n C env L I o fun v L1 I1 => (∀ W, Inv C.w0 C.I0 C.L0 I1 L1 W → S W) ∧ ∃ listed', listed.toArray.setIfInBounds j true = listed'.toArray ∧ RAny P n C ops S k fuel listed' (V.put env o.dst v) L1 I1) :
    RAny P n C ops S k (fuel + 1) listed env L I := by
  intro a W he hi
  refine wpAnyH_all hr hne ?_
  intro j hj
  obtain ⟨o, ho, hw, hd, hE⟩ := h j hj
  unfold wpOp
  simp only [ho, want_spec he hw, if_true]
  refine .inl ?_
  unfold Oper.wp
  rcases hE a W he hi with ⟨v, W1, L1, I1, hr, hi1, hS, listed', hl, hR⟩ | ⟨f, args, hr, hc⟩
  · have hfin : S W1 ∧ wpAnyH P .any ops (Qk P n C k) S fuel (listed.toArray.setIfInBounds j true) (a.put o.dst v) W1 := ⟨hS W1 hi1, by rw [hl]; exact hR _ W1 (he.put hd) hi1⟩
    rcases hr with hr | ⟨hr, rfl⟩
    · rw [hr]; exact hfin
    · rw [hr]; exact hfin
  · rw [hr]
    refine hc.mono ?_
    rintro e W1 ⟨v, L1, I1, rfl, hi1, hS, listed', hl, hR⟩
    exact ⟨hS W1 hi1, by rw [hl]; exact hR _ W1 (he.put hd) hi1⟩
variable {K : Value → Own → Imm → Prop}
theorem Eff.box {t : TypeId} {x : Operand} {z : Value} {cs : List Value} (hx : opnd env x = some z) (hc : z.cells = cs.toArray) (next : ∀ b, K (.pointer (some ⟨b, 0, none⟩)) ((b, blk cs t) :: L) I) :
    Eff P n C env L I ⟨some d, .box t x, ty, ps, af, g⟩ K :=
  Eff.valW fun a W he hi => ⟨.pointer (some ⟨W.heap.size, 0, none⟩), W.alloc (blk cs t), (W.heap.size, blk cs t) :: L, I,
    .inl (by
      have : ({ W with heap := W.heap.push (.cells cs.toArray t (0, 0)) } : World) = W.alloc (blk cs t) := rfl
      simp [execOp, Instr.box, eval_opnd he hx, newVar, newRow, newObj, Sem.run, hc, this]; try rfl), hi.alloc _, next _⟩
theorem Eff.alloc {t : TypeId} {z : Value} {cs : List Value} (hz : ∀ w, (zeroValue t).run P w = .ok z w) (hc : z.cells = cs.toArray) (next : ∀ b, K (.pointer (some ⟨b, 0, none⟩)) ((b, blk cs t) :: L) I) :
    Eff P n C env L I ⟨some d, .alloc t, ty, ps, af, g⟩ K :=
  Eff.valW fun a W he hi => ⟨.pointer (some ⟨W.heap.size, 0, none⟩), W.alloc (blk cs t), (W.heap.size, blk cs t) :: L, I,
    .inl (by
      have : ({ W with heap := W.heap.push (.cells cs.toArray t (0, 0)) } : World) = W.alloc (blk cs t) := rfl
      simp [execOp, Instr.alloc, hz, newVar, newRow, newObj, Sem.run, hc, this]; try rfl), hi.alloc _, next _⟩
theorem Eff.store {t : TypeId} {x y : Operand} {b off m : Nat} {v : Value} (j : Nat) {cs vs cs' : List Value} {t' : TypeId} (hx : opnd env x = some (.pointer (some ⟨b, off, none⟩))) (hy : opnd env y = some v)
    (hc : v.cells = vs.toArray) (hL : L[j]? = some (b, blk cs t')) (hs : ∀ w, (sizeOf t).run P w = .ok m w) (hm : vs.length = m) (hle : off + m ≤ cs.length) (h1 : one vs = true) (hcs : setAt cs off vs = cs')
    (next : K undef (upL L j (blk cs' t')) I) : Eff P n C env L I ⟨none, .store t x y, ty, ps, af, g⟩ K :=
  Eff.valW fun a W he hi => by
    obtain ⟨R, hp, hp'⟩ := upL_perm L j b (blk cs t') (blk cs' t') hL
    have hW := hi.fits.own b _ (List.mem_of_getElem? hL)
    have hr := run_storeCells_at P b off t' vs 0 cs.toArray W hW (by simp; omega) (one_spec h1)
    simp only [Nat.add_zero] at hr
    have hcs' : (cs.toArray.toList.take off ++ vs ++ cs.toArray.toList.drop (off + vs.length)).toArray = cs'.toArray := by rw [← hcs]; rfl
    rw [hcs'] at hr
    refine ⟨undef, W.setRow b cs'.toArray, upL L j (blk cs' t'), I, .inr ⟨?_, rfl⟩, ?_, next⟩
    · simp [execOp, Instr.storeAt, Instr.sureAddr, eval_opnd he hx, eval_opnd he hy, storeVar, hc, hs, hm, hr]
    · exact ((hi.perm hp).upd (W' := W.setRow b cs'.toArray) rfl rfl rfl (by simp) (fun c _ hcb => setRow_other W b c _ hcb) (setRow_heap W b cs.toArray cs'.toArray t' _ hW)).perm hp'.symm
theorem Eff.assign {x : Operand} {v : Value} (hx : opnd env x = some v) (next : K v L I) : Eff P n C env L I ⟨some d, .assign x, ty, ps, af, g⟩ K :=
  Eff.valW fun a W he hi => ⟨v, W, L, I, .inl (by simp [execOp, eval_opnd he hx]), hi, next⟩
theorem Eff.call {f : FuncId} {xs : List Operand} {ats : Array TypeId} {vs : List Value} {R : Value → Imm → Prop} (hs : Pure P f vs I R) (hc : ∀ args w, (callFunc f args).run P w = .ok (.enter f args) w)
    (hx : opnds env xs = some vs) (next : ∀ v J, Le I J → R v J → K v L J) : Eff P n C env L I ⟨some d, .call ⟨.value (.func f), xs.toArray, ats⟩, ty, ps, af, g⟩ K :=
  Eff.callW (M := []) (N := L) (fun a W he => run_callF hc he hx) (.refl _) hs fun v J M' hle ⟨hM, hR⟩ => by subst hM; exact next v J hle hR
end
end Go.V
namespace Go.V
open Go.RowKit Go.ChangeShapes
set_option linter.unusedVariables false
set_option linter.unusedSimpArgs false
def tNSl {α : Type} (t : Ty α) : Ty (Option (List α)) :=
  ⟨1, fun I cs xs => match xs with
    | none => cs = [.slice none 0 0]
    | some xs => ∃ a c, cs = [.slice (some a) xs.length c] ∧ xs.length ≤ c ∧ (xs = [] ∨ ∃ b off, a = ⟨b, off, none⟩ ∧ RowAt t I b off xs),
   fun {I cs x} h => by
    cases x with
    | none => simp only at h; subst h; rfl
    | some x => obtain ⟨a, c, h, _⟩ := h; subst h; rfl,
   fun {I J cs x} h hle => by
    cases x with
    | none => exact h
    | some x => obtain ⟨a, c, h, h1, h2⟩ := h; exact ⟨a, c, h, h1, h2.imp id fun ⟨b, off, h3, h4⟩ => ⟨b, off, h3, h4.mono hle⟩⟩⟩
inductive Cd where
  | int (k : IntKind)
  | bool
  | str
  | sl (e : Cd)
  | nsl (e : Cd)
  | st (c : Cd)
  | pair (c r : Cd)
def Cd.ty : Cd → Type
  | .int _ => Int
  | .bool => Bool
  | .str => List UInt8
  | .sl e => List e.ty
  | .nsl e => Option (List e.ty)
  | .st c => c.ty
  | .pair c r => c.ty × r.ty
def Cd.T : (c : Cd) → V.Ty c.ty
  | .int k => tInt k
  | .bool => tBool
  | .str => tStr
  | .sl e => tSl e.T
  | .nsl e => tNSl e.T
  | .st c => c.T
  | .pair c r => tPair c.T r.T
def Cd.ok : (c : Cd) → c.ty → Prop
  | .int k, x => (Lit.int k (x : Int)).wf = true
  | .bool, _ => True
  | .str, s => (s : List UInt8).length ≤ maxLen
  | .sl e, xs => let l : List e.ty := xs; l.length ≤ maxLen ∧ ∀ x ∈ l, e.ok x
  | .nsl e, xs => ∀ l : List e.ty, (xs : Option (List e.ty)) = some l → l.length ≤ maxLen ∧ ∀ x ∈ l, e.ok x
  | .st c, x => c.ok x
  | .pair c r, x => c.ok (x : c.ty × r.ty).1 ∧ r.ok (x : c.ty × r.ty).2
def fitsFs (fits : Cd → TypeId → Bool) (size : TypeId → Nat) : Cd → List Field → Nat → Bool
  | .pair c r, f :: fs, off => f.offset == off && fits c f.type && fitsFs fits size r fs (off + size f.type)
  | c, [f], off => f.offset == off && fits c f.type
  | _, _, _ => false
def Cd.fits (P : Program) : Nat → Cd → TypeId → Bool
  | 0, _, _ => false
  | d + 1, c, t => match c, P.underlying t with
    | .int k, some (.int k') => k == k' && P.cellsOf t == 1
    | .bool, some .bool => P.cellsOf t == 1
    | .str, some .string => P.cellsOf t == 1
    | .sl e, some (.slice te) => Cd.fits P d e te && P.cellsOf t == 1
    | .nsl e, some (.slice te) => Cd.fits P d e te && P.cellsOf t == 1
    | .st c, some (.struct fs) => fitsFs (Cd.fits P d) P.cellsOf c fs.toList 0 && c.T.size == P.cellsOf t
    | _, _ => false
def whole (W : World) : Imm := fun b => W.heap[b]?
theorem cells_spec {W : World} {a : Addr} {m : Nat} {cs : List Value} (h : W.cells? 0 a m = some cs) : cs.length = m ∧ ∀ j v, cs[j]? = some v → W.cell? (a.add j) = some v := by
  simp only [World.cells?, Nat.zero_le, if_true] at h
  have key : ∀ (l : List Nat) (cs : List Value), l.mapM (fun i => W.cell? (a.add i)) = some cs → cs.length = l.length ∧ ∀ (j : Nat) (v : Value), cs[j]? = some v → ∃ i, l[j]? = some i ∧ W.cell? (a.add i) = some v := by
    intro l
    induction l with
    | nil => intro cs h; simp at h; subst h; simp
    | cons i r ih =>
      intro cs h
      simp only [List.mapM_cons, Option.bind_eq_bind, Option.bind_eq_some_iff, Option.pure_def, Option.some.injEq] at h
      obtain ⟨v, hv, vs, hvs, rfl⟩ := h
      obtain ⟨h1, h2⟩ := ih vs hvs
      refine ⟨by simp [h1], ?_⟩
      intro j u hu
      cases j with
      | zero => simp at hu; subst hu; exact ⟨i, rfl, hv⟩
      | succ j => simpa using h2 j u (by simpa using hu)
  obtain ⟨h1, h2⟩ := key _ _ h
  refine ⟨by simpa using h1, ?_⟩
  intro j v hv
  obtain ⟨i, hi, hc⟩ := h2 j v hv
  have : i = j := by
    have hj : j < m := by
      have := (List.getElem?_eq_some_iff.1 hv).1; simp at h1; omega
    simp [hj] at hi; exact hi.symm
  subst this; exact hc
theorem at_whole {W : World} {a : Addr} {vs : List Value} (hs : vs ≠ []) (h : ∀ (j : Nat) v, vs[j]? = some v → W.cell? (a.add j) = some v) : a.spot = none ∧ At (whole W) a.block a.off vs := by
  obtain ⟨v0, r, rfl⟩ := List.exists_cons_of_ne_nil hs
  have h0 := h 0 v0 rfl
  have ha0 : a.add 0 = a := by simp [Addr.add]
  rw [ha0] at h0
  unfold World.cell? at h0
  split at h0
  · rename_i c e f hb
    split at h0
    · cases h0
    · rename_i hsp
      have hspot : a.spot = none := by simpa using hsp
      refine ⟨hspot, c, e, f, hb, ?_⟩
      intro j v hv
      have := h j v hv
      have ha : a = ⟨a.block, a.off, none⟩ := by cases a; simp at hspot; subst hspot; rfl
      rw [ha, add_off, cell_blk hb] at this
      exact this
  · cases h0
theorem Cd.size_pos : ∀ c : Cd, 1 ≤ c.T.size
  | .int _ => Nat.le_refl _
  | .bool => Nat.le_refl _
  | .str => Nat.le_refl _
  | .sl _ => Nat.le_refl _
  | .nsl _ => Nat.le_refl _
  | .st c => Cd.size_pos c
  | .pair c r => by
    have h1 := Cd.size_pos c
    show 1 ≤ c.T.size + r.T.size
    omega
theorem Cd.fits_size {P : Program} : ∀ (d : Nat) (c : Cd) (t : TypeId), Cd.fits P d c t = true → c.T.size = P.cellsOf t
  | 0, _, _, h => by simp [Cd.fits] at h
  | d + 1, c, t, h => by
    simp only [Cd.fits] at h
    split at h <;> simp at h <;> first
      | (have := h.2; simp [Cd.T, tInt, tBool, tStr, tSl, tNSl, this]; done)
      | (simp [Cd.T, tInt, tBool, tStr, tSl, tNSl, h]; done)
      | exact h.2
section
variable {H : Type} {enc : TypeId × Value → H} {P : Program} {W : World}
theorem read_row {e : Cd} {te : TypeId} {a : Addr} {len : Nat} (hsz : e.T.size = P.cellsOf te)
    (hf : ∀ i, i < len → ∃ cs, W.cells? 0 (a.add (i * P.cellsOf te)) (P.cellsOf te) = some cs ∧ ∃ x, e.T.rel (whole W) cs x ∧ e.ok x) :
    ∃ xs : List e.ty, xs.length = len ∧ (∀ x ∈ xs, e.ok x) ∧ (xs = [] ∨ ∃ b off, a = ⟨b, off, none⟩ ∧ RowAt e.T (whole W) b off xs) := by
  have key : ∀ m, m ≤ len → ∃ xs : List e.ty, xs.length = m ∧ (∀ x ∈ xs, e.ok x) ∧ ∀ (i : Nat) x, xs[i]? = some x → ∃ cs, e.T.rel (whole W) cs x ∧ W.cells? 0 (a.add (i * P.cellsOf te)) (P.cellsOf te) = some cs := by
    intro m
    induction m with
    | zero => exact fun _ => ⟨[], rfl, by simp, by simp⟩
    | succ m ih =>
      intro hm
      obtain ⟨xs, h1, h2, h3⟩ := ih (by omega)
      obtain ⟨cs, hcs, x, hx, hok⟩ := hf m (by omega)
      refine ⟨xs ++ [x], by simp [h1], ?_, ?_⟩
      · intro z hz
        rcases List.mem_append.1 hz with hz | hz
        · exact h2 z hz
        · simp at hz; subst hz; exact hok
      · intro i z hz
        by_cases hi : i < m
        · rw [List.getElem?_append_left (by omega)] at hz
          exact h3 i z hz
        · rw [List.getElem?_append_right (by omega), h1] at hz
          have : i = m := by
            have := (List.getElem?_eq_some_iff.1 hz).1; simp at this; omega
          subst this
          simp at hz; subst hz
          exact ⟨cs, hx, hcs⟩
  obtain ⟨xs, h1, h2, h3⟩ := key len (Nat.le_refl _)
  refine ⟨xs, h1, h2, ?_⟩
  cases hxs : xs with
  | nil => exact .inl rfl
  | cons x0 r =>
    right
    have hpos : 1 ≤ P.cellsOf te := by rw [← hsz]; exact Cd.size_pos e
    have hat : ∀ (i : Nat) x, xs[i]? = some x → ∃ cs, e.T.rel (whole W) cs x ∧ (a.add (i * P.cellsOf te)).spot = none ∧ At (whole W) (a.add (i * P.cellsOf te)).block (a.add (i * P.cellsOf te)).off cs := by
      intro i x hx
      obtain ⟨cs, hr, hc⟩ := h3 i x hx
      obtain ⟨hl, hc'⟩ := cells_spec hc
      have hne : cs ≠ [] := fun he => by subst he; simp at hl; omega
      obtain ⟨hs, hA⟩ := at_whole hne hc'
      exact ⟨cs, hr, hs, hA⟩
    obtain ⟨_, _, hs0, _⟩ := hat 0 x0 (by rw [hxs]; rfl)
    rw [Nat.zero_mul, show a.add 0 = a by simp [Addr.add]] at hs0
    have ha : a = ⟨a.block, a.off, none⟩ := by cases a; simp at hs0; subst hs0; rfl
    refine ⟨a.block, a.off, ha, ?_⟩
    rw [← hxs]
    intro i x hx
    obtain ⟨cs, hr, _, hA⟩ := hat i x hx
    refine ⟨cs, hr, ?_⟩
    rw [ha, add_off, ← hsz] at hA
    exact hA
theorem read_fs {d : Nat} (hrec : ∀ c t fuel cs dat, Cd.fits P d c t = true → DataW.trod enc P W 0 (fun _ => true) true fuel t cs = some dat → ∃ x, c.T.rel (whole W) cs x ∧ c.ok x) {fuel : Nat} (cs : List Value) :
    ∀ (c : Cd) (fs : List Field) (off : Nat), fitsFs (Cd.fits P d) P.cellsOf c fs off = true →
      (∀ f, f ∈ fs → ∃ y, DataW.trod enc P W 0 (fun _ => true) true fuel f.type ((cs.drop f.offset).take (P.cellsOf f.type)) = some y) →
      cs.length = off + c.T.size → ∃ x, c.T.rel (whole W) (cs.drop off) x ∧ c.ok x := by
  intro c
  have last : ∀ (c : Cd) (f : Field) (off : Nat), (f.offset == off && Cd.fits P d c f.type) = true →
      (∃ y, DataW.trod enc P W 0 (fun _ => true) true fuel f.type ((cs.drop f.offset).take (P.cellsOf f.type)) = some y) →
      cs.length = off + c.T.size → ∃ x, c.T.rel (whole W) (cs.drop off) x ∧ c.ok x := by
    intro c f off hfit hm hlen
    simp only [Bool.and_eq_true, beq_iff_eq] at hfit
    obtain ⟨ho, hf⟩ := hfit
    obtain ⟨y, hy⟩ := hm
    obtain ⟨x, hx, hok⟩ := hrec c f.type fuel _ y hf hy
    refine ⟨x, ?_, hok⟩
    rw [ho, ← Cd.fits_size d c f.type hf, List.take_of_length_le (by simp; omega)] at hx
    exact hx
  induction c with
  | pair c r _ ihr =>
    intro fs off hfit hm hlen
    cases fs with
    | nil => simp [fitsFs] at hfit
    | cons f fs =>
      simp only [fitsFs, Bool.and_eq_true, beq_iff_eq] at hfit
      obtain ⟨⟨ho, hf⟩, hfs⟩ := hfit
      obtain ⟨y, hy⟩ := hm f List.mem_cons_self
      obtain ⟨x, hx, hok⟩ := hrec c f.type fuel _ y hf hy
      have hsz := Cd.fits_size d c f.type hf
      have hl : cs.length = off + (c.T.size + r.T.size) := hlen
      obtain ⟨y, hy2, hok2⟩ := ihr fs (off + P.cellsOf f.type) hfs (fun f hf => hm f (List.mem_cons_of_mem _ hf)) (by rw [← hsz]; omega)
      refine ⟨(x, y), ⟨(cs.drop off).take c.T.size, cs.drop (off + P.cellsOf f.type), ?_, ?_, hy2⟩, hok, hok2⟩
      · rw [← hsz, ← List.drop_drop, List.take_append_drop]
      · rw [ho, ← hsz] at hx; exact hx
  | _ =>
    intro fs off hfit hm hlen
    cases fs with
    | nil => simp [fitsFs] at hfit
    | cons f fs =>
      cases fs with
      | nil => exact last _ f off (by simpa [fitsFs] using hfit) (hm f List.mem_cons_self) hlen
      | cons _ _ => simp [fitsFs] at hfit
theorem read (d : Nat) : ∀ c t fuel cs dat, Cd.fits P d c t = true → DataW.trod enc P W 0 (fun _ => true) true fuel t cs = some dat → ∃ x, c.T.rel (whole W) cs x ∧ c.ok x := by
  induction d with
  | zero => intro c t fuel cs dat h; simp [Cd.fits] at h
  | succ d ih =>
    intro c t fuel cs dat hfit h
    simp only [Cd.fits] at hfit
    have row : ∀ (e : Cd) (te : TypeId) (a : Addr) (len n : Nat) (elems : List (DataW H × List MemPlace)), Cd.fits P d e te = true → elems.length = len →
        (∀ i, i < len → (W.cells? 0 (a.add (i * P.cellsOf te)) (P.cellsOf te)).bind (DataW.trod enc P W 0 (fun _ => true) true n te) = elems[i]?) →
        ∃ xs : List e.ty, xs.length = len ∧ (∀ x ∈ xs, e.ok x) ∧ (xs = [] ∨ ∃ b off, a = ⟨b, off, none⟩ ∧ RowAt e.T (whole W) b off xs) := by
      intro e te a len n elems hfe hlen hel
      refine read_row (Cd.fits_size d e te hfe) ?_
      intro i hi
      have hi' := hel i hi
      rw [List.getElem?_eq_getElem (by omega)] at hi'
      obtain ⟨cs, hcs, ht⟩ := Option.bind_eq_some_iff.1 hi'
      exact ⟨cs, hcs, ih e te n cs _ hfe ht⟩
    split at hfit
    · rename_i k k' hu
      simp only [Bool.and_eq_true, beq_iff_eq] at hfit
      obtain ⟨rfl, _⟩ := hfit
      obtain ⟨m, rfl, _, hw⟩ := DataW.trod_int hu h
      exact ⟨m, rfl, hw⟩
    · rename_i hu
      obtain ⟨b, rfl, _⟩ := DataW.trod_bool hu h
      exact ⟨b, rfl, trivial⟩
    · rename_i hu
      obtain ⟨s, rfl, _, hs⟩ := DataW.trod_string hu h
      refine ⟨s.data.toList, ?_, ?_⟩
      · show [Value.string s] = [str s.data.toList]
        simp [str]
      · show s.data.toList.length ≤ maxLen
        rw [Array.length_toList]; exact hs
    · rename_i e te hu
      simp only [Bool.and_eq_true, beq_iff_eq] at hfit
      rcases DataW.trod_slice hu h with ⟨rfl, _⟩ | ⟨a, len, cap, elems, rest, n, rfl, rfl, _, _, hlc, hcm, hlen, hel, _⟩
      · refine ⟨([] : List e.ty), ⟨_, rfl, Sl.nil _ _⟩, ?_⟩
        exact ⟨Nat.zero_le _, fun x hx => by cases hx⟩
      · obtain ⟨xs, h1, h2, h3⟩ := row e te a len n elems hfit.1 hlen hel
        refine ⟨xs, ⟨_, rfl, some a, cap, by rw [h1], by rw [h1]; exact hlc, h3.imp id fun ⟨b, off, h4, h5⟩ => ⟨b, off, by rw [h4], h5⟩⟩, ?_⟩
        exact ⟨by rw [h1]; omega, h2⟩
    · rename_i e te hu
      simp only [Bool.and_eq_true, beq_iff_eq] at hfit
      rcases DataW.trod_slice hu h with ⟨rfl, _⟩ | ⟨a, len, cap, elems, rest, n, rfl, rfl, _, _, hlc, hcm, hlen, hel, _⟩
      · exact ⟨(none : Option (List e.ty)), rfl, fun l hl => by cases hl⟩
      · obtain ⟨xs, h1, h2, h3⟩ := row e te a len n elems hfit.1 hlen hel
        refine ⟨(some xs : Option (List e.ty)), ⟨a, cap, by rw [h1], by rw [h1]; exact hlc, h3⟩, ?_⟩
        intro l hl
        cases hl
        exact ⟨by rw [h1]; omega, h2⟩
    · rename_i c fs hu
      simp only [Bool.and_eq_true, beq_iff_eq] at hfit
      obtain ⟨xs, n, rfl, _, hl, hxl, hel⟩ := DataW.trod_struct hu h
      have := read_fs ih (fuel := n) cs c fs.toList 0 hfit.1 (fun f hf => by
        obtain ⟨i, hi⟩ := List.getElem?_of_mem hf
        have hi' := hel i f (by simpa using hi)
        have hlt : i < xs.length := by
          have := (List.getElem?_eq_some_iff.1 hi).1
          simp at this; omega
        rw [List.getElem?_eq_getElem hlt] at hi'
        exact ⟨_, hi'⟩) (by rw [hl, hfit.2]; omega)
      rw [List.drop_zero] at this
      exact this
    · cases hfit
end
def Val (c : Cd) (I : Imm) (v : Value) (x : c.ty) : Prop :=
  match c, x with
  | .st c, x => ∃ cs, v = .agg cs.toArray ∧ c.T.rel I cs x
  | c, x => c.T.rel I [v] x
theorem read_arg {H : Type} {enc : TypeId × Value → H} {P : Program} {W : World} (d : Nat) {c : Cd} {t : TypeId} {v : Value} {dat : DataW H} {ps : List MemPlace} {r : Reach} {base : Nat} (hf : Cd.fits P (d + 1) c t = true)
    (hv : Value.okWide P W r base t v) (h : DataW.Trod enc P W 0 (fun _ => true) true t v dat ps) : ∃ x, Val c (whole W) v x ∧ c.ok x := by
  obtain ⟨fuel, hr⟩ := h
  obtain ⟨x, hx, hok⟩ := read (d + 1) c t fuel _ _ hf hr
  have flat : (∀ cs, ¬ Cell.okWide P W r base t (.agg cs)) → Cell.okWide P W r base t v → v.cells.toList = [v] := by
    intro h1 h2
    cases v <;> first | rfl | exact absurd h2 (h1 _)
  simp only [Cd.fits] at hf
  split at hf
  case h_6 c fs hu =>
    simp only [Value.okWide, hu] at hv
    obtain ⟨cs, rfl, _⟩ := hv
    exact ⟨x, ⟨cs.toList, by simp, hx⟩, hok⟩
  case h_7 => cases hf
  all_goals
    rename_i hu
    simp only [Value.okWide, hu] at hv
    rw [flat (fun cs hc => by simp [Cell.okWide, hu, Cell.ok] at hc) hv] at hx
    exact ⟨x, hx, hok⟩
theorem Pure.calls {P : Program} {f : FuncId} {args : List Value} {R : Value → Imm → Prop} {W : World} (h : Pure P f args (whole W) R) :
    Calls P f args.toArray W fun e W' => (∃ v J, e = .returned v ∧ R v J) ∧ Below W.heap.size W W' := by
  refine (h W ⟨fun _ _ h => h, (fun _ _ h => by cases h), (fun _ _ h => by cases h), List.nodup_nil⟩).mono ?_
  rintro e W' ⟨v, J, L, rfl, ⟨rfl, hR⟩, hi⟩
  exact ⟨⟨v, J, rfl, hR⟩, hi.os, hi.tape, hi.output, hi.size, fun k hk => hi.old k hk (by simp)⟩
end Go.V
namespace Go.V
open Go.RowKit
set_option linter.unusedVariables false
set_option linter.unusedSimpArgs false
def eqV {P : Program} (T : Tab P) (S : List Nat) : Nat → TypeId → Value → Value → Option Bool
  | 0, _, _, _ => none
  | d + 1, t, x, y =>
    match T.und t, x, y with
    | some .bool, .bool a, .bool b => some (a == b)
    | some (.int _), .int k a, .int k' b => bif k == k' then some (a == b) else none
    | some .string, .string a, .string b => some (a.data.toList == b.data.toList)
    | some (.struct fs), .agg xs, .agg ys => bif S.contains t then fs.toList.foldr (fun f (acc : Option Bool) =>
        bif f.name == "_" then acc else
        match T.agg f.type with
        | some false => match xs.toList[f.offset]?, ys.toList[f.offset]? with
          | some u, some v => match eqV T S d f.type u v, acc with
            | some a, some b => some (a && b)
            | _, _ => none
          | _, _ => none
        | some true => match T.size f.type with
          | some m => match eqV T S d f.type (.agg ((xs.toList.drop f.offset).take m).toArray) (.agg ((ys.toList.drop f.offset).take m).toArray), acc with
            | some a, some b => some (a && b)
            | _, _ => none
          | none => none
        | none => none) (some true) else none
    | _, _, _ => none
section
variable {P : Program} {n : Nat} {C : Cx} {k : List Item} {env : Env} {L : Own} {I : Imm} {ops : Array Oper} {i : Nat} {l : List Oper}
variable {ty : TypeId} {ps : String} {af : Array Edge} {g : Option (Nat × Bool)} {d : Nat}
theorem und_of_run {t : TypeId} {u : TypeDesc} {W : World} (h : (underlying t).run P W = .ok u W) : P.underlying t = some u := by
  cases hu : P.underlying t with
  | none => simp [underlying, hu] at h
  | some v => rw [run_underlying hu] at h; cases h; rfl
theorem run_part1 {t : TypeId} {xs : Array Value} {off : Nat} {v : Value} {W : World} (ha : ∀ w, (isAgg t).run P w = .ok false w) (hv : xs.toList[off]? = some v) : (part t xs off).run P W = .ok v W := by
  simp at hv; simp [part, ha, hv]
theorem run_partN {t : TypeId} {xs : Array Value} {off m : Nat} {W : World} (ha : ∀ w, (isAgg t).run P w = .ok true w) (hs : ∀ w, (sizeOf t).run P w = .ok m w) : (part t xs off).run P W = .ok (.agg ((xs.toList.drop off).take m).toArray) W := by
  obtain ⟨xs⟩ := xs
  simp [part, ha, hs]
theorem run_eqV (T : Tab P) {S : List Nat} (hS : S.all (fun t => !P.stoodInHeld t && !P.eqGuardType P.depth t) = true) : ∀ (d : Nat) (t : TypeId) (x y : Value) (r : Bool), eqV T S d t x y = some r → ∀ W, (Op.equalIn d t x y).run P W = .ok r W
  | 0, _, _, _, _, h, _ => by simp [eqV] at h
  | d + 1, t, x, y, r, h, W => by
    unfold eqV at h
    split at h
    · rename_i a b hu
      cases h
      exact run_equalIn_bool' W d t a b (und_of_run (W := W) (T.undOk hu W))
    · rename_i kk k a k' b hu
      cases hk : (k == k') <;> rw [hk] at h <;> simp at h
      have : k = k' := by simpa using hk
      subst this; subst h
      exact run_equalIn_int W d t k kk a b (und_of_run (W := W) (T.undOk hu W))
    · rename_i a b hu
      cases h
      rw [run_equalIn_string W d t a b (und_of_run (W := W) (T.undOk hu W)), ba_toList, ba_toList]
    · rename_i fs xs ys hu
      cases hc : S.contains t <;> rw [hc] at h
      · simp at h
      have hst : P.stoodInHeld t = false := by
        have := List.all_eq_true.1 hS t (by simpa using hc)
        simp at this; exact this.1
      have hP := und_of_run (W := W) (T.undOk hu W)
      have hfo : P.fieldsOf t = fs := by simp [Program.fieldsOf, hP]
      rw [run_equalIn_struct W d t xs ys (by rw [hfo]; exact hP) hst, hfo]
      simp only [cond_true] at h
      clear hfo hP hu hc
      generalize fs.toList = l at h
      induction l generalizing r with
      | nil => simp at h; subst h; rfl
      | cons f l ih =>
        simp only [List.foldr_cons] at h
        simp only [Op.eqFields]
        cases hn : (f.name == "_") <;> rw [hn] at h
        · have hn' : f.name ≠ "_" := by simpa using hn
          rw [if_pos hn']
          simp only [cond_false] at h
          have fin : ∀ (u v : Value) (acc : Option Bool), acc = List.foldr (fun f (acc : Option Bool) =>
              bif f.name == "_" then acc else
              match T.agg f.type with
              | some false => match xs.toList[f.offset]?, ys.toList[f.offset]? with
                | some u, some v => match eqV T S d f.type u v, acc with
                  | some a, some b => some (a && b)
                  | _, _ => none
                | _, _ => none
              | some true => match T.size f.type with
                | some m => match eqV T S d f.type (.agg ((xs.toList.drop f.offset).take m).toArray) (.agg ((ys.toList.drop f.offset).take m).toArray), acc with
                  | some a, some b => some (a && b)
                  | _, _ => none
                | none => none
              | none => none) (some true) l → (match eqV T S d f.type u v, acc with
                  | some a, some b => some (a && b)
                  | _, _ => none) = some r → (part f.type xs f.offset).run P W = .ok u W → (part f.type ys f.offset).run P W = .ok v W →
              (do let a ← part f.type xs f.offset; let b ← part f.type ys f.offset; let r ← Op.equalIn d f.type a b; if (!r) = true then pure false else Op.eqFields d xs ys l : Sem Bool).run P W = .ok r W := by
            intro u v acc hacc hm hpu hpv
            split at hm
            · rename_i a b he
              cases hm
              simp only [Sem.run_bind, hpu, hpv, Result.andThen_ok, run_eqV T hS d f.type u v a he W, Sem.run_ite]
              cases a
              · simp
              · simp only [Bool.not_true, Bool.false_eq_true, if_false, Bool.true_and]
                exact ih b hacc.symm
            · cases hm
          split at h
          · rename_i ha
            split at h
            · rename_i u v hxu hyv
              exact fin u v _ rfl h (run_part1 (T.aggOk ha) hxu) (run_part1 (T.aggOk ha) hyv)
            · cases h
          · rename_i ha
            split at h
            · rename_i m hm
              exact fin _ _ _ rfl h (run_partN (T.aggOk ha) (T.sizeOk hm)) (run_partN (T.aggOk ha) (T.sizeOk hm))
            · cases h
          · cases h
        · have hn' : ¬ f.name ≠ "_" := by simpa using hn
          rw [if_neg hn']
          simp only [cond_true] at h
          exact ih r h
    · cases h
theorem run_eqlAgg (T : Tab P) (S : List Nat) {t : TypeId} {xs ys : Array Value} {r : Bool} (hS : S.all (fun t => !P.stoodInHeld t && !P.eqGuardType P.depth t) = true) (hin : S.contains t = true) (h : eqV T S 10000 t (.agg xs) (.agg ys) = some r) (x y : Operand) (W : World) :
    (eqGuard .eql t x y (.agg xs) (.agg ys)).run P W = .ok () W ∧ (eqGuard .neq t x y (.agg xs) (.agg ys)).run P W = .ok () W ∧ (binOp .eql t (.agg xs) (.agg ys)).run P W = .ok (.bool r) W ∧ (binOp .neq t (.agg xs) (.agg ys)).run P W = .ok (.bool (!r)) W := by
  have hg : P.eqGuardType P.depth t = false := by
    have := List.all_eq_true.1 hS t (by simpa using hin)
    simp at this; exact this.2
  refine ⟨run_eqGuard_agg W _ t x y xs ys hg, run_eqGuard_agg W _ t x y xs ys hg, ?_, ?_⟩
  · rw [run_eql_struct, run_eqV T hS 10000 t _ _ r h W]; rfl
  · rw [run_neq_struct, run_eqV T hS 10000 t _ _ r h W]; rfl
theorem Ops.eqlAgg {t t' : TypeId} {x y : Operand} {xs ys : List Value} {r : Bool} (T : Tab P) (S : List Nat) (hS : S.all (fun t => !P.stoodInHeld t && !P.eqGuardType P.depth t) = true) (hin : S.contains t = true) (hg : want env ops g = some true) (hd : d < n)
    (hx : opnd env x = some (.agg xs.toArray)) (hy : opnd env y = some (.agg ys.toArray)) (h : eqV T S 10000 t (.agg xs.toArray) (.agg ys.toArray) = some r)
    (next : Ops P n C ops (i + 1) l k ((d, .bool r) :: env) L I) : Ops P n C ops i (⟨some d, .binOp .eql t x y t', ty, ps, af, g⟩ :: l) k env L I :=
  Ops.val hg (dOk hd) (fun a W he hi => by
    obtain ⟨h1, _, h2, _⟩ := run_eqlAgg T S hS hin h x y W
    simp only [execOp, eval_opnd he hx, eval_opnd he hy, Sem.run_bind, h1, h2, Result.andThen_ok]; rfl) next
theorem Ops.eqlB {t t' : TypeId} {x y : Operand} {p q : Bool} (T : Tab P) (hg : want env ops g = some true) (hd : d < n) (hu : T.und t = some .bool) (hx : opnd env x = some (.bool p)) (hy : opnd env y = some (.bool q))
    (next : Ops P n C ops (i + 1) l k ((d, .bool (p == q)) :: env) L I) : Ops P n C ops i (⟨some d, .binOp .eql t x y t', ty, ps, af, g⟩ :: l) k env L I :=
  Ops.val hg (dOk hd) (fun a W he hi => by
    have h1 := run_eqGuard_bool (P := P) .eql t x y p (.bool q) W
    have h2 : (Op.equal t (.bool p) (.bool q)).run P W = .ok (p == q) W := run_equalIn_bool W 9999 t p q (und_of_run (W := W) (T.undOk hu W))
    simp only [execOp, eval_opnd he hx, eval_opnd he hy, Sem.run_bind, h1, binOp, h2, Result.andThen_ok]; rfl) next
theorem run_cellN (T : Tab P) {j b off m : Nat} {vs cs : List Value} {t t' : TypeId} {W : World} (hi : Inv C.w0 C.I0 C.L0 I L W) (hL : L[j]? = some (b, blk cs t')) (ha : T.agg t = some true) (hs : T.size t = some m) (hv : (cs.drop off).take m = vs) (hm : vs.length = m) :
    (loadVar t ⟨b, off, none⟩).run P W = .ok (.agg vs.toArray) W := by
  refine run_loadVarN (T.aggOk ha) (T.sizeOk hs) hm ?_
  intro q v h
  rw [cell_blk (hi.fits.own b _ (List.mem_of_getElem? hL))]
  rw [← hv, List.getElem?_take] at h
  split at h
  · simpa using h
  · cases h
theorem Run.retC (T : Tab P) (j : Nat) {fn : Func} {t b m : Nat} {vs cs : List Value} {rt t' : TypeId} {todo : List Item} (hfn : P.funcs[C.f]? = some fn) (hres : fn.results = #[.cell t rt]) (hp : look env t = some (.pointer (some ⟨b, 0, none⟩)))
    (hL : L[j]? = some (b, blk cs t')) (ha : T.agg rt = some true) (hs : T.size rt = some m) (hv : (cs.drop 0).take m = vs) (hm : vs.length = m) (h : C.R (.agg vs.toArray) I []) : Run P n C (.code .ret :: todo) env L I := by
  intro bb a cs' W hb hk he hi
  have hr : (results fn a.tmps).run P W = .ok (.agg vs.toArray) W := by
    have h1 := run_cellN T hi hL ha hs hv hm
    have hp' : a.tmps[t]?.getD undef = .pointer (some ⟨b, 0, none⟩) := by rw [he.at_ _ _ hp]; rfl
    simp [results, hres, hp', asAddr, h1]
  exact ⟨.returned (.agg vs.toArray), W, _, ⟨_, I, [], rfl, h, hi.weakenL (List.nil_sublist _)⟩, Steps.one step_ret, hb, rfl, he.defers, hk, fn, by simpa [Frame.at, hb] using hfn, hr⟩
theorem Run.retCT (T : Tab P) (j : Nat) {fn : Func} {t u b m : Nat} {x : Value} {vs cs : List Value} {rt t' : TypeId} {todo : List Item} (hfn : P.funcs[C.f]? = some fn) (hres : fn.results = #[.cell t rt, .tmp u]) (hp : look env t = some (.pointer (some ⟨b, 0, none⟩)))
    (hL : L[j]? = some (b, blk cs t')) (ha : T.agg rt = some true) (hs : T.size rt = some m) (hv : (cs.drop 0).take m = vs) (hm : vs.length = m) (hu : look env u = some x) (h : C.R (.tuple #[.agg vs.toArray, x]) I []) : Run P n C (.code .ret :: todo) env L I := by
  intro bb a cs' W hb hk he hi
  have hr : (results fn a.tmps).run P W = .ok (.tuple #[.agg vs.toArray, x]) W := by
    have h1 := run_cellN T hi hL ha hs hv hm
    have hp' : a.tmps.getD t undef = .pointer (some ⟨b, 0, none⟩) := he.getD hp
    rw [results_cell_tmp hres, hp', he.getD hu]
    simp [asAddr, h1]
  exact ⟨.returned (.tuple #[.agg vs.toArray, x]), W, _, ⟨_, I, [], rfl, h, hi.weakenL (List.nil_sublist _)⟩, Steps.one step_ret, hb, rfl, he.defers, hk, fn, by simpa [Frame.at, hb] using hfn, hr⟩
theorem Val.int {kd : IntKind} {v : Value} {x : Int} (h : Val (.int kd) I v x) : v = .int kd x := by
  have h' : [v] = [.int kd x] := h
  simpa using h'
theorem Val.bool {v : Value} {x : Bool} (h : Val .bool I v x) : v = .bool x := by
  have h' : [v] = [.bool x] := h
  simpa using h'
theorem Val.str {v : Value} {x : List UInt8} (h : Val .str I v x) : v = V.str x := by
  have h' : [v] = [V.str x] := h
  simpa using h'
theorem Val.sl {e : Cd} {v : Value} {x : List e.ty} (h : Val (.sl e) I v x) : Sl e.T I v x := by
  obtain ⟨u, h1, h2⟩ : ∃ u, [v] = [u] ∧ Sl e.T I u x := h
  obtain rfl : v = u := by simpa using h1
  exact h2
theorem okU8 {x : Int} (h : (Cd.int .u8).ok x) : 0 ≤ x ∧ x ≤ 255 := by
  have h' : (Lit.int .u8 x).wf = true := h
  simp [Lit.wf, IntKind.min, IntKind.max, IntKind.signed, IntKind.bits] at h'; omega
def fillL (pl : List (Nat × Nat)) : List Value → List (Nat × Value) → Option (List Value)
  | cs, [] => some cs
  | cs, (i, v) :: r => match pl[i]? with
    | some (off, size) => bif Nat.beq v.cells.toList.length size && Nat.ble (off + size) cs.length then fillL pl (setAt cs off v.cells.toList) r else none
    | none => none
theorem foldl_setAt (off : Nat) : ∀ (l : List Value) (s : Nat) (cs : List Value), off + s + l.length ≤ cs.length →
    (l.zipIdx s).foldl (fun (cs : Array Value) (x : Value × Nat) => cs.setIfInBounds (off + x.2) x.1) cs.toArray = (cs.take (off + s) ++ l ++ cs.drop (off + s + l.length)).toArray := by
  intro l s cs h
  have h1 := Great.foldl_set off l s cs.toArray
  apply Array.ext_getElem?
  intro k
  rw [h1.2 k]
  simp only [List.size_toArray, List.getElem?_toArray, List.append_assoc]
  by_cases hk : off + s ≤ k ∧ k < off + s + l.length ∧ k < cs.length
  · rw [if_pos hk, List.getElem?_append_right (by simp; omega), List.getElem?_append_left (by simp; omega)]
    congr 1; simp; omega
  · rw [if_neg hk]
    by_cases h2 : k < off + s
    · rw [List.getElem?_append_left (by simp; omega), List.getElem?_take_of_lt h2]
    · rw [List.getElem?_append_right (by simp; omega)]
      have hmin : min (off + s) cs.length = off + s := by omega
      by_cases h3 : k < off + s + l.length
      · omega
      · rw [List.getElem?_append_right (by simp; omega), List.getElem?_drop]
        congr 1; simp; omega
theorem fillL_ok (pl : List (Nat × Nat)) : ∀ (vs : List (Nat × Value)) (cs r : List Value), fillL pl cs vs = some r → Instr.fill (fun i => pl[i]?) cs.toArray vs = some r.toArray
  | [], cs, r, h => by simp [fillL] at h; subst h; rfl
  | (i, v) :: vs, cs, r, h => by
    simp only [fillL] at h
    split at h
    · rename_i off size hp
      cases hc : (Nat.beq v.cells.toList.length size && Nat.ble (off + size) cs.length) <;> rw [hc] at h
      · cases h
      · simp only [cond_true] at h
        simp only [Bool.and_eq_true, Nat.beq_eq_true_eq, Nat.ble_eq, Array.length_toList] at hc
        obtain ⟨h1, h2⟩ := hc
        have h1' : v.cells.size = size := by first | exact h1 | exact Nat.eq_of_beq_eq_true h1
        simp only [Instr.fill, hp]
        rw [if_neg (by simp; omega)]
        have h3 := foldl_setAt off v.cells.toList 0 cs (by simp; omega)
        simp only [Nat.add_zero] at h3
        rw [← Array.foldl_toList, Array.toList_zipIdx, h3]
        exact fillL_ok pl vs _ r h
    · cases h
theorem Ops.buildL {t : TypeId} {xs : List (Nat × Operand)} {vs : List (Nat × Value)} {pl : List (Nat × Nat)} {z : Array Value} {cs : List Value}
    (hb : ∀ w ps cells, Instr.fill (pl[·]?) z ps = some cells → (Instr.build t ps.toArray).run P w = .ok (.agg cells) w) (hg : want env ops g = some true) (hd : d < n)
    (hx : parts env xs = some vs) (hf : fillL pl z.toList vs = some cs)
    (next : Ops P n C ops (i + 1) l k ((d, .agg cs.toArray) :: env) L I) : Ops P n C ops i (⟨some d, .build t xs.toArray, ty, ps, af, g⟩ :: l) k env L I :=
  Ops.build hb hg hd hx (by simpa using fillL_ok pl vs z.toList cs hf) next
theorem zip_enum : ∀ (ps : List (Nat × Value)) (i : Nat), ps.map Prod.fst = List.range' i ps.length → ((ps.map Prod.snd).zipIdx i).map (fun x => (x.2, x.1)) = ps
  | [], _, _ => rfl
  | (j, v) :: r, i, h => by
    simp only [List.map_cons, List.length_cons, List.range'_succ, List.cons.injEq] at h
    obtain ⟨rfl, h⟩ := h
    simp only [List.map_cons, List.zipIdx_cons]
    rw [zip_enum r _ h]
theorem Ops.lit {t e : TypeId} {len size : Nat} {xs : List (Nat × Operand)} {ps' : List (Nat × Value)} {z : Value} {cs : List Value} (T : Tab P)
    (hu : T.und t = some (.slice e)) (hz : T.zero e = some z) (hs : T.size e = some size) (hpos : 0 < size) (hg : want env ops g = some true) (hd : d < n)
    (hlen : len * size ≤ 16777216) (hx : parts env xs = some ps') (hn : ps'.length = len) (hi : ps'.map Prod.fst = List.range' 0 len) (hsz : ps'.all (fun p => p.2.cells.size == size) = true) (hcs : (ps'.map Prod.snd).flatMap (fun v => v.cells.toList) = cs)
    (next : ∀ b, Ops P n C ops (i + 1) l k ((d, .slice (some ⟨b, 0, none⟩) len len) :: env) ((b, blk cs e) :: L) I) : Ops P n C ops i (⟨some d, .buildSlice t len xs.toArray, ty, ps, af, g⟩ :: l) k env L I := by
  subst hn
  refine Ops.buildSlice (T.undOk hu) (T.zeroOk hz) (T.sizeOk hs) hg hd hlen hx ?_ next
  have h := Great.fill_whole hpos (ps'.map Prod.snd) ((Array.range (ps'.length * size)).map (z.cells[· % z.cells.size]!)) ?_ ?_
  · rw [zip_enum ps' 0 (by simpa using hi), hcs] at h; exact h
  · intro v hv
    obtain ⟨p, hp, rfl⟩ := List.mem_map.1 hv
    simpa using List.all_eq_true.1 hsz p hp
  · simp
theorem Sl.ofBlock {α : Type} {t : Ty α} {b cap len : Nat} {cs : List Value} {e : TypeId} {xs : List α} (hb : I b = some (blk cs e)) (hC : Cells t I cs xs) (hn : xs.length = len) (hc : len ≤ cap) : Sl t I (.slice (some ⟨b, 0, none⟩) len cap) xs := by
  subst hn
  refine ⟨_, _, rfl, hc, .inr ⟨b, 0, rfl, ?_⟩⟩
  obtain ⟨css, rfl, h2, h3⟩ := hC
  intro i x hx
  have hi : i < css.length := by rw [h2]; exact (List.getElem?_eq_some_iff.1 hx).1
  have hc := List.getElem?_eq_getElem hi
  refine ⟨css[i], h3 i x _ hx hc, At.of_block hb ?_⟩
  intro j u hu
  have := flatten_at css t.size (Cells.sizes h2 h3) i _ hc j u hu
  simpa using this
theorem Cells.one1 {α : Type} {t : Ty α} (f : α → Value) (h : ∀ x, t.rel I [f x] x) : ∀ xs : List α, Cells t I (xs.map f) xs
  | [] => Cells.nil t I
  | x :: r => by
    have := (Cells.one (t := t) (I := I) (h x)).append (Cells.one1 f h r)
    simpa using this
theorem Cells.strs (xs : List (List UInt8)) : Cells tStr I (xs.map str) xs := Cells.one1 str (fun _ => rfl) xs
theorem Cells.cons {α : Type} {t : Ty α} {c cs : List Value} {x : α} {xs : List α} (h : t.rel I c x) (k : Cells t I cs xs) : Cells t I (c ++ cs) (x :: xs) := (Cells.one h).append k
end
end Go.V
namespace Go.V
open Go.RowKit
set_option linter.unusedVariables false
set_option linter.unusedSimpArgs false
section
variable {P : Program} {n : Nat} {C : Cx} {k : List Item} {env : Env} {L : Own} {I : Imm} {ops : Array Oper} {i : Nat} {l : List Oper}
variable {ty : TypeId} {ps : String} {af : Array Edge} {g : Option (Nat × Bool)} {d : Nat}
theorem Ops.perm {L' : Own} (hp : L.Perm L') (h : Ops P n C ops i l k env L' I) : Ops P n C ops i l k env L I := fun hl => Run.perm hp (h hl)
theorem Ops.dropL {L' : Own} (hs : L'.Sublist L) (h : Ops P n C ops i l k env L' I) : Ops P n C ops i l k env L I := fun hl => Run.dropL hs (h hl)
theorem Ops.keepGr {α : Type} {t : Ty α} {e : TypeId} {v : Value} {xs : List α} {M N : Own} (hG : Gr t I e v xs M) (hL : L.Perm (M ++ N)) (h : ∀ J, Le I J → Sl t J v xs → Ops P n C ops i l k env N J) : Ops P n C ops i l k env L I :=
  fun hl => Run.keepGr hG hL fun J hle hs => h J hle hs hl
theorem At.block {b : Nat} {cs : List Value} {t : TypeId} (h : I b = some (blk cs t)) : At I b 0 cs := ⟨cs.toArray, t, (0, 0), h, fun j v hv => by simpa using hv⟩
theorem At.part {b off : Nat} {vs ws : List Value} {q : Nat} (h : At I b off vs) (hw : (vs.drop q).take ws.length = ws) : At I b (off + q) ws := by
  obtain ⟨cs, t, fr, h1, h2⟩ := h
  refine ⟨cs, t, fr, h1, fun j v hv => ?_⟩
  rw [← hw, List.getElem?_take] at hv
  split at hv
  · rw [List.getElem?_drop] at hv
    rw [Nat.add_assoc]; exact h2 _ _ hv
  · cases hv
variable {o : Oper}
theorem RAny.takeD {S : World → Prop} {listed : List Bool} {fuel : Nat} (j : Nat) {d : Nat} {op : Op} {v : Value} (listed' : List Bool) (hi : ops[j]? = some ⟨some d, op, ty, ps, af, g⟩) (hs : Region.noSelect ops = true) (hf : Region.free .any ops listed.toArray j = true)
    (hr : (Region.ready .any ops listed.toArray).contains j = true) (hl : listed.toArray.setIfInBounds j true = listed'.toArray) (hd : d < n) (hS : ∀ W, Inv C.w0 C.I0 C.L0 I L W → S W) (hy : Yld P n env ops S ⟨some d, op, ty, ps, af, g⟩ v)
    (h : RAny P n C ops S k fuel listed' ((d, v) :: env) L I) : RAny P n C ops S k (fuel + 1) listed env L I :=
  RAny.take j listed' hi hs hf hr hl (dOk hd) hS hy h
theorem RAny.oneD {S : World → Prop} {listed : List Bool} {fuel : Nat} (j : Nat) {d : Nat} {op : Op} (listed' : List Bool) (hi : ops[j]? = some ⟨some d, op, ty, ps, af, g⟩) (hr : Region.ready .any ops listed.toArray = [j]) (hl : listed.toArray.setIfInBounds j true = listed'.toArray) (hw : want env ops g = some true) (hd : d < n)
    (h : Eff P n C env L I ⟨some d, op, ty, ps, af, g⟩ fun v L1 I1 => (∀ W, Inv C.w0 C.I0 C.L0 I1 L1 W → S W) ∧ RAny P n C ops S k fuel listed' ((d, v) :: env) L1 I1) : RAny P n C ops S k (fuel + 1) listed env L I := by
  refine RAny.all [j] hr (by simp) fun j' hj => ?_
  obtain rfl : j' = j := by simpa using hj
  refine ⟨_, hi, hw, dOk hd, fun a W he hin => ?_⟩
  rcases h a W he hin with ⟨v, W1, L1, I1, h1, h2, h3, h4⟩ | ⟨f, args, h1, h2⟩
  · exact .inl ⟨v, W1, L1, I1, h1, h2, h3, listed', hl, h4⟩
  · exact .inr ⟨f, args, h1, h2.mono fun e W' ⟨v, L1, I1, q1, q2, q3, q4⟩ => ⟨v, L1, I1, q1, q2, q3, listed', hl, q4⟩⟩
theorem Yld.buildL {S : World → Prop} {t : TypeId} {xs : List (Nat × Operand)} {vs : List (Nat × Value)} {pl : List (Nat × Nat)} {z : Array Value} {cs : List Value}
    (hb : ∀ w ps cells, Instr.fill (pl[·]?) z ps = some cells → (Instr.build t ps.toArray).run P w = .ok (.agg cells) w) (hg : want env ops g = some true)
    (hx : parts env xs = some vs) (hf : fillL pl z.toList vs = some cs) : Yld P n env ops S ⟨some d, .build t xs.toArray, ty, ps, af, g⟩ (.agg cs.toArray) :=
  Yld.val hg (fun a W he _ => by
    have h := hb W vs cs.toArray (by simpa using fillL_ok pl vs z.toList cs hf)
    rw [← parts_spec he hx] at h
    simp only [execOp, List.map_toArray, Sem.run_bind]
    have hm : (List.map (fun (x : Nat × Operand) => match x with | (i, x) => (i, a.eval x)) xs) = xs.map (fun (p : Nat × Operand) => (p.1, a.eval p.2)) := rfl
    rw [hm, h]; rfl)
theorem Ops.appOne {α : Type} {t : Ty α} {y : α} {s x : Operand} {ts e : TypeId} {bytes b : Nat} {M N : Own} {v : Value} {xs : List α} {news : List Value} (hE : Elem P ts e t.size bytes) (hG : Gr t I e v xs M) (hr : t.rel I news y) (hg : want env ops g = some true) (hd : d < n)
    (hs : opnd env s = some v) (hx : opnd env x = some (.slice (some ⟨b, 0, none⟩) 1 1)) (hL : L = (b, blk news e) :: (N ++ M)) (h1 : one news = true)
    (hbytes : (2 * (xs.length + 1) + 512) * bytes ≤ 281474976710656) (h63 : xs.length + 1 ≤ 4611686018427387904)
    (next : ∀ v' M', Gr t I e v' (xs ++ [y]) M' → Ops P n C ops (i + 1) l k ((d, v') :: env) (N ++ M') I) :
    Ops P n C ops i (⟨some d, .call ⟨.builtin .append, #[s, x], #[ts, ts]⟩, ty, ps, af, g⟩ :: l) k env L I := by
  subst hL
  refine Ops.perm (List.Perm.cons _ List.perm_append_comm) ?_
  exact Ops.appendOne hE hG hr hg hd hs hx rfl h1 hbytes h63 fun v' M' h => Ops.perm List.perm_append_comm (next v' M' h)
theorem Run.keepG {α : Type} {t : Ty α} {e : TypeId} {v : Value} {xs : List α} {M N : Own} (hG : Gr t I e v xs M) (hL : L = N ++ M) (h : ∀ J, Le I J → Sl t J v xs → Run P n C k env N J) : Run P n C k env L I :=
  Run.keepGr hG (by subst hL; exact List.perm_append_comm) h
theorem Ops.keepG {α : Type} {t : Ty α} {e : TypeId} {v : Value} {xs : List α} {M N : Own} (hG : Gr t I e v xs M) (hL : L = N ++ M) (h : ∀ J, Le I J → Sl t J v xs → Ops P n C ops i l k env N J) : Ops P n C ops i l k env L I :=
  Ops.keepGr hG (by subst hL; exact List.perm_append_comm) h
theorem Ops.callN {f : FuncId} {xs : List Operand} {ats : Array TypeId} {vs : List Value} {R : Value → Imm → Own → Prop} (hs : Spec P f vs I [] R) (hg : want env ops g = some true) (hd : d < n) (hc : ∀ args w, (callFunc f args).run P w = .ok (.enter f args) w)
    (hx : opnds env xs = some vs) (next : ∀ v J M, Le I J → R v J M → Ops P n C ops (i + 1) l k ((d, v) :: env) (L ++ M) J) :
    Ops P n C ops i (⟨some d, .call ⟨.value (.func f), xs.toArray, ats⟩, ty, ps, af, g⟩ :: l) k env L I :=
  Ops.callM (N := L) hs (.refl _) hg hd hc hx fun v J M hle hR => Ops.perm List.perm_append_comm (next v J M hle hR)
theorem RAny.oneS {S : World → Prop} {listed : List Bool} {fuel : Nat} (j : Nat) {op : Op} (listed' : List Bool) (hi : ops[j]? = some ⟨none, op, ty, ps, af, g⟩) (hr : Region.ready .any ops listed.toArray = [j]) (hl : listed.toArray.setIfInBounds j true = listed'.toArray) (hw : want env ops g = some true)
    (h : Eff P n C env L I ⟨none, op, ty, ps, af, g⟩ fun v L1 I1 => (∀ W, Inv C.w0 C.I0 C.L0 I1 L1 W → S W) ∧ RAny P n C ops S k fuel listed' env L1 I1) : RAny P n C ops S k (fuel + 1) listed env L I := by
  refine RAny.all [j] hr (by simp) fun j' hj => ?_
  obtain rfl : j' = j := by simpa using hj
  refine ⟨_, hi, hw, dNo, fun a W he hin => ?_⟩
  rcases h a W he hin with ⟨v, W1, L1, I1, h1, h2, h3, h4⟩ | ⟨f, args, h1, h2⟩
  · exact .inl ⟨v, W1, L1, I1, h1, h2, h3, listed', hl, h4⟩
  · exact .inr ⟨f, args, h1, h2.mono fun e W' ⟨v, L1, I1, q1, q2, q3, q4⟩ => ⟨v, L1, I1, q1, q2, q3, listed', hl, q4⟩⟩
theorem Yld.indexSl {S : World → Prop} {α : Type} {t : Ty α} {x ix : Operand} {kd : IntKind} {j : Int} {ts e : TypeId} {A : Option Addr} {len c b off : Nat} (T : Tab P) (hg : want env ops g = some true) (hx : opnd env x = some (.slice A len c)) (hA : A = some ⟨b, off, none⟩) (hi : opnd env ix = some (.int kd j))
    (hu : T.und ts = some (.slice e)) (hz : T.size e = some t.size) (h0 : 0 ≤ j) (h1 : j < len) : Yld P n env ops S ⟨some d, .indexAddr ts x ix, ty, ps, af, g⟩ (.pointer (some ⟨b, off + j.toNat * t.size, none⟩)) :=
  Yld.val hg (fun a W he _ => by
    subst hA
    simp [execOp, Instr.indexAt, eval_opnd he hx, eval_opnd he hi, asIntOf, T.undOk hu, T.sizeOk hz, h0, h1, add_off])
theorem Pure.of {f : FuncId} {args : List Value} {R : Value → Imm → Prop} (h : Spec P f args I [] fun v J M => M = [] ∧ R v J) : Pure P f args I R := h
end
end Go.V
namespace Go.V
open Go.RowKit
set_option linter.unusedVariables false
set_option linter.unusedSimpArgs false
def tU8 : Ty UInt8 := ⟨1, fun _ cs x => cs = [.int .u8 (x.toNat : Int)], fun h => by subst h; rfl, fun h _ => h⟩
section
variable {P : Program} {n : Nat} {C : Cx} {k : List Item} {env : Env} {L : Own} {I : Imm} {ops : Array Oper} {i : Nat} {l : List Oper}
variable {ty : TypeId} {ps : String} {af : Array Edge} {g : Option (Nat × Bool)} {d : Nat}
theorem Cells.bytes (xs : List UInt8) : Cells tU8 I (xs.map fun b => Value.int .u8 (b.toNat : Int)) xs := Cells.one1 (fun b : UInt8 => Value.int .u8 (b.toNat : Int)) (fun _ => rfl) xs
theorem Cells.flat_len {α : Type} {t : Ty α} {cs : List Value} {xs : List α} (h : Cells t I cs xs) : cs.length = xs.length * t.size := by
  obtain ⟨css, rfl, h2, h3⟩ := h
  have hs := Cells.sizes h2 h3
  rw [← h2]
  clear h2 h3
  induction css with
  | nil => simp
  | cons c r ih => simp only [List.flatten_cons, List.length_append, List.length_cons, Nat.add_mul, Nat.one_mul]; rw [ih (fun c hc => hs c (List.mem_cons_of_mem _ hc)), hs c List.mem_cons_self]; omega
theorem RowAt.cells {α : Type} {t : Ty α} {b : Nat} : ∀ {ys : List α} {off : Nat}, RowAt t I b off ys → ∃ cs, Cells t I cs ys ∧ (ys = [] ∨ At I b off cs)
  | [], off, _ => ⟨[], Cells.nil t I, .inl rfl⟩
  | y :: r, off, h => by
    obtain ⟨c0, hr0, hA0⟩ := h 0 y rfl
    have hrest : RowAt t I b (off + t.size) r := by
      intro i x hx
      obtain ⟨cs, h1, h2⟩ := h (i + 1) x (by simpa using hx)
      exact ⟨cs, h1, by rw [Nat.add_mul, Nat.one_mul] at h2; rw [Nat.add_assoc, Nat.add_comm t.size]; exact h2⟩
    obtain ⟨cs, hC, hA⟩ := RowAt.cells hrest
    refine ⟨c0 ++ cs, Cells.cons hr0 hC, .inr ?_⟩
    have hl0 := t.len hr0
    obtain ⟨cc, tt, fr, hb, hv⟩ := hA0
    refine ⟨cc, tt, fr, hb, fun j v hj => ?_⟩
    by_cases hlt : j < c0.length
    · rw [List.getElem?_append_left hlt] at hj
      simpa using hv j v hj
    · rw [List.getElem?_append_right (by omega)] at hj
      rcases hA with rfl | ⟨cc', tt', fr', hb', hv'⟩
      · obtain ⟨css, rfl, h2, _⟩ := hC
        have : css = [] := List.eq_nil_of_length_eq_zero (by simpa using h2)
        subst this
        simp at hj
      · rw [hb] at hb'; cases hb'
        have := hv' _ v hj
        rw [show off + t.size + (j - c0.length) = off + j by omega] at this
        exact this
variable {K : Value → Own → Imm → Prop}
end
end Go.V
namespace Go.V
open Go.RowKit
set_option linter.unusedVariables false
set_option linter.unusedSimpArgs false
section
variable {P : Program} {n : Nat} {C : Cx} {k : List Item} {env : Env} {L : Own} {I : Imm} {ops : Array Oper} {i : Nat} {l : List Oper}
variable {ty : TypeId} {ps : String} {af : Array Edge} {g : Option (Nat × Bool)} {d : Nat}
theorem Run.merge {s : Nat} {x y : Code} {b : Bool} (Φ : Env → Own → Imm → Prop) (hl : look env s = some (.bool b))
    (ht : b = true → ∀ k', (∀ env' L' I', Φ env' L' I' → Run P n C k' env' L' I') → Run P n C (.code x :: k') env L I)
    (hf : b = false → ∀ k', (∀ env' L' I', Φ env' L' I' → Run P n C k' env' L' I') → Run P n C (.code y :: k') env L I)
    (next : ∀ env' L' I', Φ env' L' I' → Run P n C k env' L' I') : Run P n C (.code (.cond (.tmp s) x y) :: k) env L I :=
  Run.cond rfl hl (fun h => ht h k next) (fun h => hf h k next)
theorem Run.piece {x : Code} (Φ : Env → Own → Imm → Prop) (h : ∀ k', (∀ env' L' I', Φ env' L' I' → Run P n C k' env' L' I') → Run P n C (.code x :: k') env L I)
    (next : ∀ env' L' I', Φ env' L' I' → Run P n C k env' L' I') : Run P n C (.code x :: k) env L I := h k next
theorem Ops.callP {f : FuncId} {xs : List Operand} {ats : Array TypeId} {vs : List Value} {M N : Own} {R : Value → Imm → Own → Prop} (hs : Spec P f vs I M R) (hL : L.Perm (N ++ M)) (hg : want env ops g = some true) (hd : d < n) (hc : ∀ args w, (callFunc f args).run P w = .ok (.enter f args) w)
    (hx : opnds env xs = some vs) (next : ∀ v J M', Le I J → R v J M' → Ops P n C ops (i + 1) l k ((d, v) :: env) (N ++ M') J) :
    Ops P n C ops i (⟨some d, .call ⟨.value (.func f), xs.toArray, ats⟩, ty, ps, af, g⟩ :: l) k env L I :=
  Ops.callM (N := N) hs (hL.trans List.perm_append_comm) hg hd hc hx fun v J M hle hR => Ops.perm List.perm_append_comm (next v J M hle hR)
def wantU (env : Env) (ops : Array Oper) : Option (Nat × Bool) → Bool
  | some (j, _) => match (ops[j]?).bind (·.dst) with
    | some d => match look env d with
      | some (.tuple vs) => vs.toList.isEmpty
      | _ => false
    | none => false
  | none => false
theorem Ops.offW {o : Oper} (hw : ∀ a, EnvOk n env a → Region.wanted o (yielded ops a.tmps) = false) (hd : ∀ t, o.dst = some t → t < n)
    (next : Ops P n C ops (i + 1) l k (V.put env o.dst undef) L I) : Ops P n C ops i (o :: l) k env L I := by
  intro hl
  obtain ⟨ho, hl'⟩ := Ops.head hl
  intro b a cs W hb hk he hi
  have hw' := hw a he
  have hs := step_op_skip (P := P) (b := b) (a := a) (k := k) (cs := cs) (w := W) (ops := ops) (i := i) (rest := List.range' (i + 1) l.length) (by simp [ho, hw'])
  simp only [ho, Option.bind_some] at hs
  obtain ⟨e, W', fr, h1, h2, h3⟩ := next hl' b _ cs W hb hk (he.put hd) hi
  refine ⟨e, W', fr, h1, Comes.of_steps (.one ?_) h2, h3⟩
  simpa [List.range'_succ] using hs
theorem wantU_spec {o : Oper} {a : Act} (he : EnvOk n env a) (h : wantU env ops o.guard = true) : Region.wanted o (yielded ops a.tmps) = false := by
  unfold wantU at h
  split at h
  · rename_i j b hg
    split at h
    · rename_i d hd
      split at h
      · rename_i vs hv
        simp only [Region.wanted, hg, yielded, hd, Option.bind_some, he.at_ _ _ hv]
        rfl
      · cases h
    · cases h
  · cases h
theorem Ops.notU {op : Op} (hg : wantU env ops g = true) (hd : d < n) (next : Ops P n C ops (i + 1) l k ((d, undef) :: env) L I) : Ops P n C ops i (⟨some d, op, ty, ps, af, g⟩ :: l) k env L I :=
  Ops.offW (fun a he => wantU_spec he hg) (dOk hd) next
theorem Sl.isSl {α : Type} {t : Ty α} {v : Value} {xs : List α} (h : Sl t I v xs) : ∃ A c, v = .slice A xs.length c := let ⟨A, c, h, _⟩ := h; ⟨A, c, h⟩
theorem Gr.isSl {α : Type} {t : Ty α} {e : TypeId} {v : Value} {xs : List α} {M : Own} (h : Gr t I e v xs M) : ∃ A c, v = .slice A xs.length c := by
  rcases h.sl with ⟨h1, h2⟩ | ⟨b, c, h⟩
  · exact ⟨none, 0, by rw [h1, h2]; rfl⟩
  · exact ⟨_, _, h⟩
end
end Go.V
namespace Go.V
open Go.RowKit Go.MapKept
set_option linter.unusedVariables false
set_option linter.unusedSimpArgs false
abbrev KV := List (List UInt8 × Value)
def Mp (o : Obj) (l : KV) : Prop := ∃ es clock, o = .map es clock ∧ es.toList.map (fun e => (e.key, e.val)) = l.map (fun p => (str p.1, p.2))
section
variable {P : Program} {n : Nat} {C : Cx} {k : List Item} {env : Env} {L : Own} {I : Imm} {ops : Array Oper} {i : Nat} {l : List Oper}
variable {ty : TypeId} {ps : String} {af : Array Edge} {g : Option (Nat × Bool)} {d : Nat}
theorem Mp.new : Mp (.map #[] 0) [] := ⟨#[], 0, rfl, rfl⟩
end
end Go.V
namespace Go.V
open Go.RowKit
set_option linter.unusedVariables false
set_option linter.unusedSimpArgs false
section
variable {P : Program} {n : Nat} {C : Cx} {k : List Item} {env : Env} {L : Own} {I : Imm} {ops : Array Oper} {i : Nat} {l : List Oper}
variable {ty : TypeId} {ps : String} {af : Array Edge} {g : Option (Nat × Bool)} {d : Nat}
theorem RAny.perm {S : World → Prop} {listed : List Bool} {fuel : Nat} {L' : Own} (hp : L.Perm L') (h : RAny P n C ops S k fuel listed env L' I) : RAny P n C ops S k fuel listed env L I :=
  fun a W he hi => h a W he (hi.perm hp)
theorem RAny.dropL {S : World → Prop} {listed : List Bool} {fuel : Nat} {L' : Own} (hs : L'.Sublist L) (h : RAny P n C ops S k fuel listed env L' I) : RAny P n C ops S k fuel listed env L I :=
  fun a W he hi => h a W he (hi.weakenL hs)
theorem RAny.freeze {S : World → Prop} {listed : List Bool} {fuel : Nat} {b : Nat} {o : Obj} (h : ∀ J, Le I J → J b = some o → RAny P n C ops S k fuel listed env L J) : RAny P n C ops S k fuel listed env ((b, o) :: L) I :=
  fun a W he hi => h _ hi.le_iset (by simp [iset]) a W he hi.freeze
variable {K : Value → Own → Imm → Prop}
theorem Eff.callM {f : FuncId} {xs : List Operand} {ats : Array TypeId} {vs : List Value} {M N : Own} {R : Value → Imm → Own → Prop} (hs : Spec P f vs I M R) (hL : L.Perm (M ++ N)) (hc : ∀ args w, (callFunc f args).run P w = .ok (.enter f args) w)
    (hx : opnds env xs = some vs) (next : ∀ v J M', Le I J → R v J M' → K v (M' ++ N) J) : Eff P n C env L I ⟨some d, .call ⟨.value (.func f), xs.toArray, ats⟩, ty, ps, af, g⟩ K :=
  Eff.callW (fun a W he => run_callF hc he hx) hL hs next
theorem RAny.takeU {S : World → Prop} {listed : List Bool} {fuel : Nat} (j : Nat) {d : Nat} {op : Op} (listed' : List Bool) (hi : ops[j]? = some ⟨some d, op, ty, ps, af, g⟩) (hs : Region.noSelect ops = true) (hf : Region.free .any ops listed.toArray j = true)
    (hr : (Region.ready .any ops listed.toArray).contains j = true) (hl : listed.toArray.setIfInBounds j true = listed'.toArray) (hd : d < n) (hS : ∀ W, Inv C.w0 C.I0 C.L0 I L W → S W) (hy : wantU env ops g = true)
    (h : RAny P n C ops S k fuel listed' ((d, undef) :: env) L I) : RAny P n C ops S k (fuel + 1) listed env L I := by
  intro a W he hinv
  exact wpAnyH_take hi hs hf hr (fun c a w h => h.elim) (.inr ⟨wantU_spec he hy, rfl⟩) (hS W hinv) (by rw [hl]; exact h _ W (he.put (dOk hd)) hinv)
theorem Yld.eqlB {S : World → Prop} {t t' : TypeId} {x y : Operand} {p q : Bool} (T : Tab P) (hg : want env ops g = some true) (hu : T.und t = some .bool) (hx : opnd env x = some (.bool p)) (hy : opnd env y = some (.bool q)) : Yld P n env ops S ⟨some d, .binOp .eql t x y t', ty, ps, af, g⟩ (.bool (p == q)) :=
  Yld.val hg (fun a W he hi => by
    have h1 := run_eqGuard_bool (P := P) .eql t x y p (.bool q) W
    have h2 : (Op.equal t (.bool p) (.bool q)).run P W = .ok (p == q) W := run_equalIn_bool W 9999 t p q (und_of_run (W := W) (T.undOk hu W))
    simp only [execOp, eval_opnd he hx, eval_opnd he hy, Sem.run_bind, h1, binOp, h2, Result.andThen_ok]; rfl)
def bl (n x : Nat) : List Bool := (List.range n).map fun i => x.testBit i
def tkOk (ops : Array Oper) (listed : List Bool) (j : Nat) (listed' : List Bool) : Bool :=
  Region.noSelect ops && Region.free .any ops listed.toArray j && (Region.ready .any ops listed.toArray).contains j && (listed.set j true == listed')
def oneOk (ops : Array Oper) (listed : List Bool) (j : Nat) (listed' : List Bool) : Bool :=
  (Region.ready .any ops listed.toArray == [j]) && (listed.set j true == listed')
theorem mp {M X L : Own} (h : L = M ++ X) : ∀ x, x ∈ M → x ∈ L := fun x hx => h ▸ List.mem_append_left _ hx
theorem mq {M X L : Own} {a : Nat × Obj} (h : L = a :: (M ++ X)) : ∀ x, x ∈ M → x ∈ L := fun x hx => h ▸ List.mem_cons_of_mem _ (List.mem_append_left _ hx)
theorem tk_spec {listed listed' : List Bool} {j : Nat} (h : tkOk ops listed j listed' = true) : Region.noSelect ops = true ∧ Region.free .any ops listed.toArray j = true ∧ (Region.ready .any ops listed.toArray).contains j = true ∧ listed.toArray.setIfInBounds j true = listed'.toArray := by
  simp only [tkOk, Bool.and_eq_true, beq_iff_eq] at h
  exact ⟨h.1.1.1, h.1.1.2, h.1.2, by rw [← h.2]; simp⟩
theorem one_spec' {listed listed' : List Bool} {j : Nat} (h : oneOk ops listed j listed' = true) : Region.ready .any ops listed.toArray = [j] ∧ listed.toArray.setIfInBounds j true = listed'.toArray := by
  simp only [oneOk, Bool.and_eq_true, beq_iff_eq] at h
  exact ⟨h.1, by rw [← h.2]; simp⟩
theorem RAny.tk {S : World → Prop} {listed : List Bool} {fuel : Nat} (j : Nat) {d : Nat} {op : Op} {v : Value} (listed' : List Bool) (hi : ops[j]? = some ⟨some d, op, ty, ps, af, g⟩) (ok : tkOk ops listed j listed' = true) (hd : d < n) (hS : ∀ W, Inv C.w0 C.I0 C.L0 I L W → S W) (hy : Yld P n env ops S ⟨some d, op, ty, ps, af, g⟩ v)
    (h : RAny P n C ops S k fuel listed' ((d, v) :: env) L I) : RAny P n C ops S k (fuel + 1) listed env L I :=
  RAny.takeD j listed' hi (tk_spec ok).1 (tk_spec ok).2.1 (tk_spec ok).2.2.1 (tk_spec ok).2.2.2 hd hS hy h
theorem RAny.tu {S : World → Prop} {listed : List Bool} {fuel : Nat} (j : Nat) {d : Nat} {op : Op} (listed' : List Bool) (hi : ops[j]? = some ⟨some d, op, ty, ps, af, g⟩) (ok : tkOk ops listed j listed' = true) (hd : d < n) (hS : ∀ W, Inv C.w0 C.I0 C.L0 I L W → S W) (hy : wantU env ops g = true)
    (h : RAny P n C ops S k fuel listed' ((d, undef) :: env) L I) : RAny P n C ops S k (fuel + 1) listed env L I :=
  RAny.takeU j listed' hi (tk_spec ok).1 (tk_spec ok).2.1 (tk_spec ok).2.2.1 (tk_spec ok).2.2.2 hd hS hy h
theorem RAny.on {S : World → Prop} {listed : List Bool} {fuel : Nat} (j : Nat) {d : Nat} {op : Op} (listed' : List Bool) (hi : ops[j]? = some ⟨some d, op, ty, ps, af, g⟩) (ok : oneOk ops listed j listed' = true) (hw : want env ops g = some true) (hd : d < n)
    (h : Eff P n C env L I ⟨some d, op, ty, ps, af, g⟩ fun v L1 I1 => (∀ W, Inv C.w0 C.I0 C.L0 I1 L1 W → S W) ∧ RAny P n C ops S k fuel listed' ((d, v) :: env) L1 I1) : RAny P n C ops S k (fuel + 1) listed env L I :=
  RAny.oneD j listed' hi (one_spec' ok).1 (one_spec' ok).2 hw hd h
theorem RAny.os {S : World → Prop} {listed : List Bool} {fuel : Nat} (j : Nat) {op : Op} (listed' : List Bool) (hi : ops[j]? = some ⟨none, op, ty, ps, af, g⟩) (ok : oneOk ops listed j listed' = true) (hw : want env ops g = some true)
    (h : Eff P n C env L I ⟨none, op, ty, ps, af, g⟩ fun v L1 I1 => (∀ W, Inv C.w0 C.I0 C.L0 I1 L1 W → S W) ∧ RAny P n C ops S k fuel listed' env L1 I1) : RAny P n C ops S k (fuel + 1) listed env L I :=
  RAny.oneS j listed' hi (one_spec' ok).1 (one_spec' ok).2 hw h
open Classical in
theorem perm_of_count {α : Type} {A B : List α} (h : ∀ x, A.count x = B.count x) : A.Perm B := List.perm_iff_count.2 h
end
end Go.V
namespace Go.V
open Go.RowKit Go.MapKept
set_option linter.unusedVariables false
set_option linter.unusedSimpArgs false
section
variable {κ : Type} [DecidableEq κ]
variable (enc : κ → Value)
def Mg (o : Obj) (l : List (κ × Value)) : Prop := ∃ es clock, o = .map es clock ∧ es.toList.map (fun e => (e.key, e.val)) = l.map (fun p => (enc p.1, p.2))
end
section
variable {P : Program} {n : Nat} {C : Cx} {k : List Item} {env : Env} {L : Own} {I : Imm} {ops : Array Oper} {i : Nat} {l : List Oper}
variable {ty : TypeId} {ps : String} {af : Array Edge} {g : Option (Nat × Bool)} {d : Nat}
theorem Mg.new {κ : Type} {enc : κ → Value} : Mg enc (.map #[] 0) [] := ⟨#[], 0, rfl, rfl⟩
variable {κ : Type} [DecidableEq κ] {enc : κ → Value}
end
end Go.V
namespace Go.V
open Go.RowKit
set_option linter.unusedVariables false
set_option linter.unusedSimpArgs false
section
variable {P : Program} {n : Nat} {C : Cx} {k : List Item} {env : Env} {L : Own} {I : Imm} {ops : Array Oper}
def twoOk (ops : Array Oper) (listed : List Bool) (i j : Nat) (l1 l2 : List Bool) : Bool :=
  (Region.ready .any ops listed.toArray == [i, j]) && (listed.set i true == l1) && (listed.set j true == l2)
theorem RAny.two {S : World → Prop} {listed : List Bool} {fuel : Nat} (i j : Nat) {d1 d2 : Nat} {op1 op2 : Op} {ty1 ty2 : TypeId} {ps1 ps2 : String} {af1 af2 : Array Edge} {g1 g2 : Option (Nat × Bool)} (l1 l2 : List Bool)
    (h1 : ops[i]? = some ⟨some d1, op1, ty1, ps1, af1, g1⟩) (h2 : ops[j]? = some ⟨some d2, op2, ty2, ps2, af2, g2⟩) (ok : twoOk ops listed i j l1 l2 = true) (w1 : want env ops g1 = some true) (w2 : want env ops g2 = some true) (hd1 : d1 < n) (hd2 : d2 < n)
    (e1 : Eff P n C env L I ⟨some d1, op1, ty1, ps1, af1, g1⟩ fun v L1 I1 => (∀ W, Inv C.w0 C.I0 C.L0 I1 L1 W → S W) ∧ RAny P n C ops S k fuel l1 ((d1, v) :: env) L1 I1)
    (e2 : Eff P n C env L I ⟨some d2, op2, ty2, ps2, af2, g2⟩ fun v L1 I1 => (∀ W, Inv C.w0 C.I0 C.L0 I1 L1 W → S W) ∧ RAny P n C ops S k fuel l2 ((d2, v) :: env) L1 I1) : RAny P n C ops S k (fuel + 1) listed env L I := by
  simp only [twoOk, Bool.and_eq_true, beq_iff_eq] at ok
  obtain ⟨⟨hr, hs1⟩, hs2⟩ := ok
  refine RAny.all [i, j] hr (by simp) fun q hq => ?_
  have hq' : q = i ∨ q = j := by simpa using hq
  rcases hq' with rfl | rfl
  · refine ⟨_, h1, w1, dOk hd1, fun a W he hin => ?_⟩
    rcases e1 a W he hin with ⟨v, W1, L1, I1, q1, q2, q3, q4⟩ | ⟨f, args, q1, q2⟩
    · exact .inl ⟨v, W1, L1, I1, q1, q2, q3, l1, by rw [← hs1]; simp, q4⟩
    · exact .inr ⟨f, args, q1, q2.mono fun e W' ⟨v, L1, I1, p1, p2, p3, p4⟩ => ⟨v, L1, I1, p1, p2, p3, l1, by rw [← hs1]; simp, p4⟩⟩
  · refine ⟨_, h2, w2, dOk hd2, fun a W he hin => ?_⟩
    rcases e2 a W he hin with ⟨v, W1, L1, I1, q1, q2, q3, q4⟩ | ⟨f, args, q1, q2⟩
    · exact .inl ⟨v, W1, L1, I1, q1, q2, q3, l2, by rw [← hs2]; simp, q4⟩
    · exact .inr ⟨f, args, q1, q2.mono fun e W' ⟨v, L1, I1, p1, p2, p3, p4⟩ => ⟨v, L1, I1, p1, p2, p3, l2, by rw [← hs2]; simp, p4⟩⟩
end
end Go.V
namespace Go.V
open Go.RowKit
set_option linter.unusedVariables false
set_option linter.unusedSimpArgs false
theorem size_bytes (s : List UInt8) : (⟨s.toArray⟩ : ByteArray).size = s.length := str_size s
theorem run_stringToBytes {P : Program} {e : TypeId} {s : List UInt8} (W : World) : ∃ cap cs, s.length ≤ cap ∧ cs.toList.take s.length = s.map (fun b => Value.int .u8 (b.toNat : Int)) ∧
    (Conv.stringToBytes e ⟨s.toArray⟩).run P W = .ok (.slice (some ⟨W.heap.size, 0, none⟩) s.length cap) ((W.drew.alloc (.cells cs e (0, 0))).freeze ⟨W.heap.size, cs.size, none⟩ 1) := by
  refine ⟨grownCap W s.length 0 e, (s.map fun b => Value.int .u8 (b.toNat : Int)).toArray ++ Array.replicate (grownCap W s.length 0 e - s.length) (.int .u8 0), grownCap_ge _ _ _ _, ?_, ?_⟩
  · simp
  · have hsh : ∀ cs : Array Value, (W.drew.alloc (.cells cs e (0, 0))).shape? W.heap.size = some (e, cs.size) := fun cs => by
      show (W.drew.alloc _).shape? W.drew.heap.size = _
      simp only [World.shape?, heap_alloc_new]
    simp [Conv.stringToBytes, markStringish, newRow, grownCap, size_bytes, Question.forced, hsh]
section
variable {P : Program} {n : Nat} {C : Cx} {k : List Item} {env : Env} {L : Own} {I : Imm} {ops : Array Oper} {i : Nat} {l : List Oper}
variable {ty : TypeId} {ps : String} {af : Array Edge} {g : Option (Nat × Bool)} {d : Nat}
theorem Inv.bytes {w0 : World} {I0 : Imm} {L0 : List Nat} {W : World} {e : TypeId} {cs : Array Value} (hi : Inv w0 I0 L0 I L W) :
    Inv w0 I0 L0 I ((W.heap.size, .cells cs e (cs.size, cs.size + 1)) :: L) ((W.drew.alloc (.cells cs e (0, 0))).freeze ⟨W.heap.size, cs.size, none⟩ 1) := by
  have h1 := hi.drew.alloc (.cells cs e (0, 0))
  refine h1.upd ?_ ?_ ?_ ?_ ?_ ?_
  · simp [World.freeze]
  · simp [World.freeze]
  · simp [World.freeze]
  · simp [World.freeze]
  · intro c _ hcb
    have : W.heap.size ≠ c := fun e => hcb e.symm
    simp [World.freeze, Array.getElem?_modify, this]
  · have h2 : (W.drew.alloc (.cells cs e (0, 0))).heap[W.heap.size]? = some (.cells cs e (0, 0)) := heap_alloc_new W.drew _
    unfold World.freeze
    rw [if_neg (by decide)]
    show (Array.modify _ W.heap.size _)[W.heap.size]? = _
    rw [Array.getElem?_modify, if_pos rfl, h2]
    simp
theorem Ops.convBytes {x : Operand} {src dst e : TypeId} {s : List UInt8} (T : Tab P) (hg : want env ops g = some true) (hd : d < n) (hs : T.und src = some .string) (ht : T.und dst = some (.slice e)) (he8 : T.und e = some (.int .u8)) (hx : opnd env x = some (str s))
    (next : ∀ v J, Le I J → Sl tU8 J v s → Ops P n C ops (i + 1) l k ((d, v) :: env) L J) : Ops P n C ops i (⟨some d, .convert src dst x, ty, ps, af, g⟩ :: l) k env L I :=
  Ops.valW hg (dOk hd) fun a W he hi => by
    obtain ⟨cap, cs, h1, h2, hr⟩ := run_stringToBytes (P := P) (e := e) (s := s) W
    have hi2 := hi.bytes (e := e) (cs := cs)
    have hle := hi2.le_iset
    refine ⟨.slice (some ⟨W.heap.size, 0, none⟩) s.length cap, _, L, _, .inl ?_, hi2.freeze, next _ _ hle ?_⟩
    · simp only [execOp, eval_opnd he hx, convert, Sem.run_bind, T.undOk hs, T.undOk ht, T.undOk he8, str, Result.andThen_ok, hr]; rfl
    · refine ⟨_, _, rfl, h1, .inr ⟨W.heap.size, 0, rfl, ?_⟩⟩
      intro j y hy
      have hj : j < s.length := (List.getElem?_eq_some_iff.1 hy).1
      refine ⟨[.int .u8 (y.toNat : Int)], rfl, cs, e, (cs.size, cs.size + 1), by simp [iset], ?_⟩
      intro q u hu
      have hq : q = 0 := by
        cases q with
        | zero => rfl
        | succ q => simp at hu
      subst hq
      simp at hu; subst hu
      have h3 : (cs.toList.take s.length)[j]? = some (.int .u8 (y.toNat : Int)) := by rw [h2]; simp [hy]
      rw [List.getElem?_take_of_lt hj] at h3
      simpa [tU8] using h3
end
end Go.V
namespace Go.V
open Go.RowKit
set_option linter.unusedVariables false
set_option linter.unusedSimpArgs false
def ix (c : UInt8) : List UInt8 → Option Nat
  | [] => none
  | x :: r => if x = c then some 0 else (ix c r).map (· + 1)
def ixI (c : UInt8) (s : List UInt8) : Int := match ix c s with | some k => k | none => -1
theorem ix_drop (c : UInt8) (s : List UInt8) (i : Nat) (h : i < s.length) : ix c (s.drop i) = if s.getD i 0 = c then some 0 else (ix c (s.drop (i + 1))).map (· + 1) := by
  have h1 : s.drop i = s[i] :: s.drop (i + 1) := List.drop_eq_getElem_cons h
  rw [h1, ix]
  simp [List.getD_eq_getElem?_getD, h]
theorem cut1 (s : List UInt8) (i : Nat) (h : i < s.length) : (s.take (i + 1)).drop i = [s.getD i 0] := by
  rw [List.drop_take]
  have h1 : s.drop i = s[i] :: s.drop (i + 1) := List.drop_eq_getElem_cons h
  have h2 : i + 1 - i = 1 := by omega
  rw [h2, h1, List.take_succ_cons, List.take_zero]; simp [List.getD_eq_getElem?_getD, h]
theorem ix_lt {c : UInt8} : ∀ {s : List UInt8} {k : Nat}, ix c s = some k → k < s.length
  | [], k, h => by simp [ix] at h
  | x :: r, k, h => by
    simp only [ix] at h
    split at h
    · simp at h; subst h; simp
    · cases hr : ix c r with
      | none => rw [hr] at h; simp at h
      | some j =>
        rw [hr] at h; simp at h
        have := ix_lt hr
        simp; omega
def spl (c : UInt8) : List UInt8 → List (List UInt8)
  | [] => [[]]
  | x :: r => if x = c then [] :: spl c r else match spl c r with
    | [] => [[x]]
    | y :: ys => (x :: y) :: ys
theorem spl_none {c : UInt8} : ∀ {s : List UInt8}, ix c s = none → spl c s = [s]
  | [], _ => rfl
  | x :: r, h => by
    simp only [ix] at h
    split at h
    · simp at h
    · rename_i hx
      have := spl_none (s := r) (by simpa using h)
      simp [spl, hx, this]
theorem spl_some {c : UInt8} : ∀ {s : List UInt8} {k : Nat}, ix c s = some k → spl c s = s.take k :: spl c (s.drop (k + 1))
  | [], k, h => by simp [ix] at h
  | x :: r, k, h => by
    simp only [ix] at h
    split at h
    · rename_i hx
      simp at h; subst h; simp [spl, hx]
    · rename_i hx
      cases hr : ix c r with
      | none => rw [hr] at h; simp at h
      | some j =>
        rw [hr] at h; simp at h; subst h
        simp [spl, hx, spl_some hr]
theorem spl_pos (c : UInt8) : ∀ s : List UInt8, spl c s ≠ []
  | [] => by simp [spl]
  | x :: r => by
    simp only [spl]
    split
    · simp
    · split <;> simp
theorem spl_len (c : UInt8) : ∀ s : List UInt8, (spl c s).length ≤ s.length + 1
  | [] => by simp [spl]
  | x :: r => by
    have := spl_len c r
    simp only [spl]
    split
    · simp; omega
    · split
      · simp
      · rename_i h; rw [h] at this; simp at this ⊢; omega
theorem ixI_neg {c : UInt8} {s : List UInt8} : ixI c s < 0 ↔ ix c s = none := by
  unfold ixI
  cases ix c s with
  | none => simp
  | some k => simp
theorem ixI_some {c : UInt8} {s : List UInt8} (h : ¬ ixI c s < 0) : ∃ k, ix c s = some k ∧ ixI c s = k := by
  unfold ixI at h ⊢
  cases hk : ix c s with
  | none => rw [hk] at h; simp at h
  | some k => exact ⟨k, rfl, rfl⟩
theorem u8_inj {a b : UInt8} : ((a.toNat : Int) = (b.toNat : Int)) ↔ a = b := by
  constructor
  · intro h; exact UInt8.toNat_inj.1 (by omega)
  · intro h; rw [h]
end Go.V
namespace Go.V
set_option linter.unusedVariables false
set_option linter.unusedSimpArgs false
abbrev Tx := List UInt8
def allIn (cs s : Tx) : Bool := s.all fun b => cs.contains b
def hasB (c : UInt8) (s : Tx) : Bool := s.contains c
def smallT : Tx := [97, 98, 99, 100, 101, 102, 103, 104, 105, 106, 107, 108, 109, 110, 111, 112, 113, 114, 115, 116, 117, 118, 119, 120, 121, 122, 48, 49, 50, 51, 52, 53, 54, 55, 56, 57, 95, 45, 46]
def capT : Tx := [65, 66, 67, 68, 69, 70, 71, 72, 73, 74, 75, 76, 77, 78, 79, 80, 81, 82, 83, 84, 85, 86, 87, 88, 89, 90]
def digT : Tx := [48, 49, 50, 51, 52, 53, 54, 55, 56, 57]
def hexT : Tx := [48, 49, 50, 51, 52, 53, 54, 55, 56, 57, 97, 98, 99, 100, 101, 102]
def sWithin (s cs : Tx) (a b : Nat) : Bool := allIn cs s && (decide (a ≤ s.length) && decide (s.length ≤ b))
def lx (c : UInt8) : Tx → Option Nat
  | [] => none
  | x :: r => match lx c r with
    | some k => some (k + 1)
    | none => if x = c then some 0 else none
def hp (s : Tx) : Bool := sWithin s (smallT ++ capT) 0 300 && !hasB 95 s
def hostPlain (s : Tx) : Bool := match ix 58 s with
  | some k => sWithin (s.drop (k + 1)) digT 1 5 && hp (s.take k)
  | none => hp s
def badB (b : UInt8) : Bool := decide (b.toNat ≤ 32) || decide (b = 47) || decide (b = 63) || decide (b = 35) || decide (b = 64) || decide (b = 127) || decide (b = 92)
def hostBad (s : Tx) : Bool := s.any badB
def localhostT : Tx := [108, 111, 99, 97, 108, 104, 111, 115, 116]
def hosted (s : Tx) : Bool := hasB 46 s || hasB 58 s || decide (s = localhostT)
def hostNamed (s : Tx) : Bool := hostPlain s && hosted s
def hubT : Tx := [105, 110, 100, 101, 120, 46, 100, 111, 99, 107, 101, 114, 46, 105, 111]
def hub (reg : Tx) : Tx := if reg = [] then hubT else reg
def aliasT (s : Tx) : Tx := if s = [100, 111, 99, 107, 101, 114, 46, 105, 111] then hubT else s
def hostOf (s : Tx) : Tx := match ix 58 s with
  | some k => s.take k
  | none => s
def endsT (t s : Tx) : Bool := decide (t.length ≤ s.length) && decide (s.drop (s.length - t.length) = t)
def loose (s : Tx) : Bool := decide (s = localhostT) || endsT [46, 108, 111, 99, 97, 108] (hostOf s)
def quadGo : Tx → List Nat → Nat → Nat → Option (List Nat)
  | [], out, n, d => if d = 0 ∨ 3 < out.length ∨ 255 < n then none else if out.length = 3 then some (out ++ [n]) else none
  | b :: r, out, n, d =>
    if b = 46 then (if d = 0 ∨ 3 < out.length ∨ 255 < n then none else quadGo r (out ++ [n]) 0 0)
    else if b.toNat < 48 ∨ 57 < b.toNat ∨ (0 < d ∧ n = 0) then none
    else if 3 < d + 1 then none else quadGo r out (n * 10 + (b.toNat - 48)) (d + 1)
def quadF (s : Tx) : Option (List Nat) := quadGo s [] 0 0
def priv : List Nat → Bool
  | [a, b, _, _] => decide (a = 10) || (decide (a = 172) && decide (16 ≤ b) && decide (b < 32)) || (decide (a = 192) && decide (b = 168))
  | _ => false
def privO : Option (List Nat) → Bool
  | some l => priv l
  | none => false
def localF (s : Tx) : Bool := let h := hostOf s
  decide (h = localhostT) || decide (h = [49, 50, 55, 46, 48, 46, 48, 46, 49]) || endsT [46, 108, 111, 99, 97, 108, 104, 111, 115, 116] h || privO (quadF h)
structure NOpt where
  strict : Bool
  ins : Bool
  reg : Tx
  tag : Tx
def sReg (strict : Bool) (reg s : Tx) : Tx × Bool × Bool :=
  if (strict && decide (s = [])) || hostBad s then ([], false, false) else (aliasT (if s = [] then hub reg else s), true, !hostPlain s)
def pathGood (s : Tx) : Bool := sWithin s (smallT ++ [47]) 1 255
def tagGood (s : Tx) : Bool := sWithin s (smallT ++ capT) 1 128
def digGood (s : Tx) : Bool := decide (s.length = 71) && (decide (s.take 7 = [115, 104, 97, 50, 53, 54, 58]) && sWithin (s.drop 7) hexT 64 64)
def libT : Tx := [108, 105, 98, 114, 97, 114, 121, 47]
def hostCut (s : Tx) : Tx × Tx := match ix 47 s with
  | some k => if hosted (s.take k) then (s.take k, s.drop (k + 1)) else ([], s)
  | none => ([], s)
def fullP (r p : Tx) : Tx := if decide (r = hubT) && !hasB 47 p then libT ++ p else p
def implNs (r p : Tx) : Bool := decide (r = hubT) && !hasB 47 p
def sRepo (strict : Bool) (reg s : Tx) : Tx × Tx × Bool × Bool :=
  let (h, p) := hostCut s
  let (r, ok, op) := sReg false reg h
  if !pathGood p || !ok || (strict && decide (h = [])) then ([], [], false, op)
  else if implNs r p && strict then ([], [], false, op) else (r, fullP r p, true, op)
def cutTag (s : Tx) : Option (Tx × Tx) := match lx 58 s with
  | some k => if hasB 47 (s.drop k) then none else some (s.take k, s.drop (k + 1))
  | none => none
def latestT : Tx := [108, 97, 116, 101, 115, 116]
def tagOr (t : Tx) : Tx := if t = [] then latestT else t
def sTag (o : NOpt) (s : Tx) : Tx × Tx × Tx × Bool × Bool := match cutTag s with
  | some (rest, t) => if tagGood t then let (r, p, ok, op) := sRepo o.strict o.reg rest; (r, p, t, ok, op) else ([], [], [], false, false)
  | none => if o.strict then ([], [], [], false, false) else let (r, p, ok, op) := sRepo o.strict o.reg s; (r, p, tagOr o.tag, ok, op)
def otherDig (d : Tx) : Bool := decide (7 < d.length) && (decide (d.take 7 = [115, 104, 97, 51, 56, 52, 58]) || decide (d.take 7 = [115, 104, 97, 53, 49, 50, 58]))
def offTag (s : Tx) : Tx := match cutTag s with
  | some (r, t) => if tagGood t then r else s
  | none => s
def sDig (o : NOpt) (s : Tx) : Tx × Tx × Tx × Bool × Bool := match ix 64 s with
  | none => ([], [], [], false, false)
  | some k => if lx 64 s = some k then
      (if digGood (s.drop (k + 1)) then let (r, p, ok, op) := sRepo o.strict o.reg (offTag (s.take k)); (r, p, s.drop (k + 1), ok, op || decide (255 < p.length))
       else ([], [], [], false, otherDig (s.drop (k + 1))))
    else ([], [], [], false, false)
structure Nm where
  kind : Int
  reg : Tx
  rep : Tx
  id : Tx
  name : Tx
  text : Tx
  scheme : Tx
  scope : Tx
  cname : Tx
  ctext : Tx
  rname : Tx
def Nm.zero : Nm := ⟨0, [], [], [], [], [], [], [], [], [], []⟩
def schemeT (b : Bool) : Tx := if b then [104, 116, 116, 112] else [104, 116, 116, 112, 115]
def scopeT (p : Tx) : Tx := [114, 101, 112, 111, 115, 105, 116, 111, 114, 121, 58] ++ p ++ [58, 112, 117, 108, 108]
def repoT (r p : Tx) : Tx := r ++ [47] ++ p
def nmd (sch : Bool) (kind : Int) (r p id text : Tx) : Nm :=
  if kind = 1 then ⟨1, r, p, id, r, r, schemeT sch, [114, 101, 103, 105, 115, 116, 114, 121, 58, 99, 97, 116, 97, 108, 111, 103, 58, 42], [], [], []⟩
  else if kind = 2 then ⟨2, r, p, id, repoT r p, repoT r p, schemeT sch, scopeT p, [], [], []⟩
  else if kind = 3 then ⟨3, r, p, id, repoT r p ++ [58] ++ id, text, schemeT sch, scopeT p, repoT r p, repoT r p, r⟩
  else ⟨4, r, p, id, repoT r p ++ [64] ++ id, text, schemeT sch, scopeT p, repoT r p, repoT r p, r⟩
def sNamed (o : NOpt) (kind : Int) (r p id text : Tx) : Nm := nmd (o.ins || localF r) kind r p id text
def sParts (o : NOpt) (which : Int) (s : Tx) : Int × Tx × Tx × Tx × Bool × Bool :=
  if which = 1 then let (r, ok, op) := sReg o.strict o.reg s; (1, r, [], [], ok, op)
  else if which = 2 then let (r, p, ok, op) := sRepo o.strict o.reg s; (2, r, p, [], ok, op)
  else if which = 3 then let (r, p, t, ok, op) := sTag o s; (3, r, p, t, ok, op)
  else if which = 4 then let (r, p, t, ok, op) := sDig o s; (4, r, p, t, ok, op)
  else let (r, p, t, ok, op) := sTag o s
    if !ok && !op then let (r, p, t, ok, op) := sDig o s; (4, r, p, t, ok, op) else (3, r, p, t, ok, op)
def sRead (o : NOpt) (which : Int) (s : Tx) : Nm × Bool × Bool :=
  let (k, r, p, t, ok, op) := sParts o which s
  if !ok || op then (Nm.zero, ok, op) else (sNamed o k r p t s, true, false)
end Go.V
namespace Go.V
set_option linter.unusedVariables false
set_option linter.unusedSimpArgs false
set_option maxRecDepth 10000
theorem hasB_false {c : UInt8} {s : Tx} : hasB c s = false ↔ ∀ b ∈ s, b ≠ c := by
  unfold hasB
  constructor
  · intro h b hb e
    subst e
    have : s.contains b = true := List.contains_iff_mem.2 hb
    rw [this] at h; cases h
  · intro h
    cases hc : s.contains c with
    | false => rfl
    | true => exact absurd rfl (h c (List.contains_iff_mem.1 hc))
theorem hasB_true {c : UInt8} {s : Tx} : hasB c s = true ↔ c ∈ s := List.contains_iff_mem
theorem hasB_app {c : UInt8} {s u : Tx} : hasB c (s ++ u) = (hasB c s || hasB c u) := by simp [hasB]
theorem hasB_cons {c b : UInt8} {u : Tx} : hasB c (b :: u) = (decide (b = c) || hasB c u) := by
  rw [Bool.eq_iff_iff]
  simp only [hasB_true, List.mem_cons, Bool.or_eq_true, decide_eq_true_eq]
  exact ⟨fun h => h.imp Eq.symm id, fun h => h.imp Eq.symm id⟩
theorem ix_none {c : UInt8} : ∀ {s : Tx}, ix c s = none ↔ hasB c s = false
  | [] => by simp [ix, hasB]
  | x :: r => by
    rw [hasB_cons]
    simp only [ix]
    by_cases h : x = c
    · simp [h]
    · rw [if_neg h, Option.map_eq_none_iff, ix_none (s := r)]
      simp [h]
theorem ix_has {c : UInt8} {s : Tx} : hasB c s = (ix c s).isSome := by
  cases h : ix c s with
  | none => simpa using ix_none.1 h
  | some k =>
    cases hb : hasB c s with
    | true => rfl
    | false => rw [ix_none.2 hb] at h; cases h
theorem ix_app {c : UInt8} {y : Tx} : ∀ {x : Tx}, hasB c x = false → ix c (x ++ c :: y) = some x.length
  | [], _ => by simp [ix]
  | b :: r, h => by
    rw [hasB_cons, Bool.or_eq_false_iff] at h
    have h1 : b ≠ c := of_decide_eq_false h.1
    simp [ix, h1, ix_app h.2]
theorem ix_app2 {c : UInt8} {y : Tx} : ∀ {x : Tx} {k : Nat}, ix c x = some k → ix c (x ++ y) = some k
  | [], k, h => by simp [ix] at h
  | b :: r, k, h => by
    simp only [ix, List.cons_append] at h ⊢
    split at h
    · rename_i hb; rw [if_pos hb]; exact h
    · rename_i hb
      rw [if_neg hb]
      cases hr : ix c r with
      | none => rw [hr] at h; simp at h
      | some j => rw [hr] at h; rw [ix_app2 hr]; exact h
theorem lx_none {c : UInt8} : ∀ {s : Tx}, lx c s = none ↔ hasB c s = false
  | [] => by simp [lx, hasB]
  | x :: r => by
    rw [hasB_cons]
    simp only [lx]
    cases hr : lx c r with
    | none =>
      have := lx_none.1 hr
      by_cases h : x = c
      · simp [h]
      · simp [h, this]
    | some k =>
      have : hasB c r = true := by
        cases hb : hasB c r with
        | true => rfl
        | false => rw [lx_none.2 hb] at hr; cases hr
      simp [this]
theorem lx_split {c : UInt8} : ∀ {s : Tx} {k : Nat}, lx c s = some k → k < s.length ∧ s = s.take k ++ c :: s.drop (k + 1) ∧ hasB c (s.drop (k + 1)) = false
  | [], k, h => by simp [lx] at h
  | x :: r, k, h => by
    simp only [lx] at h
    cases hr : lx c r with
    | none =>
      rw [hr] at h
      simp only at h
      split at h
      · rename_i hx
        cases h
        subst hx
        exact ⟨by simp, by simp, by simpa using lx_none.1 hr⟩
      · cases h
    | some j =>
      rw [hr] at h
      simp only [Option.some.injEq] at h
      subst h
      obtain ⟨h1, h2, h3⟩ := lx_split hr
      refine ⟨by simp; omega, ?_, by simpa using h3⟩
      simpa using h2
theorem lx_app {c : UInt8} {y : Tx} (hy : hasB c y = false) : ∀ {x : Tx}, lx c (x ++ c :: y) = some x.length
  | [] => by simp [lx, lx_none.2 hy]
  | b :: r => by simp [lx, lx_app hy (x := r)]
theorem lx_app2 {c : UInt8} {y : Tx} (hy : hasB c y = false) : ∀ {x : Tx}, lx c (x ++ y) = lx c x
  | [] => by simpa [lx] using lx_none.2 hy
  | b :: r => by simp [lx, lx_app2 hy (x := r)]
theorem ix_split {c : UInt8} {s : Tx} {k : Nat} (h : ix c s = some k) : s = s.take k ++ c :: s.drop (k + 1) ∧ hasB c (s.take k) = false := by
  induction s generalizing k with
  | nil => simp [ix] at h
  | cons x r ih =>
    simp only [ix] at h
    split at h
    · rename_i hx
      cases h
      subst hx
      exact ⟨by simp, by simp [hasB]⟩
    · rename_i hx
      cases hr : ix c r with
      | none => rw [hr] at h; simp at h
      | some j =>
        rw [hr] at h
        simp only [Option.map_some, Option.some.injEq] at h
        subst h
        obtain ⟨h1, h2⟩ := ih hr
        refine ⟨by simpa using h1, ?_⟩
        rw [List.take_succ_cons, hasB_cons, h2]
        simp [hx]
theorem allIn_mem {cs s : Tx} : allIn cs s = true ↔ ∀ b ∈ s, b ∈ cs := by simp [allIn]
theorem allIn_not {cs s : Tx} (c : UInt8) (h : allIn cs s = true) (hc : cs.contains c = false) : hasB c s = false :=
  hasB_false.2 fun b hb e => by
    have := allIn_mem.1 h b hb
    subst e
    rw [List.contains_iff_mem.2 this] at hc; cases hc
theorem allIn_app {cs s u : Tx} : allIn cs (s ++ u) = (allIn cs s && allIn cs u) := by simp [allIn]
theorem sWithin_all {cs s : Tx} {a b : Nat} (h : sWithin s cs a b = true) : allIn cs s = true ∧ a ≤ s.length ∧ s.length ≤ b := by
  simpa [sWithin] using h
theorem hp_all {s : Tx} (h : hp s = true) : allIn (smallT ++ capT) s = true := by
  simp only [hp, Bool.and_eq_true] at h
  exact (sWithin_all h.1).1
def hostT : Tx := (smallT ++ capT) ++ [58]
theorem dig_host : ∀ b ∈ digT, b ∈ hostT := by decide
theorem host_bad : ∀ b ∈ hostT, badB b = false := by decide
theorem hostPlain_all {s : Tx} (h : hostPlain s = true) : allIn hostT s = true := by
  unfold hostPlain at h
  cases hk : ix 58 s with
  | none =>
    rw [hk] at h
    exact allIn_mem.2 fun b hb => List.mem_append_left _ (allIn_mem.1 (hp_all h) b hb)
  | some k =>
    rw [hk] at h
    simp only [Bool.and_eq_true] at h
    obtain ⟨e, _⟩ := ix_split hk
    have h1 := (sWithin_all h.1).1
    have h2 := hp_all h.2
    refine allIn_mem.2 fun b hb => ?_
    rw [e] at hb
    rcases List.mem_append.1 hb with hb | hb
    · exact List.mem_append_left _ (allIn_mem.1 h2 b hb)
    · rcases List.mem_cons.1 hb with rfl | hb
      · decide
      · exact dig_host b (allIn_mem.1 h1 b hb)
theorem hostPlain_no {s : Tx} (c : UInt8) (h : hostPlain s = true) (hc : hostT.contains c = false) : hasB c s = false := allIn_not c (hostPlain_all h) hc
theorem hostPlain_good {s : Tx} (h : hostPlain s = true) : hostBad s = false := by
  cases hb : hostBad s with
  | false => rfl
  | true =>
    exfalso
    obtain ⟨b, hb1, hb2⟩ := List.any_eq_true.1 hb
    rw [host_bad b (allIn_mem.1 (hostPlain_all h) b hb1)] at hb2
    cases hb2
theorem hosted_ne {s : Tx} (h : hosted s = true) : s ≠ [] := by rintro rfl; revert h; decide
theorem alias_ne {s : Tx} : aliasT (aliasT s) = aliasT s := by
  unfold aliasT
  split
  · decide
  · rename_i h; first | rfl | rw [if_neg h]
theorem alias_plain {s : Tx} (h : hostPlain s = true) : hostPlain (aliasT s) = true := by
  unfold aliasT; split
  · decide
  · exact h
theorem alias_hosted {s : Tx} (h : hosted s = true) : hosted (aliasT s) = true := by
  unfold aliasT; split
  · decide
  · exact h
theorem alias_nil {s : Tx} (h : s ≠ []) : aliasT s ≠ [] := by
  unfold aliasT; split
  · decide
  · exact h
theorem lib_all : allIn (smallT ++ [47]) libT = true := by decide
theorem hostCut_repo {r p : Tx} (h1 : hostPlain r = true) (h2 : hosted r = true) : hostCut (repoT r p) = (r, p) := by
  have h3 := hostPlain_no 47 h1 (by decide)
  have h4 : ix 47 (repoT r p) = some r.length := by
    unfold repoT
    rw [List.append_assoc]
    exact ix_app h3
  unfold hostCut
  rw [h4]
  simp [repoT, h2]
theorem fullP_idem {r p : Tx} : fullP r (fullP r p) = fullP r p := by
  unfold fullP
  by_cases h : (decide (r = hubT) && !hasB 47 p) = true
  · rw [if_pos h]
    have : hasB 47 (libT ++ p) = true := by rw [hasB_app]; simp [show hasB 47 libT = true by decide]
    simp [this]
  · rw [if_neg h, if_neg h]
theorem fullP_not {r p : Tx} : implNs r (fullP r p) = false := by
  unfold fullP implNs
  by_cases h : (decide (r = hubT) && !hasB 47 p) = true
  · rw [if_pos h]
    have : hasB 47 (libT ++ p) = true := by rw [hasB_app]; simp [show hasB 47 libT = true by decide]
    simp [this]
  · rw [if_neg h]; simpa using h
theorem pathGood_all {p : Tx} (h : pathGood p = true) : allIn (smallT ++ [47]) p = true ∧ 1 ≤ p.length ∧ p.length ≤ 255 := sWithin_all h
theorem fullP_all {r p : Tx} (h : pathGood p = true) : allIn (smallT ++ [47]) (fullP r p) = true ∧ 1 ≤ (fullP r p).length := by
  obtain ⟨h1, h2, _⟩ := pathGood_all h
  unfold fullP; split
  · rw [allIn_app, lib_all, h1]; exact ⟨rfl, by simp; omega⟩
  · exact ⟨h1, h2⟩
theorem pathGood_of {p : Tx} (h : allIn (smallT ++ [47]) p = true) (h1 : 1 ≤ p.length) (h2 : p.length ≤ 255) : pathGood p = true := by
  simp [pathGood, sWithin, h, h1, h2]
structure RepoOk (r p : Tx) : Prop where
  plain : hostPlain r = true
  al : aliasT r = r
  ne : r ≠ []
  full : fullP r p = p
  chars : allIn (smallT ++ [47]) p = true
  pos : 1 ≤ p.length
def regOk (reg : Tx) : Prop := reg = [] ∨ hostNamed reg = true
theorem hub_named {reg : Tx} (h : regOk reg) : hostPlain (hub reg) = true ∧ hosted (hub reg) = true := by
  unfold hub
  rcases h with rfl | h
  · decide
  · simp only [hostNamed, Bool.and_eq_true] at h
    split
    · decide
    · exact h
theorem sReg_ok {b : Bool} {reg s r : Tx} (hr : regOk reg) (h : sReg b reg s = (r, true, false)) : hostPlain r = true ∧ aliasT r = r ∧ r ≠ [] ∧ r = aliasT (if s = [] then hub reg else s) ∧ hostPlain s = true ∧ hostBad s = false := by
  unfold sReg at h
  split at h
  · simp at h
  rename_i h0
  simp only [Prod.mk.injEq, true_and] at h
  obtain ⟨rfl, h⟩ := h
  have hp : hostPlain s = true := by simpa using h
  obtain ⟨h1, h2⟩ := hub_named hr
  refine ⟨alias_plain ?_, alias_ne, alias_nil ?_, rfl, hp, hostPlain_good hp⟩
  · split
    · exact h1
    · exact hp
  · split
    · exact hosted_ne h2
    · rename_i h; exact h
theorem hostCut_spec (s : Tx) : (hostCut s).1 = [] ∨ hosted (hostCut s).1 = true := by
  unfold hostCut; split
  · split
    · rename_i h; exact .inr h
    · exact .inl rfl
  · exact .inl rfl
theorem sRepo_ok {b : Bool} {reg s r p : Tx} (hr : regOk reg) (h : sRepo b reg s = (r, p, true, false)) : RepoOk r p ∧ hosted r = true ∧ sReg false reg (hostCut s).1 = (r, true, false) ∧ pathGood (hostCut s).2 = true ∧ p = fullP r (hostCut s).2 := by
  unfold sRepo at h
  simp only at h
  split at h
  · simp at h
  rename_i h0
  split at h
  · simp at h
  rename_i h1
  simp only [Prod.mk.injEq, true_and] at h
  obtain ⟨hr1, hp1, h2⟩ := h
  simp only [Bool.or_eq_true, Bool.not_eq_true', not_or, Bool.not_eq_false, Bool.and_eq_true, decide_eq_true_eq] at h0
  obtain ⟨⟨h3, h4⟩, h5⟩ := h0
  have hs : sReg false reg (hostCut s).1 = (r, true, false) := Prod.ext hr1 (Prod.ext h4 h2)
  obtain ⟨g1, g2, g3, g4, g5, g6⟩ := sReg_ok hr hs
  rw [hr1] at hp1
  obtain ⟨k1, k2⟩ := fullP_all (r := r) h3
  subst hp1
  refine ⟨⟨g1, g2, g3, fullP_idem, k1, k2⟩, ?_, hs, h3, rfl⟩
  rw [g4]
  refine alias_hosted ?_
  split
  · exact (hub_named hr).2
  · rename_i he
    rcases hostCut_spec s with h | h
    · exact absurd h he
    · exact h
theorem sReg_again {b : Bool} {reg r : Tx} (h1 : hostPlain r = true) (h2 : aliasT r = r) (h3 : r ≠ []) : sReg b reg r = (r, true, false) := by
  unfold sReg
  rw [hostPlain_good h1]
  simp [h3, h2, h1]
theorem sRepo_again {b : Bool} {reg r p : Tx} (h : RepoOk r p) (h2 : hosted r = true) (hl : p.length ≤ 255) : sRepo b reg (repoT r p) = (r, p, true, false) := by
  unfold sRepo
  rw [hostCut_repo h.plain h2]
  simp only
  rw [sReg_again h.plain h.al h.ne]
  have hg := pathGood_of h.chars h.pos hl
  have hf := fullP_not (r := r) (p := p)
  rw [h.full] at hf
  simp [hg, h.ne, hf, h.full]
theorem cutTag_none {r p : Tx} (hp : hasB 58 p = false) : cutTag (repoT r p) = none := by
  unfold cutTag
  have e : lx 58 (repoT r p) = lx 58 r := by
    unfold repoT
    rw [List.append_assoc]
    refine lx_app2 ?_
    rw [hasB_app, hp]; decide
  rw [e]
  cases hk : lx 58 r with
  | none => rfl
  | some k =>
    obtain ⟨h1, _⟩ := lx_split hk
    have : hasB 47 ((repoT r p).drop k) = true := by
      unfold repoT
      rw [List.append_assoc, List.drop_append_of_le_length (Nat.le_of_lt h1), hasB_app, hasB_app]
      simp [show hasB 47 [47] = true by decide]
    simp [this]
theorem cutTag_some {x t : Tx} (h1 : hasB 58 t = false) (h2 : hasB 47 t = false) : cutTag (x ++ 58 :: t) = some (x, t) := by
  unfold cutTag
  rw [lx_app h1]
  simp [hasB_cons, h2]
theorem cutTag_eq {s x t : Tx} (h : cutTag s = some (x, t)) : s = x ++ 58 :: t ∧ hasB 58 t = false ∧ hasB 47 t = false := by
  unfold cutTag at h
  cases hk : lx 58 s with
  | none => rw [hk] at h; cases h
  | some k =>
    rw [hk] at h
    simp only at h
    split at h
    · cases h
    · rename_i hb
      cases h
      obtain ⟨h1, h2, h3⟩ := lx_split hk
      refine ⟨h2, h3, ?_⟩
      have e : s.drop k = 58 :: s.drop (k + 1) := by
        conv => lhs; rw [h2]
        rw [List.drop_append_of_le_length (by simp; omega)]
        simp
      rw [e, hasB_cons] at hb
      simpa using hb
theorem tagGood_no {t : Tx} (h : tagGood t = true) : hasB 58 t = false ∧ hasB 47 t = false ∧ hasB 64 t = false ∧ t ≠ [] := by
  obtain ⟨h1, h2, h3⟩ := sWithin_all h
  exact ⟨allIn_not _ h1 (by decide), allIn_not _ h1 (by decide), allIn_not _ h1 (by decide), fun e => by subst e; simp at h2⟩
theorem path_no {p : Tx} (h : allIn (smallT ++ [47]) p = true) : hasB 58 p = false ∧ hasB 64 p = false := ⟨allIn_not _ h (by decide), allIn_not _ h (by decide)⟩
end Go.V
