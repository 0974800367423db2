import Derived.WalkKit
import Derived.WalkSpells
import Derived.WalkLawsBesides
import Derived.Deep.AppendSrc
import Derived.OrdersHeld
set_option linter.unusedVariables false
set_option linter.unusedSimpArgs false
namespace Go.V
theorem beqF {i t : Nat} (h : ¬ i = t) : Nat.beq i t = false := by
 cases hb : Nat.beq i t with
 | false => rfl
 | true => exact absurd (Nat.eq_of_beq_eq_true hb) h
abbrev Env := List (Nat × Value)
def look : Env -> Nat -> Option Value
 | [], _ => none
 | (k, v) :: r, t => bif Nat.beq k t then some v else look r t
def put (env : Env) : Option Nat -> Value -> Env
 | some d, v => (d, v) :: env
 | none, _ => env
abbrev Imm := Nat -> Option Obj
abbrev Own := List (Nat × Obj)
def Le (I J : Imm) : Prop := ∀ b o, I b = some o -> J b = some o
theorem Le.refl (I : Imm) : Le I I := fun _ _ h => h
theorem Le.trans {I J K : Imm} (h : Le I J) (k : Le J K) : Le I K := fun b o e => k b o (h b o e)
structure EnvOk (n : Nat) (env : Env) (a : Act) : Prop where
 size : a.tmps.size = n
 defers : a.defers = []
 at_ : ∀ t v, look env t = some v -> a.tmps[t]? = some v
structure Fits (I : Imm) (L : Own) (W : World) : Prop where
 imm : ∀ b o, I b = some o -> W.heap[b]? = some o
 own : ∀ b o, (b, o) ∈ L -> W.heap[b]? = some o
 sep : ∀ b o, (b, o) ∈ L -> I b = none
 nd : (L.map Prod.fst).Nodup
structure Inv (w0 : World) (I0 : Imm) (L0 : List Nat) (I : Imm) (L : Own) (W : World) : Prop where
 os : W.os = w0.os
 tape : W.tape = w0.tape
 output : W.output = w0.output
 size : w0.heap.size <= W.heap.size
 old : ∀ b, b < w0.heap.size -> b ∉ L0 -> W.heap[b]? = w0.heap[b]?
 fits : Fits I L W
 ext : Le I0 I
 newI : ∀ b o, I b = some o -> I0 b = some o \/ w0.heap.size <= b \/ b ∈ L0
 newL : ∀ b o, (b, o) ∈ L -> w0.heap.size <= b \/ b ∈ L0
structure Cx where
 f : FuncId
 R : Value -> Imm -> Own -> Prop
 w0 : World
 I0 : Imm
 L0 : List Nat
def Ends (w0 : World) (I0 : Imm) (L0 : List Nat) (R : Value -> Imm -> Own -> Prop) : Ending -> World -> Prop :=
 fun e W' => ∃ v I L, e = .returned v /\ R v I L /\ Inv w0 I0 L0 I L W'
def Spec (P : Program) (f : FuncId) (args : List Value) (I : Imm) (L : Own) (R : Value -> Imm -> Own -> Prop) : Prop :=
 ∀ w0, Fits I L w0 -> Calls P f args.toArray w0 (Ends w0 I (L.map Prod.fst) R)
def Run (P : Program) (n : Nat) (C : Cx) (k : List Item) (env : Env) (L : Own) (I : Imm) : Prop :=
 ∀ (b : Frame) (a : Act) (cs : List Frame) (W : World), b.fn = C.f -> b.kind = .normal -> EnvOk n env a -> Inv C.w0 C.I0 C.L0 I L W ->
  ∃ e W' fr, Ends C.w0 C.I0 C.L0 C.R e W' /\ Comes P (lone (b.at a k) cs W) (lone fr cs W') e /\ fr.fn = C.f /\ fr.leaving P W' e
theorem Spec.mono {P : Program} {f : FuncId} {args : List Value} {I : Imm} {L : Own} {R R' : Value -> Imm -> Own -> Prop} (h : Spec P f args I L R)
  (k : ∀ v J M, Le I J -> R v J M -> R' v J M) : Spec P f args I L R' :=
 fun w0 hf => (h w0 hf).mono fun _ _ ⟨v, J, M, he, hr, hi⟩ => ⟨v, J, M, he, k v J M hi.ext hr, hi⟩
def argEnv : Nat -> List Value -> Env
 | _, [] => []
 | i, v :: r => (i, v) :: argEnv (i + 1) r
theorem look_argEnv (l : List Value) : ∀ i t v, look (argEnv i l) t = some v -> i <= t /\ l[t - i]? = some v := by
 induction l with
 | nil => intro i t v h; simp [argEnv, look] at h
 | cons x r ih =>
  intro i t v h
  simp only [argEnv, look] at h
  by_cases hit : i = t
  ·subst hit; simp at h; subst h; simp
  ·have hb : Nat.beq i t = false := beqF hit
   rw [hb] at h; simp at h
   obtain ⟨h1, h2⟩ := ih _ _ _ h
   refine ⟨by omega, ?_⟩
   have : t - i = (t - (i + 1)) + 1 := by omega
   rw [this]; simpa using h2
theorem Spec.enter {P : Program} {f : FuncId} {fn : Func} {c : Code} {args : List Value} {I : Imm} {L : Own} {R : Value -> Imm -> Own -> Prop} (n : Nat) (env : Env)
  (hf : P.funcs[f]? = some fn) (hb : fn.body = some c) (hn : fn.ntmps = n) (hle : args.length <= n) (he : argEnv 0 args = env)
  (h : ∀ C : Cx, C.f = f -> (∀ v J M, R v J M -> C.R v J M) -> C.I0 = I -> Run P n C [.code c] env L I) : Spec P f args I L R := by
 intro w0 hfit cs
 let b : Frame := { (default : Frame) with fn := f, kind := .normal }
 let a : Act := { tmps := args.toArray ++ Array.replicate (fn.ntmps - args.toArray.size) undef, defers := [] }
 have henter : Frame.enter P f args.toArray .normal = b.at a [.code c] := by
  simp [Frame.enter, Frame.at, hf, hb, b, a]
 rw [henter]
 refine h ⟨f, R, w0, I, L.map Prod.fst⟩ rfl (fun _ _ _ h => h) rfl b a cs w0 rfl rfl ?_ ?_
 ·refine ⟨by simp [a, hn, hle], rfl, ?_⟩
  intro t v ht
  rw [<- he] at ht
  obtain ⟨_, h2⟩ := look_argEnv _ _ _ _ ht
  have hl : t < args.length := by
   rcases Nat.lt_or_ge t args.length with h | h
   ·exact h
   ·simp [List.getElem?_eq_none h] at h2
  simp only [a, Nat.sub_zero] at h2 ⊢
  rw [Array.getElem?_append_left (by simpa using hl)]
  simpa using h2
 ·refine ⟨rfl, rfl, rfl, Nat.le_refl _, fun _ _ _ => rfl, hfit, Le.refl _, fun _ _ h => .inl h, fun b o h => ?_⟩
  exact .inr (List.mem_map.2 ⟨(b, o), h, rfl⟩)
def want (env : Env) (ops : Array Oper) : Option (Nat × Bool) -> Option Bool
 | none => some true
 | some (j, b) =>
  match (ops[j]?).bind (·.dst) with
  | some d => match look env d with
   | some (.bool t) => some (t == b)
   | _ => none
  | none => none
theorem want_spec {n : Nat} {env : Env} {ops : Array Oper} {o : Oper} {r : Bool} {a : Act} (he : EnvOk n env a) (h : want env ops o.guard = some r) : Region.wanted o (yielded ops a.tmps) = r := by
 unfold want at h
 split at h
 ·rename_i hg
  simp only [Region.wanted, hg]
  simpa using h
 ·rename_i j b hg
  split at h
  ·rename_i d hd
   split at h
   ·rename_i t ht
    simp only [Region.wanted, hg, yielded, hd, Option.bind_some, he.at_ _ _ ht]
    cases h
    cases t <;> cases b <;> rfl
   ·cases h
  ·cases h
section
variable {P : Program} {n : Nat} {C : Cx} {k : List Item} {env : Env} {L : Own} {I : Imm}
theorem Run.steps {k' : List Item} (hs : ∀ (b : Frame) (a : Act) (cs : List Frame) (W : World), EnvOk n env a -> Steps P (lone (b.at a k) cs W) (lone (b.at a k') cs W))
  (h : Run P n C k' env L I) : Run P n C k env L I := by
 intro b a cs W hb hk he hi
 obtain ⟨e, W', fr, h1, h2, h3⟩ := h b a cs W hb hk he hi
 exact ⟨e, W', fr, h1, Comes.of_steps (hs b a cs W he) h2, h3⟩
theorem Run.skip (h : Run P n C k env L I) : Run P n C (.code .skip :: k) env L I := Run.steps (fun _ _ _ _ _ => .one step_skip) h
theorem Run.seq {x y : Code} (h : Run P n C (.code x :: .code y :: k) env L I) : Run P n C (.code (.seq x y) :: k) env L I := Run.steps (fun _ _ _ _ _ => .one step_seq) h
theorem Run.block {id : Nat} {c : Code} (h : Run P n C (.code c :: .inBlock id :: k) env L I) : Run P n C (.code (.block id c) :: k) env L I := Run.steps (fun _ _ _ _ _ => .one step_block) h
theorem Run.inBlock {id : Nat} (h : Run P n C k env L I) : Run P n C (.inBlock id :: k) env L I := Run.steps (fun _ _ _ _ _ => .one step_inBlock) h
theorem Run.loop {c : Code} (h : Run P n C (.code c :: .inLoop c :: k) env L I) : Run P n C (.code (.loop c) :: k) env L I := Run.steps (fun _ _ _ _ _ => .one step_loop) h
theorem Run.inLoop {c : Code} (h : Run P n C (.code c :: .inLoop c :: k) env L I) : Run P n C (.inLoop c :: k) env L I := Run.steps (fun _ _ _ _ _ => .one step_inLoop) h
theorem Run.exit {id : Nat} {k' : List Item} (hx : exitTo id k = some k') (h : Run P n C k' env L I) : Run P n C (.code (.exit id) :: k) env L I :=
 Run.steps (fun _ _ _ _ _ => .one (step_exit hx)) h
theorem Run.cond {c : Operand} {x y : Code} {t : Bool} {s : Nat} (hc : c = .tmp s) (hl : look env s = some (.bool t))
  (ht : t = true -> Run P n C (.code x :: k) env L I) (hf : t = false -> Run P n C (.code y :: k) env L I) : Run P n C (.code (.cond c x y) :: k) env L I := by
 subst hc
 intro b a cs W hb hk he hi
 have hev : a.eval (.tmp s) = .bool t := by
  simp only [Act.eval, Array.getD_eq_getD_getElem?, he.at_ _ _ hl, Option.getD_some]
 cases t with
 | true =>
  obtain ⟨e, W', fr, h1, h2, h3⟩ := ht rfl b a cs W hb hk he hi
  exact ⟨e, W', fr, h1, Comes.of_steps (.one (step_cond hev)) h2, h3⟩
 | false =>
  obtain ⟨e, W', fr, h1, h2, h3⟩ := hf rfl b a cs W hb hk he hi
  exact ⟨e, W', fr, h1, Comes.of_steps (.one (step_cond hev)) h2, h3⟩
theorem Run.cond_t {s : Nat} {x y : Code} (hl : look env s = some (.bool true)) (h : Run P n C (.code x :: k) env L I) : Run P n C (.code (.cond (.tmp s) x y) :: k) env L I :=
 Run.cond rfl hl (fun _ => h) (fun h => by cases h)
theorem Run.cond_f {s : Nat} {x y : Code} (hl : look env s = some (.bool false)) (h : Run P n C (.code y :: k) env L I) : Run P n C (.code (.cond (.tmp s) x y) :: k) env L I :=
 Run.cond rfl hl (fun h => by cases h) (fun _ => h)
theorem EnvOk.weaken {env' : Env} {a : Act} (h : EnvOk n env a) (hs : ∀ t v, look env' t = some v -> look env t = some v) : EnvOk n env' a :=
 ⟨h.size, h.defers, fun t v ht => h.at_ t v (hs t v ht)⟩
theorem Run.keep (ks : List Nat) (vs : List Value) (hv : ks.map (look env) = vs.map some) (h : Run P n C k (ks.zip vs) L I) : Run P n C k env L I := by
 intro b a cs W hb hk he hi
 refine h b a cs W hb hk (he.weaken ?_) hi
 clear h
 induction ks generalizing vs with
 | nil => intro t v ht; simp [look] at ht
 | cons x r ih =>
  cases vs with
  | nil => simp at hv
  | cons y s =>
   simp only [List.map_cons, List.cons.injEq] at hv
   intro t v ht
   simp only [List.zip_cons_cons, look] at ht
   by_cases hx : x = t
   ·subst hx; simp at ht; subst ht; exact hv.1
   ·have hb' : Nat.beq x t = false := beqF hx
    rw [hb'] at ht; exact ih s hv.2 t v ht
theorem Inv.weakenL {w0 : World} {I0 : Imm} {L0 : List Nat} {W : World} {L' : Own} (h : Inv w0 I0 L0 I L W) (hs : L'.Sublist L) : Inv w0 I0 L0 I L' W :=
 { h with
  fits := ⟨h.fits.imm, fun b o hm => h.fits.own b o (hs.subset hm), fun b o hm => h.fits.sep b o (hs.subset hm), h.fits.nd.sublist (hs.map _)⟩
  newL := fun b o hm => h.newL b o (hs.subset hm) }
theorem Run.dropL {L' : Own} (hs : L'.Sublist L) (h : Run P n C k env L' I) : Run P n C k env L I :=
 fun b a cs W hb hk he hi => h b a cs W hb hk he (hi.weakenL hs)
theorem Inv.perm {w0 : World} {I0 : Imm} {L0 : List Nat} {W : World} {L' : Own} (h : Inv w0 I0 L0 I L W) (hp : L.Perm L') : Inv w0 I0 L0 I L' W :=
 { h with
  fits := ⟨h.fits.imm, fun b o hm => h.fits.own b o (hp.mem_iff.2 hm), fun b o hm => h.fits.sep b o (hp.mem_iff.2 hm), (hp.map _).nodup_iff.1 h.fits.nd⟩
  newL := fun b o hm => h.newL b o (hp.mem_iff.2 hm) }
theorem Run.perm {L' : Own} (hp : L.Perm L') (h : Run P n C k env L' I) : Run P n C k env L I :=
 fun b a cs W hb hk he hi => h b a cs W hb hk he (hi.perm hp)
def iset (I : Imm) (b : Nat) (o : Obj) : Imm := fun c => if c = b then some o else I c
theorem Inv.freeze {w0 : World} {I0 : Imm} {L0 : List Nat} {W : World} {b : Nat} {o : Obj} (h : Inv w0 I0 L0 I ((b, o) :: L) W) : Inv w0 I0 L0 (iset I b o) L W := by
 have hnd : b ∉ L.map Prod.fst /\ (L.map Prod.fst).Nodup := by simpa using h.fits.nd
 refine { h with fits := ⟨?_, fun c p hm => h.fits.own c p (List.mem_cons_of_mem _ hm), ?_, hnd.2⟩, ext := ?_, newI := ?_, newL := fun c p hm => h.newL c p (List.mem_cons_of_mem _ hm) }
 ·intro c p hc
  unfold iset at hc
  split at hc
  ·rename_i hcb; subst hcb; cases hc; exact h.fits.own _ _ (List.mem_cons_self)
  ·exact h.fits.imm _ _ hc
 ·intro c p hm
  have hne : c ≠ b := fun e => hnd.1 (e ▸ List.mem_map.2 ⟨(c, p), hm, rfl⟩)
  simp only [iset, if_neg hne]
  exact h.fits.sep c p (List.mem_cons_of_mem _ hm)
 ·intro c p hc
  have hne : c ≠ b := fun e => by
   have := h.ext c p hc
   rw [e, h.fits.sep b o List.mem_cons_self] at this
   cases this
  simp only [iset, if_neg hne]
  exact h.ext c p hc
 ·intro c p hc
  unfold iset at hc
  split at hc
  ·rename_i hcb; subst hcb; exact .inr (h.newL _ _ List.mem_cons_self)
  ·exact h.newI _ _ hc
theorem Inv.le_iset {w0 : World} {I0 : Imm} {L0 : List Nat} {W : World} {b : Nat} {o : Obj} (h : Inv w0 I0 L0 I ((b, o) :: L) W) : Le I (iset I b o) := by
 intro c p hc
 have hne : c ≠ b := fun e => by rw [e, h.fits.sep b o List.mem_cons_self] at hc; cases hc
 simp only [iset, if_neg hne]; exact hc
theorem Run.freeze {b : Nat} {o : Obj} (h : ∀ J, Le I J -> J b = some o -> Run P n C k env L J) : Run P n C k env ((b, o) :: L) I :=
 fun b' a cs W hb hk he hi => h _ hi.le_iset (by simp [iset]) b' a cs W hb hk he hi.freeze
theorem Run.rounds {c : Code} (J : Nat -> Env -> Own -> Imm -> Prop) (m : Nat) (h0 : J m env L I)
  (round : ∀ m env L I, J m env L I -> (∀ m' env' L' I', m' < m -> J m' env' L' I' -> Run P n C (.inLoop c :: k) env' L' I') -> Run P n C (.code c :: .inLoop c :: k) env L I) :
  Run P n C (.code (.loop c) :: k) env L I := by
 have key : ∀ m env L I, J m env L I -> Run P n C (.code c :: .inLoop c :: k) env L I := by
  intro m
  induction m using Nat.strongRecOn with
  | _ m ih =>
   intro env L I hJ
   exact round m env L I hJ fun m' env' L' I' hlt hJ' => Run.inLoop (ih m' hlt env' L' I' hJ')
 exact Run.loop (key m env L I h0)
theorem Run.ret {fn : Func} {v : Value} {todo : List Item} (hfn : P.funcs[C.f]? = some fn)
  (hr : ∀ a W, EnvOk n env a -> Inv C.w0 C.I0 C.L0 I L W -> (results fn a.tmps).run P W = .ok v W) (h : C.R v I L) : Run P n C (.code .ret :: todo) env L I := by
 intro b a cs W hb hk he hi
 refine ⟨.returned v, W, _, ⟨v, I, L, rfl, h, hi⟩, Steps.one step_ret, hb, rfl, he.defers, hk, fn, by simpa [Frame.at, hb] using hfn, ?_⟩
 exact hr a W he hi
theorem Run.done {fn : Func} {v : Value} (hfn : P.funcs[C.f]? = some fn)
  (hr : ∀ a W, EnvOk n env a -> Inv C.w0 C.I0 C.L0 I L W -> (results fn a.tmps).run P W = .ok v W) (h : C.R v I L) : Run P n C [] env L I := by
 intro b a cs W hb hk he hi
 refine ⟨.returned v, W, _, ⟨v, I, L, rfl, h, hi⟩, Steps.one step_end, hb, rfl, he.defers, hk, fn, by simpa [Frame.at, hb] using hfn, ?_⟩
 exact hr a W he hi
theorem EnvOk.getD {a : Act} {t : Nat} {v d : Value} (he : EnvOk n env a) (h : look env t = some v) : a.tmps.getD t d = v := by
 simp [Array.getD_eq_getD_getElem?, he.at_ _ _ h]
theorem Run.ret1 {fn : Func} {t : Nat} {v : Value} {todo : List Item} (hfn : P.funcs[C.f]? = some fn) (hres : fn.results = #[.tmp t]) (hv : look env t = some v) (h : C.R v I L) :
  Run P n C (.code .ret :: todo) env L I :=
 Run.ret hfn (fun a W he _ => by rw [results_tmp hres, he.getD hv]) h
theorem Run.ret2 {fn : Func} {t u : Nat} {v x : Value} {todo : List Item} (hfn : P.funcs[C.f]? = some fn) (hres : fn.results = #[.tmp t, .tmp u]) (hv : look env t = some v) (hx : look env u = some x)
  (h : C.R (.tuple #[v, x]) I L) : Run P n C (.code .ret :: todo) env L I :=
 Run.ret hfn (fun a W he _ => by rw [results_tmp2 hres, he.getD hv, he.getD hx]) h
theorem Run.ret3 {fn : Func} {t u s : Nat} {v x y : Value} {todo : List Item} (hfn : P.funcs[C.f]? = some fn) (hres : fn.results = #[.tmp t, .tmp u, .tmp s]) (hv : look env t = some v) (hx : look env u = some x) (hy : look env s = some y)
  (h : C.R (.tuple #[v, x, y]) I L) : Run P n C (.code .ret :: todo) env L I :=
 Run.ret hfn (fun a W he _ => by rw [results_tmp3 hres, he.getD hv, he.getD hx, he.getD hy]) h
theorem Run.end0 {fn : Func} (hfn : P.funcs[C.f]? = some fn) (hres : fn.results = #[]) (h : C.R (.tuple #[]) I L) : Run P n C [] env L I :=
 Run.done hfn (fun a W _ _ => by rw [results_none hres]) h
def Ops (P : Program) (n : Nat) (C : Cx) (ops : Array Oper) (i : Nat) (l : List Oper) (k : List Item) (env : Env) (L : Own) (I : Imm) : Prop :=
 (∀ j : Nat, l[j]? = ops[i + j]?) -> Run P n C (.inRegion ops (List.range' i l.length) :: k) env L I
theorem Run.region {id : Nat} {l : List Oper} (h : Ops P n C l.toArray 0 l k env L I) : Run P n C (.code (.region id l.toArray false) :: k) env L I := by
 refine Run.steps (fun b a cs W _ => .one step_region) ?_
 have := h (fun j => by simp)
 simpa [List.range_eq_range'] using this
variable {ops : Array Oper} {i : Nat} {l : List Oper} {o : Oper}
theorem Ops.nil (h : Run P n C k env L I) : Ops P n C ops i [] k env L I := fun _ => Run.steps (fun _ _ _ _ _ => .one step_region_end) h
theorem Ops.head (hl : ∀ j : Nat, (o :: l)[j]? = ops[i + j]?) : ops[i]? = some o /\ ∀ j : Nat, l[j]? = ops[i + 1 + j]? :=
 ⟨by simpa using (hl 0).symm, fun j => by have := hl (j + 1); simpa [Nat.add_assoc, Nat.add_comm 1 j] using this⟩
theorem steps_value {b : Frame} {a : Act} {cs : List Frame} {w w' : World} {rest : List Nat} {v : Value} (ho : ops[i]? = some o) (hw : Region.wanted o (yielded ops a.tmps) = true)
  (hr : (execOp a.eval o).run P w = .ok (.value v) w') :
  Steps P (lone (b.at a (.inRegion ops (i :: rest) :: k)) cs w) (lone (b.at (a.put o.dst v) (.inRegion ops rest :: k)) cs w') := by
 have hg := stepG_op (P := P) (b := b) (k := k) (cs := cs) (w := w) (rest := rest) ho hw
 have hfin : (b.at a (.inRegion ops (i :: rest) :: k)).finish v = b.at (a.put o.dst v) (.inRegion ops rest :: k) := by
  rw [Frame.finish_at, ho]; rfl
 refine .one (step_lone_go ?_)
 rw [hg, <- hfin]; simp [stepG.apply, hr]
theorem steps_skip {b : Frame} {a : Act} {cs : List Frame} {w w' : World} {rest : List Nat} (ho : ops[i]? = some o) (hw : Region.wanted o (yielded ops a.tmps) = true)
  (hr : (execOp a.eval o).run P w = .ok .skip w') :
  Steps P (lone (b.at a (.inRegion ops (i :: rest) :: k)) cs w) (lone (b.at (a.put o.dst undef) (.inRegion ops rest :: k)) cs w') := by
 have hg := stepG_op (P := P) (b := b) (k := k) (cs := cs) (w := w) (rest := rest) ho hw
 have hfin : (b.at a (.inRegion ops (i :: rest) :: k)).finish undef = b.at (a.put o.dst undef) (.inRegion ops rest :: k) := by
  rw [Frame.finish_at, ho]; rfl
 refine .one (step_lone_go ?_)
 rw [hg, <- hfin]; simp [stepG.apply, hr]
theorem steps_call {b : Frame} {a : Act} {cs : List Frame} {w w' : World} {rest : List Nat} {f : FuncId} {args : Array Value} {Rc : Ending -> World -> Prop}
  (ho : ops[i]? = some o) (hw : Region.wanted o (yielded ops a.tmps) = true)
  (hr : (execOp a.eval o).run P w = .ok (.enter f args) w') (hc : Calls P f args w' Rc) (hret : ∀ e w'', Rc e w'' -> ∃ v, e = .returned v) :
  ∃ v w'', Rc (.returned v) w'' /\ Steps P (lone (b.at a (.inRegion ops (i :: rest) :: k)) cs w) (lone (b.at (a.put o.dst v) (.inRegion ops rest :: k)) cs w'') := by
 have hg := stepG_op (P := P) (b := b) (k := k) (cs := cs) (w := w) (rest := rest) ho hw
 obtain ⟨e, w'', fr, hR, hcomes, hfn, hleave⟩ := hc (b.at a (.inRegion ops (i :: rest) :: k) :: cs)
 obtain ⟨v, rfl⟩ := hret _ _ hR
 refine ⟨v, w'', hR, ?_⟩
 have hfin : (b.at a (.inRegion ops (i :: rest) :: k)).finish v = b.at (a.put o.dst v) (.inRegion ops rest :: k) := by
  rw [Frame.finish_at, ho]; rfl
 have henter : step P (lone (b.at a (.inRegion ops (i :: rest) :: k)) cs w) =
   .next (lone (Frame.enter P f args .normal) (b.at a (.inRegion ops (i :: rest) :: k) :: cs) w') :=
  step_lone_go (by rw [hg]; simp [stepG.apply, hr, Frame.at])
 refine .head henter (Steps.trans hcomes (.one ?_))
 rw [<- hfin]; exact step_leave_returned hleave
theorem EnvOk.put {a : Act} {d : Option Nat} {v : Value} (he : EnvOk n env a) (hd : ∀ t, d = some t -> t < n) : EnvOk n (V.put env d v) (a.put d v) := by
 cases d with
 | none => exact he
 | some t =>
  refine ⟨by simpa [Act.put] using he.size, he.defers, ?_⟩
  intro u x hx
  simp only [V.put, look] at hx
  simp only [Act.put]
  by_cases htu : t = u
  ·subst htu
   simp at hx; subst hx
   have : t < a.tmps.size := by rw [he.size]; exact hd t rfl
   simp [this]
  ·have hb : Nat.beq t u = false := beqF htu
   rw [hb] at hx
   rw [Array.getElem?_setIfInBounds_ne htu]
   exact he.at_ u x hx
theorem Ops.val {v : Value} (hg : want env ops o.guard = some true) (hd : ∀ t, o.dst = some t -> t < n)
  (h : ∀ a W, EnvOk n env a -> Inv C.w0 C.I0 C.L0 I L W -> (execOp a.eval o).run P W = .ok (.value v) W)
  (next : Ops P n C ops (i + 1) l k (V.put env o.dst v) L I) : Ops P n C ops i (o :: l) k env L I := by
 intro hl
 obtain ⟨ho, hl'⟩ := Ops.head hl
 intro b a cs W hb hk he hi
 have hw : Region.wanted o (yielded ops a.tmps) = true := want_spec he hg
 have hs := steps_value (k := k) (b := b) (cs := cs) (rest := List.range' (i + 1) l.length) ho hw (h a W he hi)
 obtain ⟨e, W', fr, h1, h2, h3⟩ := next hl' b _ cs W hb hk (he.put hd) hi
 refine ⟨e, W', fr, h1, Comes.of_steps ?_ h2, h3⟩
 simpa [List.range'_succ] using hs
def Eff (P : Program) (n : Nat) (C : Cx) (env : Env) (L : Own) (I : Imm) (o : Oper) (K : Value -> Own -> Imm -> Prop) : Prop :=
 ∀ a W, EnvOk n env a -> Inv C.w0 C.I0 C.L0 I L W ->
  (∃ v W1 L1 I1, ((execOp a.eval o).run P W = .ok (.value v) W1 \/ (execOp a.eval o).run P W = .ok .skip W1 /\ v = undef) /\ Inv C.w0 C.I0 C.L0 I1 L1 W1 /\ K v L1 I1) \/
  (∃ f args, (execOp a.eval o).run P W = .ok (.enter f args) W /\ Calls P f args W fun e W' => ∃ v L1 I1, e = .returned v /\ Inv C.w0 C.I0 C.L0 I1 L1 W' /\ K v L1 I1)
theorem Eff.valW {K : Value -> Own -> Imm -> Prop} (h : ∀ a W, EnvOk n env a -> Inv C.w0 C.I0 C.L0 I L W -> ∃ v W1 L1 I1, ((execOp a.eval o).run P W = .ok (.value v) W1 \/ (execOp a.eval o).run P W = .ok .skip W1 /\ v = undef) /\
   Inv C.w0 C.I0 C.L0 I1 L1 W1 /\ K v L1 I1) : Eff P n C env L I o K := fun a W he hi => .inl (h a W he hi)
theorem Ops.eff (hg : want env ops o.guard = some true) (hd : ∀ t, o.dst = some t -> t < n) (h : Eff P n C env L I o fun v L1 I1 => Ops P n C ops (i + 1) l k (V.put env o.dst v) L1 I1) : Ops P n C ops i (o :: l) k env L I := by
 intro hl
 obtain ⟨ho, hl'⟩ := Ops.head hl
 intro b a cs W hb hk he hi
 have hw : Region.wanted o (yielded ops a.tmps) = true := want_spec he hg
 rcases h a W he hi with ⟨v, W1, L1, I1, hr, hi1, next⟩ | ⟨f, args, hr, hc⟩
 ·have hs : Steps P (lone (b.at a (.inRegion ops (i :: List.range' (i + 1) l.length) :: k)) cs W) (lone (b.at (a.put o.dst v) (.inRegion ops (List.range' (i + 1) l.length) :: k)) cs W1) := by
   rcases hr with hr | ⟨hr, rfl⟩
   ·exact steps_value ho hw hr
   ·exact steps_skip ho hw hr
  obtain ⟨e, W', fr, h1, h2, h3⟩ := next hl' b _ cs W1 hb hk (he.put hd) hi1
  refine ⟨e, W', fr, h1, Comes.of_steps ?_ h2, h3⟩
  simpa [List.range'_succ] using hs
 ·obtain ⟨v, W2, hR, hsteps⟩ := steps_call (k := k) (b := b) (cs := cs) (rest := List.range' (i + 1) l.length) ho hw hr hc (fun e w'' ⟨v, _, _, he, _⟩ => ⟨v, he⟩)
  obtain ⟨v', L1, I1, hve, hinv, next⟩ := hR
  cases hve
  obtain ⟨e, W', fr, h1, h2, h3⟩ := next hl' b _ cs W2 hb hk (he.put hd) hinv
  refine ⟨e, W', fr, h1, Comes.of_steps ?_ h2, h3⟩
  simpa [List.range'_succ] using hsteps
theorem Ops.valW (hg : want env ops o.guard = some true) (hd : ∀ t, o.dst = some t -> t < n)
  (h : ∀ a W, EnvOk n env a -> Inv C.w0 C.I0 C.L0 I L W -> ∃ v W1 L1 I1, ((execOp a.eval o).run P W = .ok (.value v) W1 \/ (execOp a.eval o).run P W = .ok .skip W1 /\ v = undef) /\
   Inv C.w0 C.I0 C.L0 I1 L1 W1 /\ Ops P n C ops (i + 1) l k (V.put env o.dst v) L1 I1) : Ops P n C ops i (o :: l) k env L I := Ops.eff hg hd (Eff.valW h)
theorem Eff.callW {f : FuncId} {args : List Value} {M N : Own} {R : Value -> Imm -> Own -> Prop} {K : Value -> Own -> Imm -> Prop}
  (h : ∀ a W, EnvOk n env a -> (execOp a.eval o).run P W = .ok (.enter f args.toArray) W) (hL : L.Perm (M ++ N)) (hs : Spec P f args I M R)
  (next : ∀ v J M', Le I J -> R v J M' -> K v (M' ++ N) J) : Eff P n C env L I o K := by
 intro a W he hi
 refine .inr ⟨f, args.toArray, h a W he, ?_⟩
 have hi' := hi.perm hL
 have hfit : Fits I M W := ⟨hi'.fits.imm, fun c p hm => hi'.fits.own c p (List.mem_append_left _ hm), fun c p hm => hi'.fits.sep c p (List.mem_append_left _ hm), by
  have := hi'.fits.nd
  rw [List.map_append] at this
  exact (List.nodup_append.1 this).1⟩
 refine (hs W hfit).mono ?_
 rintro e W2 ⟨v, J, M', rfl, hR', hi2⟩
 have hnd := hi'.fits.nd
 rw [List.map_append] at hnd
 obtain ⟨hnM, hnN, hdis⟩ := List.nodup_append.1 hnd
 have hltW : ∀ c p, (c, p) ∈ M ++ N -> c < W.heap.size := fun c p hm => (Array.getElem?_eq_some_iff.1 (hi'.fits.own c p hm)).1
 have hNM : ∀ c p, (c, p) ∈ N -> c ∉ M.map Prod.fst := fun c p hm hmm => hdis c hmm c (List.mem_map.2 ⟨(c, p), hm, rfl⟩) rfl
 have hN : ∀ c p, (c, p) ∈ N -> W2.heap[c]? = some p := fun c p hm => by
  rw [hi2.old c (hltW c p (List.mem_append_right _ hm)) (hNM c p hm)]
  exact hi'.fits.own c p (List.mem_append_right _ hm)
 have hinv : Inv C.w0 C.I0 C.L0 J (M' ++ N) W2 := by
  refine ⟨hi2.os.trans hi.os, hi2.tape.trans hi.tape, hi2.output.trans hi.output, Nat.le_trans hi.size hi2.size, ?_, ⟨hi2.fits.imm, ?_, ?_, ?_⟩, hi.ext.trans hi2.ext, ?_, ?_⟩
  ·intro c hc hcL
   rw [hi2.old c (Nat.lt_of_lt_of_le hc hi.size) ?_, hi.old c hc hcL]
   intro hm
   obtain ⟨⟨c', p⟩, hm', rfl⟩ := List.mem_map.1 hm
   rcases hi'.newL c' p (List.mem_append_left _ hm') with h | h
   ·exact absurd hc (Nat.not_lt.2 h)
   ·exact hcL h
  ·intro c p hm
   rcases List.mem_append.1 hm with hm | hm
   ·exact hi2.fits.own c p hm
   ·exact hN c p hm
  ·intro c p hm
   rcases List.mem_append.1 hm with hm | hm
   ·exact hi2.fits.sep c p hm
   ·cases hJ : J c with
    | none => rfl
    | some q =>
     rcases hi2.newI c q hJ with h | h | h
     ·have := hi'.fits.sep c p (List.mem_append_right _ hm); rw [this] at h; cases h
     ·exact absurd (hltW c p (List.mem_append_right _ hm)) (Nat.not_lt.2 h)
     ·exact absurd h (hNM c p hm)
  ·rw [List.map_append, List.nodup_append]
   refine ⟨hi2.fits.nd, hnN, ?_⟩
   intro c hc c' hc' heq
   subst heq
   obtain ⟨⟨c1, p⟩, hm, rfl⟩ := List.mem_map.1 hc
   obtain ⟨⟨c2, q⟩, hm2, heq2⟩ := List.mem_map.1 hc'
   simp only at heq2
   subst heq2
   rcases hi2.newL c2 p hm with h | h
   ·exact absurd (hltW c2 q (List.mem_append_right _ hm2)) (Nat.not_lt.2 h)
   ·exact hNM c2 q hm2 h
  ·intro c p hJ
   rcases hi2.newI c p hJ with h | h | h
   ·exact hi.newI c p h
   ·exact .inr (.inl (Nat.le_trans hi.size h))
   ·obtain ⟨⟨c', q⟩, hm', rfl⟩ := List.mem_map.1 h
    exact .inr (hi'.newL c' q (List.mem_append_left _ hm'))
  ·intro c p hm
   rcases List.mem_append.1 hm with hm | hm
   ·rcases hi2.newL c p hm with h | h
    ·exact .inl (Nat.le_trans hi.size h)
    ·obtain ⟨⟨c', q⟩, hm', rfl⟩ := List.mem_map.1 h
     exact hi'.newL c' q (List.mem_append_left _ hm')
   ·exact hi'.newL c p (List.mem_append_right _ hm)
 exact ⟨v, M' ++ N, J, rfl, hinv, next v J M' hi2.ext hR'⟩
theorem Ops.callW {f : FuncId} {args : List Value} {M N : Own} {R : Value -> Imm -> Own -> Prop} (hg : want env ops o.guard = some true) (hd : ∀ t, o.dst = some t -> t < n)
  (h : ∀ a W, EnvOk n env a -> (execOp a.eval o).run P W = .ok (.enter f args.toArray) W) (hL : L.Perm (M ++ N)) (hs : Spec P f args I M R)
  (next : ∀ v J M', Le I J -> R v J M' -> Ops P n C ops (i + 1) l k (V.put env o.dst v) (M' ++ N) J) : Ops P n C ops i (o :: l) k env L I := Ops.eff hg hd (Eff.callW h hL hs next)
theorem Ops.off (hg : want env ops o.guard = some false) (hd : ∀ t, o.dst = some t -> t < n)
  (next : Ops P n C ops (i + 1) l k (V.put env o.dst undef) L I) : Ops P n C ops i (o :: l) k env L I := by
 intro hl
 obtain ⟨ho, hl'⟩ := Ops.head hl
 intro b a cs W hb hk he hi
 have hw := want_spec he hg
 have hs := step_op_skip (P := P) (b := b) (a := a) (k := k) (cs := cs) (w := W) (ops := ops) (i := i) (rest := List.range' (i + 1) l.length) (by simp [ho, hw])
 simp only [ho, Option.bind_some] at hs
 obtain ⟨e, W', fr, h1, h2, h3⟩ := next hl' b _ cs W hb hk (he.put hd) hi
 refine ⟨e, W', fr, h1, Comes.of_steps (.one ?_) h2, h3⟩
 simpa [List.range'_succ] using hs
end
end Go.V
namespace Go.V
def str (l : List UInt8) : Value := .string ⟨l.toArray⟩
def opnd (env : Env) : Operand -> Option Value
 | .tmp t => look env t
 | .const v => some v
 | .global g => some (.pointer (some ⟨g, 0, none⟩))
 | .func f => some (.func (.func f) #[] #[])
def opnds (env : Env) : List Operand -> Option (List Value)
 | [] => some []
 | x :: r => match opnd env x, opnds env r with
  | some v, some vs => some (v :: vs)
  | _, _ => none
def blk (cs : List Value) (t : TypeId) : Obj := .cells cs.toArray t (0, 0)
theorem str_size (l : List UInt8) : (⟨l.toArray⟩ : ByteArray).size = l.length := by show l.toArray.size = _; simp
theorem ba_toList (s : ByteArray) : s.toList = s.data.toList := ByteArray.toList_eq s
theorem str_toList (l : List UInt8) : (⟨l.toArray⟩ : ByteArray).toList = l := by rw [ba_toList]
section
variable {P : Program} {n : Nat} {C : Cx} {k : List Item} {env : Env} {L : Own} {I : Imm} {ops : Array Oper} {i : Nat} {l : List Oper}
variable {ty : TypeId} {ps : String} {af : Array Edge} {g : Option (Nat × Bool)} {d : Nat}
theorem eval_opnd {a : Act} {x : Operand} {v : Value} (he : EnvOk n env a) (h : opnd env x = some v) : a.eval x = v := by
 cases x with
 | tmp t => simp only [Act.eval]; exact he.getD h
 | const c => simpa [opnd, Act.eval] using h
 | global g => simpa [opnd, Act.eval] using h
 | func f => simpa [opnd, Act.eval] using h
theorem eval_opnds {a : Act} (he : EnvOk n env a) : ∀ {xs : List Operand} {vs : List Value}, opnds env xs = some vs -> xs.map a.eval = vs
 | [], vs, h => by simp [opnds] at h; simp [h]
 | x :: r, vs, h => by
  simp only [opnds] at h
  split at h
  ·rename_i v ws h1 h2
   cases h
   simp [eval_opnd he h1, eval_opnds he h2]
  ·cases h
theorem dOk {d n : Nat} (hd : d < n) : ∀ t, some d = some t -> t < n := fun _ h => by cases h; exact hd
theorem dNo {n : Nat} : ∀ t, (none : Option Nat) = some t -> t < n := fun _ h => by cases h
theorem run_eqGuard_int (op : BinOp) (t : TypeId) (x y : Operand) (k : IntKind) (a : Int) (b : Value) (w : World) : (eqGuard op t x y (.int k a) b).run P w = .ok () w := by
 unfold eqGuard; cases op <;> simp <;> rfl
theorem run_eqGuard_string (op : BinOp) (t : TypeId) (x y : Operand) (a : ByteArray) (b : Value) (w : World) : (eqGuard op t x y (.string a) b).run P w = .ok () w := by
 unfold eqGuard; cases op <;> simp <;> rfl
section
variable {x y : Operand} {kd : IntKind} {a b r : Int} {t t' : TypeId}
theorem Ops.add (hg : want env ops g = some true) (hd : d < n) (hx : opnd env x = some (.int kd a)) (hy : opnd env y = some (.int kd b)) (hr : kd.wrap (a + b) = r)
  (next : Ops P n C ops (i + 1) l k ((d, .int kd r) :: env) L I) : Ops P n C ops i (⟨some d, .binOp .add t x y t', ty, ps, af, g⟩ :: l) k env L I :=
 Ops.val hg (dOk hd) (fun c W he _ => by subst hr; simp [execOp, eval_opnd he hx, eval_opnd he hy, run_eqGuard_int, binOp, Op.intArith]) next
theorem Ops.sub (hg : want env ops g = some true) (hd : d < n) (hx : opnd env x = some (.int kd a)) (hy : opnd env y = some (.int kd b)) (hr : kd.wrap (a - b) = r)
  (next : Ops P n C ops (i + 1) l k ((d, .int kd r) :: env) L I) : Ops P n C ops i (⟨some d, .binOp .sub t x y t', ty, ps, af, g⟩ :: l) k env L I :=
 Ops.val hg (dOk hd) (fun c W he _ => by subst hr; simp [execOp, eval_opnd he hx, eval_opnd he hy, run_eqGuard_int, binOp, Op.intArith]) next
theorem Ops.eql (hg : want env ops g = some true) (hd : d < n) (hx : opnd env x = some (.int kd a)) (hy : opnd env y = some (.int kd b))
  (next : Ops P n C ops (i + 1) l k ((d, .bool (decide (a = b))) :: env) L I) : Ops P n C ops i (⟨some d, .binOp .eql t x y t', ty, ps, af, g⟩ :: l) k env L I :=
 Ops.val hg (dOk hd) (fun c W he _ => by simp [execOp, eval_opnd he hx, eval_opnd he hy, run_eqGuard_int, binOp, Op.intCmp]; rfl) next
theorem Ops.neq (hg : want env ops g = some true) (hd : d < n) (hx : opnd env x = some (.int kd a)) (hy : opnd env y = some (.int kd b))
  (next : Ops P n C ops (i + 1) l k ((d, .bool (!decide (a = b))) :: env) L I) : Ops P n C ops i (⟨some d, .binOp .neq t x y t', ty, ps, af, g⟩ :: l) k env L I :=
 Ops.val hg (dOk hd) (fun c W he _ => by simp [execOp, eval_opnd he hx, eval_opnd he hy, run_eqGuard_int, binOp, Op.intCmp]; rfl) next
theorem Ops.lss (hg : want env ops g = some true) (hd : d < n) (hx : opnd env x = some (.int kd a)) (hy : opnd env y = some (.int kd b))
  (next : Ops P n C ops (i + 1) l k ((d, .bool (decide (a < b))) :: env) L I) : Ops P n C ops i (⟨some d, .binOp .lss t x y t', ty, ps, af, g⟩ :: l) k env L I :=
 Ops.val hg (dOk hd) (fun c W he _ => by simp [execOp, eval_opnd he hx, eval_opnd he hy, run_eqGuard_int, binOp, Op.intCmp]) next
theorem Ops.leq (hg : want env ops g = some true) (hd : d < n) (hx : opnd env x = some (.int kd a)) (hy : opnd env y = some (.int kd b))
  (next : Ops P n C ops (i + 1) l k ((d, .bool (decide (a <= b))) :: env) L I) : Ops P n C ops i (⟨some d, .binOp .leq t x y t', ty, ps, af, g⟩ :: l) k env L I :=
 Ops.val hg (dOk hd) (fun c W he _ => by simp [execOp, eval_opnd he hx, eval_opnd he hy, run_eqGuard_int, binOp, Op.intCmp]) next
theorem Ops.gtr (hg : want env ops g = some true) (hd : d < n) (hx : opnd env x = some (.int kd a)) (hy : opnd env y = some (.int kd b))
  (next : Ops P n C ops (i + 1) l k ((d, .bool (decide (b < a))) :: env) L I) : Ops P n C ops i (⟨some d, .binOp .gtr t x y t', ty, ps, af, g⟩ :: l) k env L I :=
 Ops.val hg (dOk hd) (fun c W he _ => by simp [execOp, eval_opnd he hx, eval_opnd he hy, run_eqGuard_int, binOp, Op.intCmp]) next
theorem Ops.geq (hg : want env ops g = some true) (hd : d < n) (hx : opnd env x = some (.int kd a)) (hy : opnd env y = some (.int kd b))
  (next : Ops P n C ops (i + 1) l k ((d, .bool (decide (b <= a))) :: env) L I) : Ops P n C ops i (⟨some d, .binOp .geq t x y t', ty, ps, af, g⟩ :: l) k env L I :=
 Ops.val hg (dOk hd) (fun c W he _ => by simp [execOp, eval_opnd he hx, eval_opnd he hy, run_eqGuard_int, binOp, Op.intCmp]) next
end
section
variable {x y : Operand} {s u : List UInt8} {t t' : TypeId}
theorem Ops.lenStr {ts : TypeId} (hg : want env ops g = some true) (hd : d < n) (hu : ∀ w, (underlying ts).run P w = .ok .string w) (hx : opnd env x = some (str s))
  (next : Ops P n C ops (i + 1) l k ((d, .int .i64 s.length) :: env) L I) : Ops P n C ops i (⟨some d, .call ⟨.builtin .len, #[x], #[ts]⟩, ty, ps, af, g⟩ :: l) k env L I :=
 Ops.val hg (dOk hd) (fun c W he _ => by
  simp [execOp, resolve, invoke, builtin, Builtin.len_, eval_opnd he hx, hu, str, goInt, str_size]) next
theorem Ops.indexStr {ts : TypeId} {ix : Operand} {kd : IntKind} {j : Int} (hg : want env ops g = some true) (hd : d < n) (hu : ∀ w, (underlying ts).run P w = .ok .string w) (hx : opnd env x = some (str s)) (hi : opnd env ix = some (.int kd j))
  (h0 : 0 <= j) (h1 : j < s.length)
  (next : Ops P n C ops (i + 1) l k ((d, .int .u8 ((s.getD j.toNat 0).toNat : Int)) :: env) L I) : Ops P n C ops i (⟨some d, .index ts x ix, ty, ps, af, g⟩ :: l) k env L I :=
 Ops.val hg (dOk hd) (fun c W he _ => by
  have hj : j.toNat < s.length := by omega
  have : (⟨s.toArray⟩ : ByteArray)[j.toNat]? = some (s.getD j.toNat 0) := by
   rw [getElem?_pos (⟨s.toArray⟩ : ByteArray) j.toNat (by rw [str_size]; exact hj)]
   simp [List.getD_eq_getElem?_getD, hj, ByteArray.getElem_eq_getElem_data]
  simp [execOp, Instr.index, eval_opnd he hx, eval_opnd he hi, asIntOf, hu, str, h0, this]) next
theorem run_sliceBound {v : Value} {kd : IntKind} {j : Int} {y : Nat} {code : BoundsCode} (h : v = .int kd j) (h0 : 0 <= j) (h1 : j <= y) (w : World) : (Instr.sliceBound v y code).run P w = .ok j.toNat w := by
 subst h
 simp only [Instr.sliceBound, asIntOf, Sem.run_bind, Sem.run_pure, Result.andThen_ok]
 rw [if_pos ⟨h0, h1⟩]; rfl
theorem str_extract (s : List UInt8) (lo hi : Nat) : (⟨s.toArray⟩ : ByteArray).extract lo hi = ⟨((s.take hi).drop lo).toArray⟩ := by
 apply ByteArray.ext
 simp [ByteArray.data_extract, List.drop_take]
theorem Ops.sliceStr {ts : TypeId} {lo hi : Operand} {kd kd' : IntKind} {j m : Int} (hg : want env ops g = some true) (hd : d < n) (hu : ∀ w, (underlying ts).run P w = .ok .string w) (hx : opnd env x = some (str s))
  (hlo : opnd env lo = some (.int kd j)) (hhi : opnd env hi = some (.int kd' m)) (h0 : 0 <= j) (h1 : j <= m) (h2 : m <= s.length)
  (next : Ops P n C ops (i + 1) l k ((d, str ((s.take m.toNat).drop j.toNat)) :: env) L I) : Ops P n C ops i (⟨some d, .slice ts x (some lo) (some hi) none, ty, ps, af, g⟩ :: l) k env L I :=
 Ops.val hg (dOk hd) (fun c W he _ => by
  have hm := run_sliceBound (P := P) (v := .int kd' m) (y := s.length) (code := .sliceAlen) rfl (by omega) (by omega) W
  have hj := run_sliceBound (P := P) (v := .int kd j) (y := m.toNat) (code := .sliceB) rfl h0 (by omega) W
  simp [execOp, Instr.sliceAt, Instr.slice, Instr.sliceBounds, eval_opnd he hx, eval_opnd he hlo, eval_opnd he hhi, hu, str, str_size, hm, hj, str_extract]) next
theorem Ops.sliceStrLo {ts : TypeId} {lo : Operand} {kd : IntKind} {j : Int} (hg : want env ops g = some true) (hd : d < n) (hu : ∀ w, (underlying ts).run P w = .ok .string w) (hx : opnd env x = some (str s))
  (hlo : opnd env lo = some (.int kd j)) (h0 : 0 <= j) (h1 : j <= s.length)
  (next : Ops P n C ops (i + 1) l k ((d, str (s.drop j.toNat)) :: env) L I) : Ops P n C ops i (⟨some d, .slice ts x (some lo) none none, ty, ps, af, g⟩ :: l) k env L I :=
 Ops.val hg (dOk hd) (fun c W he _ => by
  have hj := run_sliceBound (P := P) (v := .int kd j) (y := s.length) (code := .sliceB) rfl h0 (by omega) W
  have ht : s.take s.length = s := List.take_length
  simp [execOp, Instr.sliceAt, Instr.slice, Instr.sliceBounds, eval_opnd he hx, eval_opnd he hlo, hu, str, str_size, hj, str_extract, ht]) next
theorem Ops.sliceStrHi {ts : TypeId} {hi : Operand} {kd : IntKind} {m : Int} (hg : want env ops g = some true) (hd : d < n) (hu : ∀ w, (underlying ts).run P w = .ok .string w) (hx : opnd env x = some (str s))
  (hhi : opnd env hi = some (.int kd m)) (h0 : 0 <= m) (h1 : m <= s.length)
  (next : Ops P n C ops (i + 1) l k ((d, str (s.take m.toNat)) :: env) L I) : Ops P n C ops i (⟨some d, .slice ts x none (some hi) none, ty, ps, af, g⟩ :: l) k env L I :=
 Ops.val hg (dOk hd) (fun c W he _ => by
  have hm := run_sliceBound (P := P) (v := .int kd m) (y := s.length) (code := .sliceAlen) rfl h0 (by omega) W
  simp [execOp, Instr.sliceAt, Instr.slice, Instr.sliceBounds, eval_opnd he hx, eval_opnd he hhi, hu, str, str_size, hm, str_extract]) next
theorem str_append (s u : List UInt8) : (⟨s.toArray⟩ : ByteArray) ++ (⟨u.toArray⟩ : ByteArray) = ⟨(s ++ u).toArray⟩ := by
 apply ByteArray.ext; simp [ByteArray.data_append]
theorem Ops.cat (hg : want env ops g = some true) (hd : d < n) (hx : opnd env x = some (str s)) (hy : opnd env y = some (str u)) (hlen : s.length + u.length <= 9223372036854775807)
  (next : Ops P n C ops (i + 1) l k ((d, str (s ++ u)) :: env) L I) : Ops P n C ops i (⟨some d, .binOp .add t x y t', ty, ps, af, g⟩ :: l) k env L I :=
 Ops.val hg (dOk hd) (fun c W he _ => by
  simp [execOp, eval_opnd he hx, eval_opnd he hy, str, run_eqGuard_string, binOp, Op.stringOp, str_size, str_append]; omega) next
theorem Ops.eqlStr (hg : want env ops g = some true) (hd : d < n) (hx : opnd env x = some (str s)) (hy : opnd env y = some (str u))
  (next : Ops P n C ops (i + 1) l k ((d, .bool (decide (s = u))) :: env) L I) : Ops P n C ops i (⟨some d, .binOp .eql t x y t', ty, ps, af, g⟩ :: l) k env L I :=
 Ops.val hg (dOk hd) (fun c W he _ => by
  have : (s == u) = decide (s = u) := by rw [Bool.eq_iff_iff]; simp
  simp [execOp, eval_opnd he hx, eval_opnd he hy, str, run_eqGuard_string, binOp, Op.stringOp, str_toList, this]) next
end
end
end Go.V
namespace Go.V
open Go.RowKit
section
variable {w0 : World} {I0 : Imm} {L0 : List Nat} {I : Imm} {L : Own} {W W' : World} {b : Nat} {o o' : Obj}
theorem Inv.new (h : Inv w0 I0 L0 I L W) (hos : W'.os = W.os) (ht : W'.tape = W.tape) (hout : W'.output = W.output) (hs : W.heap.size <= W'.heap.size)
  (hold : ∀ c, c < W.heap.size -> W'.heap[c]? = W.heap[c]?) (hb : W.heap.size <= b) (hn : W'.heap[b]? = some o) : Inv w0 I0 L0 I ((b, o) :: L) W' := by
 have hlt : ∀ c p, (c, p) ∈ L -> c < W.heap.size := fun c p hm => (Array.getElem?_eq_some_iff.1 (h.fits.own c p hm)).1
 have hlI : ∀ c p, I c = some p -> c < W.heap.size := fun c p hm => (Array.getElem?_eq_some_iff.1 (h.fits.imm c p hm)).1
 refine ⟨hos.trans h.os, ht.trans h.tape, hout.trans h.output, Nat.le_trans h.size hs, ?_, ⟨?_, ?_, ?_, ?_⟩, h.ext, h.newI, ?_⟩
 ·intro c hc hcL
  rw [hold c (Nat.lt_of_lt_of_le hc h.size)]; exact h.old c hc hcL
 ·intro c p hc
  rw [hold c (hlI c p hc)]; exact h.fits.imm c p hc
 ·intro c p hm
  rcases List.mem_cons.1 hm with hm | hm
  ·cases hm; exact hn
  ·rw [hold c (hlt c p hm)]; exact h.fits.own c p hm
 ·intro c p hm
  rcases List.mem_cons.1 hm with hm | hm
  ·cases hm
   cases hI : I b with
   | none => rfl
   | some q => exact absurd (hlI b q hI) (Nat.not_lt.2 hb)
  ·exact h.fits.sep c p hm
 ·rw [List.map_cons, List.nodup_cons]
  refine ⟨?_, h.fits.nd⟩
  intro hm
  obtain ⟨⟨c, p⟩, hm, heq⟩ := List.mem_map.1 hm
  have := hlt c p hm
  simp only at heq
  omega
 ·intro c p hm
  rcases List.mem_cons.1 hm with hm | hm
  ·cases hm; exact .inl (Nat.le_trans h.size hb)
  ·exact h.newL c p hm
theorem Inv.alloc (h : Inv w0 I0 L0 I L W) (o : Obj) : Inv w0 I0 L0 I ((W.heap.size, o) :: L) (W.alloc o) :=
 h.new rfl rfl rfl (by simp) (fun c hc => Below.heap_alloc W o c hc) (Nat.le_refl _) (heap_alloc_new W o)
theorem Inv.same (h : Inv w0 I0 L0 I L W) (hos : W'.os = W.os) (ht : W'.tape = W.tape) (hout : W'.output = W.output) (hh : W'.heap = W.heap) : Inv w0 I0 L0 I L W' :=
 ⟨hos.trans h.os, ht.trans h.tape, hout.trans h.output, by rw [hh]; exact h.size, fun c hc hcL => by rw [hh]; exact h.old c hc hcL,
  ⟨fun c p hc => by rw [hh]; exact h.fits.imm c p hc, fun c p hm => by rw [hh]; exact h.fits.own c p hm, h.fits.sep, h.fits.nd⟩, h.ext, h.newI, h.newL⟩
theorem Inv.drew (h : Inv w0 I0 L0 I L W) : Inv w0 I0 L0 I L W.drew := h.same rfl rfl rfl rfl
theorem Inv.upd (h : Inv w0 I0 L0 I ((b, o) :: L) W) (hos : W'.os = W.os) (ht : W'.tape = W.tape) (hout : W'.output = W.output) (hs : W.heap.size <= W'.heap.size)
  (hold : ∀ c, c < W.heap.size -> c ≠ b -> W'.heap[c]? = W.heap[c]?) (hn : W'.heap[b]? = some o') : Inv w0 I0 L0 I ((b, o') :: L) W' := by
 have hnd : b ∉ L.map Prod.fst /\ (L.map Prod.fst).Nodup := by simpa using h.fits.nd
 have hlt : ∀ c p, (c, p) ∈ (b, o) :: L -> c < W.heap.size := fun c p hm => (Array.getElem?_eq_some_iff.1 (h.fits.own c p hm)).1
 have hlI : ∀ c p, I c = some p -> c < W.heap.size := fun c p hm => (Array.getElem?_eq_some_iff.1 (h.fits.imm c p hm)).1
 have hbI := h.fits.sep b o List.mem_cons_self
 refine ⟨hos.trans h.os, ht.trans h.tape, hout.trans h.output, Nat.le_trans h.size hs, ?_, ⟨?_, ?_, ?_, ?_⟩, h.ext, h.newI, ?_⟩
 ·intro c hc hcL
  have hne : c ≠ b := fun e => by
   rcases h.newL b o List.mem_cons_self with hh | hh
   ·omega
   ·exact hcL (e ▸ hh)
  rw [hold c (Nat.lt_of_lt_of_le hc h.size) hne]; exact h.old c hc hcL
 ·intro c p hc
  have hne : c ≠ b := fun e => by rw [e, hbI] at hc; cases hc
  rw [hold c (hlI c p hc) hne]; exact h.fits.imm c p hc
 ·intro c p hm
  rcases List.mem_cons.1 hm with hm | hm
  ·cases hm; exact hn
  ·have hne : c ≠ b := fun e => hnd.1 (e ▸ List.mem_map.2 ⟨(c, p), hm, rfl⟩)
   rw [hold c (hlt c p (List.mem_cons_of_mem _ hm)) hne]; exact h.fits.own c p (List.mem_cons_of_mem _ hm)
 ·intro c p hm
  rcases List.mem_cons.1 hm with hm | hm
  ·cases hm; exact hbI
  ·exact h.fits.sep c p (List.mem_cons_of_mem _ hm)
 ·simpa using hnd
 ·intro c p hm
  rcases List.mem_cons.1 hm with hm | hm
  ·cases hm; exact h.newL b o List.mem_cons_self
  ·exact h.newL c p (List.mem_cons_of_mem _ hm)
theorem Inv.lt (h : Inv w0 I0 L0 I L W) (hm : (b, o) ∈ L) : b < W.heap.size := (Array.getElem?_eq_some_iff.1 (h.fits.own b o hm)).1
end
def upL (L : Own) (j : Nat) (o : Obj) : Own :=
 match L, j with
 | [], _ => []
 | (b, _) :: r, 0 => (b, o) :: r
 | x :: r, j + 1 => x :: upL r j o
theorem upL_perm : ∀ (L : Own) (j : Nat) (b : Nat) (o o' : Obj), L[j]? = some (b, o) -> ∃ R, L.Perm ((b, o) :: R) /\ (upL L j o').Perm ((b, o') :: R)
 | [], j, b, o, o', h => by simp at h
 | (c, p) :: r, 0, b, o, o', h => by
  simp at h; obtain ⟨rfl, rfl⟩ := h
  exact ⟨r, .refl _, .refl _⟩
 | x :: r, j + 1, b, o, o', h => by
  obtain ⟨R, h1, h2⟩ := upL_perm r j b o o' (by simpa using h)
  exact ⟨x :: R, (h1.cons x).trans (.swap _ _ _), (h2.cons x).trans (.swap _ _ _)⟩
theorem cell_blk {W : World} {b off : Nat} {cs : Array Value} {t : TypeId} {fr : Nat × Nat} (h : W.heap[b]? = some (.cells cs t fr)) : W.cell? ⟨b, off, none⟩ = cs[off]? := cell_of_row W b off cs t fr h
section
variable {P : Program} {n : Nat} {C : Cx} {k : List Item} {env : Env} {L : Own} {I : Imm} {ops : Array Oper} {i : Nat} {l : List Oper}
variable {ty : TypeId} {ps : String} {af : Array Edge} {g : Option (Nat × Bool)} {d : Nat}
theorem Ops.alloc {t : TypeId} {z : Value} {cs : List Value} (hg : want env ops g = some true) (hd : d < n) (hz : ∀ w, (zeroValue t).run P w = .ok z w) (hc : z.cells = cs.toArray)
  (next : ∀ b, Ops P n C ops (i + 1) l k ((d, .pointer (some ⟨b, 0, none⟩)) :: env) ((b, blk cs t) :: L) I) : Ops P n C ops i (⟨some d, .alloc t, ty, ps, af, g⟩ :: l) k env L I :=
 Ops.valW hg (dOk hd) fun a W he hi => ⟨.pointer (some ⟨W.heap.size, 0, none⟩), W.alloc (blk cs t), (W.heap.size, blk cs t) :: L, I,
  .inl (by
   have : ({ W with heap := W.heap.push (.cells cs.toArray t (0, 0)) } : World) = W.alloc (blk cs t) := rfl
   simp [execOp, Instr.alloc, hz, newVar, newRow, newObj, Sem.run, hc, this]; try rfl), hi.alloc _, next _⟩
theorem Ops.box {t : TypeId} {x : Operand} {z : Value} {cs : List Value} (hg : want env ops g = some true) (hd : d < n) (hx : opnd env x = some z) (hc : z.cells = cs.toArray)
  (next : ∀ b, Ops P n C ops (i + 1) l k ((d, .pointer (some ⟨b, 0, none⟩)) :: env) ((b, blk cs t) :: L) I) : Ops P n C ops i (⟨some d, .box t x, ty, ps, af, g⟩ :: l) k env L I :=
 Ops.valW hg (dOk hd) fun a W he hi => ⟨.pointer (some ⟨W.heap.size, 0, none⟩), W.alloc (blk cs t), (W.heap.size, blk cs t) :: L, I,
  .inl (by
   have : ({ W with heap := W.heap.push (.cells cs.toArray t (0, 0)) } : World) = W.alloc (blk cs t) := rfl
   simp [execOp, Instr.box, eval_opnd he hx, newVar, newRow, newObj, Sem.run, hc, this]; try rfl), hi.alloc _, next _⟩
theorem run_loadVar1 {t : TypeId} {b off : Nat} {v : Value} {W : World} (ha : ∀ w, (isAgg t).run P w = .ok false w) (hv : W.cell? ⟨b, off, none⟩ = some v) : (loadVar t ⟨b, off, none⟩).run P W = .ok v W := by
 simp [loadVar, ha, hv]
theorem add_off (b off j : Nat) : (⟨b, off, none⟩ : Addr).add j = ⟨b, off + j, none⟩ := by unfold Addr.add; split <;> simp_all
theorem run_loadVarN {t : TypeId} {b off m : Nat} {vs : List Value} {W : World} (ha : ∀ w, (isAgg t).run P w = .ok true w) (hs : ∀ w, (sizeOf t).run P w = .ok m w) (hm : vs.length = m)
  (hv : ∀ j v, vs[j]? = some v -> W.cell? ⟨b, off + j, none⟩ = some v) : (loadVar t ⟨b, off, none⟩).run P W = .ok (.agg vs.toArray) W := by
 have := run_loadCells_list (P := P) W ⟨b, off, none⟩ vs (fun j v h => by rw [add_off]; exact hv j v h)
 rw [hm] at this
 simp [loadVar, ha, hs, this]
theorem Ops.load {t : TypeId} {x : Operand} {b off : Nat} {v : Value} (j : Nat) {cs : List Value} {t' : TypeId} (hg : want env ops g = some true) (hd : d < n) (hx : opnd env x = some (.pointer (some ⟨b, off, none⟩)))
  (hL : L[j]? = some (b, blk cs t')) (ha : ∀ w, (isAgg t).run P w = .ok false w) (hv : cs[off]? = some v)
  (next : Ops P n C ops (i + 1) l k ((d, v) :: env) L I) : Ops P n C ops i (⟨some d, .load t x, ty, ps, af, g⟩ :: l) k env L I :=
 Ops.val hg (dOk hd) (fun a W he hi => by
  have hc : W.cell? ⟨b, off, none⟩ = some v := by rw [cell_blk (hi.fits.own b _ (List.mem_of_getElem? hL))]; simpa using hv
  simp [execOp, Instr.loadAt, Instr.sureAddr, eval_opnd he hx, run_loadVar1 ha hc]) next
theorem Ops.loadN {t : TypeId} {x : Operand} {b off m : Nat} {vs : List Value} (j : Nat) {cs : List Value} {t' : TypeId} (hg : want env ops g = some true) (hd : d < n) (hx : opnd env x = some (.pointer (some ⟨b, off, none⟩)))
  (hL : L[j]? = some (b, blk cs t')) (ha : ∀ w, (isAgg t).run P w = .ok true w) (hs : ∀ w, (sizeOf t).run P w = .ok m w) (hv : (cs.drop off).take m = vs) (hm : vs.length = m)
  (next : Ops P n C ops (i + 1) l k ((d, .agg vs.toArray) :: env) L I) : Ops P n C ops i (⟨some d, .load t x, ty, ps, af, g⟩ :: l) k env L I :=
 Ops.val hg (dOk hd) (fun a W he hi => by
  have hc : ∀ j v, vs[j]? = some v -> W.cell? ⟨b, off + j, none⟩ = some v := fun j v h => by
   rw [cell_blk (hi.fits.own b _ (List.mem_of_getElem? hL))]
   rw [<- hv, List.getElem?_take] at h
   split at h
   ·simpa using h
   ·cases h
  simp [execOp, Instr.loadAt, Instr.sureAddr, eval_opnd he hx, run_loadVarN ha hs hm hc]) next
def At (I : Imm) (b off : Nat) (vs : List Value) : Prop := ∃ cs t fr, I b = some (.cells cs t fr) /\ ∀ j v, vs[j]? = some v -> cs[off + j]? = some v
theorem At.mono {J : Imm} {b off : Nat} {vs : List Value} (h : At I b off vs) (hle : Le I J) : At J b off vs :=
 let ⟨cs, t, fr, h1, h2⟩ := h; ⟨cs, t, fr, hle _ _ h1, h2⟩
theorem At.cell {b off : Nat} {vs : List Value} {w0 : World} {I0 : Imm} {L0 : List Nat} {W : World} (h : At I b off vs) (hi : Inv w0 I0 L0 I L W) : ∀ j v, vs[j]? = some v -> W.cell? ⟨b, off + j, none⟩ = some v := by
 obtain ⟨cs, t, fr, h1, h2⟩ := h
 intro j v hv
 rw [cell_blk (hi.fits.imm b _ h1)]; exact h2 j v hv
theorem Ops.loadI {t : TypeId} {x : Operand} {b off : Nat} {v : Value} (hg : want env ops g = some true) (hd : d < n) (hx : opnd env x = some (.pointer (some ⟨b, off, none⟩)))
  (hA : At I b off [v]) (ha : ∀ w, (isAgg t).run P w = .ok false w)
  (next : Ops P n C ops (i + 1) l k ((d, v) :: env) L I) : Ops P n C ops i (⟨some d, .load t x, ty, ps, af, g⟩ :: l) k env L I :=
 Ops.val hg (dOk hd) (fun a W he hi => by
  have hc : W.cell? ⟨b, off, none⟩ = some v := by simpa using hA.cell hi 0 v rfl
  simp [execOp, Instr.loadAt, Instr.sureAddr, eval_opnd he hx, run_loadVar1 ha hc]) next
theorem Ops.loadIN {t : TypeId} {x : Operand} {b off m : Nat} {vs : List Value} (hg : want env ops g = some true) (hd : d < n) (hx : opnd env x = some (.pointer (some ⟨b, off, none⟩)))
  (hA : At I b off vs) (ha : ∀ w, (isAgg t).run P w = .ok true w) (hs : ∀ w, (sizeOf t).run P w = .ok m w) (hm : vs.length = m)
  (next : Ops P n C ops (i + 1) l k ((d, .agg vs.toArray) :: env) L I) : Ops P n C ops i (⟨some d, .load t x, ty, ps, af, g⟩ :: l) k env L I :=
 Ops.val hg (dOk hd) (fun a W he hi => by
  simp [execOp, Instr.loadAt, Instr.sureAddr, eval_opnd he hx, run_loadVarN ha hs hm (hA.cell hi)]) next
def setAt (cs : List Value) (off : Nat) (vs : List Value) : List Value := cs.take off ++ vs ++ cs.drop (off + vs.length)
def one (vs : List Value) : Bool := vs.all fun | .agg _ | .tuple _ => false | _ => true
theorem one_spec {vs : List Value} (h : one vs = true) : ∀ v ∈ vs, v.oneCell' = true := by
 intro v hv
 have := List.all_eq_true.1 h v hv
 cases v <;> first | rfl | (simp at this)
theorem Ops.store {t : TypeId} {x y : Operand} {b off m : Nat} {v : Value} (j : Nat) {cs vs cs' : List Value} {t' : TypeId} (hg : want env ops g = some true) (hx : opnd env x = some (.pointer (some ⟨b, off, none⟩))) (hy : opnd env y = some v)
  (hc : v.cells = vs.toArray) (hL : L[j]? = some (b, blk cs t')) (hs : ∀ w, (sizeOf t).run P w = .ok m w) (hm : vs.length = m) (hle : off + m <= cs.length) (h1 : one vs = true) (hcs : setAt cs off vs = cs')
  (next : Ops P n C ops (i + 1) l k env (upL L j (blk cs' t')) I) : Ops P n C ops i (⟨none, .store t x y, ty, ps, af, g⟩ :: l) k env L I :=
 Ops.valW hg dNo fun a W he hi => by
  obtain ⟨R, hp, hp'⟩ := upL_perm L j b (blk cs t') (blk cs' t') hL
  have hW := hi.fits.own b _ (List.mem_of_getElem? hL)
  have hr := run_storeCells_at P b off t' vs 0 cs.toArray W hW (by simp; omega) (one_spec h1)
  simp only [Nat.add_zero] at hr
  have hcs' : (cs.toArray.toList.take off ++ vs ++ cs.toArray.toList.drop (off + vs.length)).toArray = cs'.toArray := by rw [<- hcs]; rfl
  rw [hcs'] at hr
  refine ⟨undef, W.setRow b cs'.toArray, upL L j (blk cs' t'), I, .inr ⟨?_, rfl⟩, ?_, next⟩
  ·simp [execOp, Instr.storeAt, Instr.sureAddr, eval_opnd he hx, eval_opnd he hy, storeVar, hc, hs, hm, hr]
  ·exact ((hi.perm hp).upd (W' := W.setRow b cs'.toArray) rfl rfl rfl (by simp) (fun c _ hcb => setRow_other W b c _ hcb) (setRow_heap W b cs.toArray cs'.toArray t' _ hW)).perm hp'.symm
end
end Go.V
namespace Go.V
open Go.RowKit
structure Ty (α : Type) where
 size : Nat
 rel : Imm -> List Value -> α -> Prop
 len : ∀ {I cs x}, rel I cs x -> cs.length = size
 mono : ∀ {I J cs x}, rel I cs x -> Le I J -> rel J cs x
def tInt (kd : IntKind) : Ty Int := ⟨1, fun _ cs x => cs = [.int kd x], fun h => by subst h; rfl, fun h _ => h⟩
def tBool : Ty Bool := ⟨1, fun _ cs x => cs = [.bool x], fun h => by subst h; rfl, fun h _ => h⟩
def tStr : Ty (List UInt8) := ⟨1, fun _ cs x => cs = [str x], fun h => by subst h; rfl, fun h _ => h⟩
def tPair {α β : Type} (t : Ty α) (u : Ty β) : Ty (α × β) :=
 ⟨t.size + u.size, fun I cs x => ∃ c1 c2, cs = c1 ++ c2 /\ t.rel I c1 x.1 /\ u.rel I c2 x.2,
  fun ⟨c1, c2, h, h1, h2⟩ => by subst h; simp [t.len h1, u.len h2], fun ⟨c1, c2, h, h1, h2⟩ hle => ⟨c1, c2, h, t.mono h1 hle, u.mono h2 hle⟩⟩
def RowAt {α : Type} (t : Ty α) (I : Imm) (b off : Nat) (xs : List α) : Prop :=
 ∀ (i : Nat) x, xs[i]? = some x -> ∃ cs, t.rel I cs x /\ At I b (off + i * t.size) cs
theorem RowAt.mono {α : Type} {t : Ty α} {I J : Imm} {b off : Nat} {xs : List α} (h : RowAt t I b off xs) (hle : Le I J) : RowAt t J b off xs :=
 fun i x hx => let ⟨cs, h1, h2⟩ := h i x hx; ⟨cs, t.mono h1 hle, h2.mono hle⟩
def Sl {α : Type} (t : Ty α) (I : Imm) (v : Value) (xs : List α) : Prop :=
 ∃ A c, v = .slice A xs.length c /\ xs.length <= c /\ (xs = [] \/ ∃ b off, A = some ⟨b, off, none⟩ /\ RowAt t I b off xs)
theorem Sl.mono {α : Type} {t : Ty α} {I J : Imm} {v : Value} {xs : List α} (h : Sl t I v xs) (hle : Le I J) : Sl t J v xs :=
 let ⟨A, c, h1, h2, h3⟩ := h; ⟨A, c, h1, h2, h3.imp id fun ⟨b, off, h4, h5⟩ => ⟨b, off, h4, h5.mono hle⟩⟩
def tSl {α : Type} (t : Ty α) : Ty (List α) :=
 ⟨1, fun I cs xs => ∃ v, cs = [v] /\ Sl t I v xs, fun ⟨v, h, _⟩ => by subst h; rfl, fun ⟨v, h, k⟩ hle => ⟨v, h, k.mono hle⟩⟩
theorem Sl.nil {α : Type} (t : Ty α) (I : Imm) : Sl t I (.slice none 0 0) [] := ⟨none, 0, rfl, Nat.le_refl _, .inl rfl⟩
def Grows (e : TypeId) (size : Nat) (v : Value) (m : Nat) (xs : List Value) (M : Own) : Prop :=
 xs.length = m * size /\ ((v = .slice none 0 0 /\ m = 0 /\ M = []) \/
  ∃ b cap cur, v = .slice (some ⟨b, 0, none⟩) m cap /\ M = [(b, .cells cur e (0, 0))] /\ m <= cap /\ cur.size = cap * size /\ cur.toList.take (m * size) = xs)
theorem Grows.nil (e : TypeId) (size : Nat) : Grows e size (.slice none 0 0) 0 [] [] := ⟨by simp, .inl ⟨rfl, rfl, rfl⟩⟩
section
variable {P : Program} {n : Nat} {C : Cx} {k : List Item} {env : Env} {L : Own} {I : Imm} {ops : Array Oper} {i : Nat} {l : List Oper}
variable {ty : TypeId} {ps : String} {af : Array Edge} {g : Option (Nat × Bool)} {d : Nat}
theorem Ops.lenSl {α : Type} {t : Ty α} {x : Operand} {v : Value} {xs : List α} {ts : TypeId} {e : TypeId} (hs : Sl t I v xs) (hg : want env ops g = some true) (hd : d < n) (hx : opnd env x = some v) (hu : ∀ w, (underlying ts).run P w = .ok (.slice e) w)
  (next : Ops P n C ops (i + 1) l k ((d, .int .i64 xs.length) :: env) L I) : Ops P n C ops i (⟨some d, .call ⟨.builtin .len, #[x], #[ts]⟩, ty, ps, af, g⟩ :: l) k env L I := by
 obtain ⟨A, c, rfl, _⟩ := hs
 exact Ops.val hg (dOk hd) (fun a W he _ => by simp [execOp, resolve, invoke, builtin, Builtin.len_, eval_opnd he hx, hu, goInt]) next
theorem Ops.indexSl {α : Type} {t : Ty α} {x ix : Operand} {v : Value} {xs : List α} {kd : IntKind} {j : Int} {ts e : TypeId} (hs : Sl t I v xs) (hg : want env ops g = some true) (hd : d < n) (hx : opnd env x = some v) (hi : opnd env ix = some (.int kd j))
  (hu : ∀ w, (underlying ts).run P w = .ok (.slice e) w) (hz : ∀ w, (sizeOf e).run P w = .ok t.size w) (h0 : 0 <= j) (h1 : j < xs.length)
  (next : ∀ b off q cs, xs[j.toNat]? = some q -> t.rel I cs q -> At I b off cs -> Ops P n C ops (i + 1) l k ((d, .pointer (some ⟨b, off, none⟩)) :: env) L I) :
  Ops P n C ops i (⟨some d, .indexAddr ts x ix, ty, ps, af, g⟩ :: l) k env L I := by
 obtain ⟨A, c, rfl, _, h⟩ := hs
 rcases h with rfl | ⟨b, off, rfl, hrow⟩
 ·simp at h1; omega
 ·have hj : j.toNat < xs.length := by omega
  obtain ⟨cs, hr, hA⟩ := hrow j.toNat xs[j.toNat] (List.getElem?_eq_getElem hj)
  refine Ops.val (v := .pointer (some ⟨b, off + j.toNat * t.size, none⟩)) hg (dOk hd) (fun a W he _ => ?_) (next b _ _ cs (List.getElem?_eq_getElem hj) hr hA)
  simp [execOp, Instr.indexAt, eval_opnd he hx, eval_opnd he hi, asIntOf, hu, hz, h0, h1, add_off]
theorem run_sliceBounds {hi lo : Option Value} {len cap l h : Nat} {kd kd' : IntKind} (hh : hi = none /\ h = len \/ hi = some (.int kd h)) (hl : lo = none /\ l = 0 \/ lo = some (.int kd' l)) (h1 : h <= cap) (h2 : l <= h) (w : World) :
  (Instr.sliceBounds true len cap lo hi none).run P w = .ok (l, h, cap) w := by
 rcases hh with ⟨rfl, rfl⟩ | rfl <;> rcases hl with ⟨rfl, rfl⟩ | rfl
 ·simp [Instr.sliceBounds]
 ·have := run_sliceBound (P := P) (v := .int kd' l) (y := h) (code := .sliceB) rfl (by omega) (by omega) w
  simp [Instr.sliceBounds, this]
 ·have := run_sliceBound (P := P) (v := .int kd h) (y := cap) (code := .sliceAcap) rfl (by omega) (by omega) w
  simp [Instr.sliceBounds, this]
 ·have hA := run_sliceBound (P := P) (v := .int kd h) (y := cap) (code := .sliceAcap) rfl (by omega) (by omega) w
  have hB := run_sliceBound (P := P) (v := .int kd' l) (y := h) (code := .sliceB) rfl (by omega) (by omega) w
  simp [Instr.sliceBounds, hA, hB]
def parts (env : Env) : List (Nat × Operand) -> Option (List (Nat × Value))
 | [] => some []
 | (j, x) :: r => match opnd env x, parts env r with
  | some v, some vs => some ((j, v) :: vs)
  | _, _ => none
theorem parts_spec {a : Act} (he : EnvOk n env a) : ∀ {xs : List (Nat × Operand)} {vs : List (Nat × Value)}, parts env xs = some vs -> xs.map (fun (p : Nat × Operand) => (p.1, a.eval p.2)) = vs
 | [], vs, h => by simp [parts] at h; simp [h]
 | (j, x) :: r, vs, h => by
  simp only [parts] at h
  split at h
  ·rename_i v ws h1 h2
   cases h
   simp [eval_opnd he h1, parts_spec he h2]
  ·cases h
theorem Ops.build {t : TypeId} {xs : List (Nat × Operand)} {vs : List (Nat × Value)} {pl : Nat -> Option (Nat × Nat)} {z : Array Value} {cs : List Value}
  (hb : ∀ w ps cells, Instr.fill pl z ps = some cells -> (Instr.build t ps.toArray).run P w = .ok (.agg cells) w) (hg : want env ops g = some true) (hd : d < n)
  (hx : parts env xs = some vs) (hf : Instr.fill pl z vs = some cs.toArray)
  (next : Ops P n C ops (i + 1) l k ((d, .agg cs.toArray) :: env) L I) : Ops P n C ops i (⟨some d, .build t xs.toArray, ty, ps, af, g⟩ :: l) k env L I :=
 Ops.val hg (dOk hd) (fun a W he _ => by
  have h := hb W vs cs.toArray hf
  rw [<- parts_spec he hx] at h
  simp only [execOp, List.map_toArray, Sem.run_bind]
  have hm : (List.map (fun (x : Nat × Operand) => match x with | (i, x) => (i, a.eval x)) xs) = xs.map (fun (p : Nat × Operand) => (p.1, a.eval p.2)) := rfl
  rw [hm, h]; rfl) next
theorem Ops.buildSlice {t e : TypeId} {len size : Nat} {xs : List (Nat × Operand)} {vs : List (Nat × Value)} {z : Value} {cs : List Value}
  (hu : ∀ w, (underlying t).run P w = .ok (.slice e) w) (hz : ∀ w, (zeroValue e).run P w = .ok z w) (hs : ∀ w, (sizeOf e).run P w = .ok size w) (hg : want env ops g = some true) (hd : d < n)
  (hlen : len * size <= 16777216) (hx : parts env xs = some vs) (hf : Instr.fill (fun i => some (i * size, size)) ((Array.range (len * size)).map (z.cells[· % z.cells.size]!)) vs = some cs.toArray)
  (next : ∀ b, Ops P n C ops (i + 1) l k ((d, .slice (some ⟨b, 0, none⟩) len len) :: env) ((b, blk cs e) :: L) I) : Ops P n C ops i (⟨some d, .buildSlice t len xs.toArray, ty, ps, af, g⟩ :: l) k env L I :=
 Ops.valW hg (dOk hd) fun a W he hi => ⟨.slice (some ⟨W.heap.size, 0, none⟩) len len, W.alloc (blk cs e), (W.heap.size, blk cs e) :: L, I,
  .inl (by
   have h1 : ¬ (len * size > 2 ^ 24) := by omega
   have h2 := parts_spec he hx
   have hmap : (List.map (fun (x : Nat × Operand) => match x with | (i, x) => (i, a.eval x)) xs) = vs := h2
   simp only [execOp, Instr.buildSlice, Sem.run_bind, hu, hs, Result.andThen_ok, h1, if_false, List.map_toArray, hmap, pure_bind, Sem.run_pure]
   by_cases h0 : len * size = 0
   ·rw [if_pos h0]
    have hf' : Instr.fill (fun i => some (i * size, size)) ((Array.range (len * size)).map ((#[] : Array Value)[· % (#[] : Array Value).size]!)) vs = some cs.toArray := by
     have e : ∀ f : Nat -> Value, (Array.range 0).map f = #[] := fun f => by simp
     rw [h0, e] at hf ⊢; exact hf
    simp only [hf']
    rfl
   ·rw [if_neg h0]
    simp only [Sem.run_bind, hz, Result.andThen_ok, hf]
    rfl), hi.alloc _, next _⟩
structure Elem (P : Program) (ts e : TypeId) (size bytes : Nat) : Prop where
 under : P.underlying ts = some (.slice e)
 info : ∃ i z, P.info? e = some i /\ i.zero = some z /\ i.size = size /\ i.bytes = bytes /\ z.cells.size = size
theorem nextcap_le (need cap : Nat) (h : cap < need) : Builtin.nextslicecap need cap <= 2 * need + 512 := by
 unfold Builtin.nextslicecap
 split
 ·omega
 ·split
  ·omega
  ·have hg : ∀ r c, c <= 2 * need + 512 -> Builtin.growBy need r c <= 2 * need + 512 := by
    intro r
    induction r with
    | zero => intro c hc; simpa [Builtin.growBy] using hc
    | succ r ih =>
     intro c hc
     simp only [Builtin.growBy]
     split
     ·exact hc
     ·exact ih _ (by omega)
   exact hg 4 cap (by omega)
theorem run_append_grows {ts tx e : TypeId} {size bytes : Nat} (hE : Elem P ts e size bytes) {W : World} {w0 : World} {I0 : Imm} {L0 : List Nat} {M N : Own} {v x : Value} {m q : Nat} {xs news : List Value} (hi : Inv w0 I0 L0 I (M ++ N) W)
  (hG : Grows e size v m xs M) (hx : Src P size tx x q news W) (hbytes : (2 * (m + q) + 512) * bytes <= 281474976710656) (h63 : m + q <= 4611686018427387904) :
  ∃ v' W' M', (Builtin.append_ #[ts, tx] ty #[v, x]).run P W = .ok v' W' /\ Grows e size v' (m + q) (xs ++ news) M' /\ Inv w0 I0 L0 I (M' ++ N) W' := by
 obtain ⟨iE, z, hinfo, hzero, rfl, rfl, hzs⟩ := hE.info
 have hlen : (xs ++ news).length = (m + q) * iE.size := by rw [List.length_append, hG.1, hx.newsLen, Nat.add_mul]
 have grow : ∀ (base : Option Addr) (cap : Nat), v = .slice base m cap -> cap < m + q -> (Builtin.firstCells iE.size m (.slice base m cap)).run P W.drew = .ok xs.toArray W.drew -> M.length <= 1 ->
   ∃ v' W' M', (Builtin.append_ #[ts, tx] ty #[v, x]).run P W = .ok v' W' /\ Grows e iE.size v' (m + q) (xs ++ news) M' /\ Inv w0 I0 L0 I (M' ++ N) W' := by
  intro base cap hv hcap hold hM
  have hr := run_append_grow_src (P := P) W ts tx ty e iE z hE.under hinfo hzero base m cap xs hold x q news hx hcap (by omega)
   (Nat.le_trans (Nat.mul_le_mul_right _ (nextcap_le _ _ hcap)) hbytes)
  subst hv
  have hge := grownCap_ge W (m + q) cap e
  refine ⟨_, _, [(W.heap.size, .cells ((xs ++ news).toArray ++ Builtin.zeroCells z.cells (grownCap W (m + q) cap e - (m + q))) e (0, 0))], hr, ⟨hlen, .inr ⟨W.heap.size, _, _, rfl, rfl, hge, ?_, ?_⟩⟩, ?_⟩
  ·simp only [Array.size_append, List.size_toArray, size_zeroCells, hzs, hlen, <- Nat.add_mul]
   congr 1
   omega
  ·simp only [Array.toList_append]
   rw [<- hlen]
   exact List.take_left
  ·have h1 : Inv w0 I0 L0 I N W := hi.weakenL (List.sublist_append_right _ _)
   have h2 := h1.drew.alloc (.cells ((xs ++ news).toArray ++ Builtin.zeroCells z.cells (grownCap W (m + q) cap e - (m + q))) e (0, 0))
   exact h2
 rcases hG.2 with ⟨rfl, rfl, rfl⟩ | ⟨b, cap, cur, rfl, rfl, hmc, hcs, htake⟩
 ·have hxs : xs = [] := List.eq_nil_of_length_eq_zero (by simpa using hG.1)
  subst hxs
  by_cases hq : q = 0
  ·subst hq
   have hnews : news = [] := List.eq_nil_of_length_eq_zero (by simpa using hx.newsLen)
   subst hnews
   refine ⟨.slice none 0 0, W, [], ?_, Grows.nil e _, hi⟩
   rcases hx.kind with ⟨e', hk⟩ | hk <;>
    simp [Builtin.append_, run_underlying hE.under, run_underlying hk, sizeOf, typeInfo, hinfo, hx.len, hx.cells]
  ·exact grow none 0 rfl (by omega) (by simp [Builtin.firstCells]) (by simp)
 ·have hW := hi.fits.own b _ (List.mem_append_left _ (List.mem_singleton.2 rfl))
  by_cases hroom : m + q <= cap
  ·have hfit : m * iE.size + news.length <= cur.size := by rw [hx.newsLen, hcs, <- Nat.add_mul]; exact Nat.mul_le_mul_right _ hroom
   have hr := run_append_room_src (P := P) W ts tx ty e iE hE.under hinfo b 0 m cap x q news hx hroom
    (fun j hj => by rw [cell_blk hW]; simp; omega) (fun j hj => by simp [World.frozen?, hW])
   have hst := run_storeCells_at P b (m * iE.size) e news 0 cur W hW (by simpa using hfit) hx.one
   have hst2 := run_storeCells_cells (P := P) b (m * iE.size) news 0 W (fun j hj => by rw [cell_blk hW]; simp; omega) (fun j hj => by simp [World.frozen?, hW]) hx.one
   rw [hst] at hst2
   simp only [Nat.add_zero, Nat.zero_add] at hst2 hr
   have hw : W.setCells b (m * iE.size) news = W.setRow b (cur.toList.take (m * iE.size) ++ news ++ cur.toList.drop (m * iE.size + news.length)).toArray := by
    injection hst2 with _ h; exact h.symm
   rw [hw] at hr
   refine ⟨_, _, [(b, .cells (cur.toList.take (m * iE.size) ++ news ++ cur.toList.drop (m * iE.size + news.length)).toArray e (0, 0))], hr, ⟨hlen, .inr ⟨b, cap, _, rfl, rfl, hroom, ?_, ?_⟩⟩, ?_⟩
   ·simp only [List.size_toArray, List.length_append, List.length_take, List.length_drop, Array.length_toList]
    omega
   ·rw [htake, <- hlen]
    exact List.take_left
   ·exact hi.upd rfl rfl rfl (by simp) (fun c _ hcb => setRow_other W b c _ hcb) (setRow_heap W b cur _ e _ hW)
  ·refine grow (some ⟨b, 0, none⟩) cap rfl (by omega) ?_ (by simp)
   have hl := run_firstCells_some (P := P) W.drew iE.size m ⟨b, 0, none⟩ m cap xs hG.1 (fun j u hu => by
    rw [add_off, World.cell?_drew, cell_blk hW]
    rw [<- htake, List.getElem?_take] at hu
    split at hu
    ·simpa using hu
    ·cases hu)
   exact hl
theorem Ops.append {s x : Operand} {ts tx e : TypeId} {size bytes : Nat} {M N : Own} {v xv : Value} {m q : Nat} {xs news : List Value} (hE : Elem P ts e size bytes) (hg : want env ops g = some true) (hd : d < n)
  (hs : opnd env s = some v) (hx : opnd env x = some xv) (hL : L.Perm (M ++ N)) (hG : Grows e size v m xs M)
  (hsrc : ∀ W, Inv C.w0 C.I0 C.L0 I L W -> Src P size tx xv q news W) (hbytes : (2 * (m + q) + 512) * bytes <= 281474976710656) (h63 : m + q <= 4611686018427387904)
  (next : ∀ v' M', Grows e size v' (m + q) (xs ++ news) M' -> Ops P n C ops (i + 1) l k ((d, v') :: env) (M' ++ N) I) :
  Ops P n C ops i (⟨some d, .call ⟨.builtin .append, #[s, x], #[ts, tx]⟩, ty, ps, af, g⟩ :: l) k env L I :=
 Ops.valW hg (dOk hd) fun a W he hi => by
  obtain ⟨v', W', M', hr, hG', hi'⟩ := run_append_grows (P := P) (ty := ty) hE (hi.perm hL) hG (hsrc W hi) hbytes h63
  refine ⟨v', W', M' ++ N, I, .inl ?_, hi', next v' M' hG'⟩
  simp [execOp, resolve, invoke, builtin, eval_opnd he hs, eval_opnd he hx, hr]
theorem Ops.appendLit {s x : Operand} {ts e : TypeId} {size bytes b q c : Nat} {M N : Own} {v : Value} {m : Nat} {xs news : List Value} (hE : Elem P ts e size bytes) (hg : want env ops g = some true) (hd : d < n)
  (hs : opnd env s = some v) (hx : opnd env x = some (.slice (some ⟨b, 0, none⟩) q c)) (hL : L = (b, blk news e) :: (M ++ N)) (hG : Grows e size v m xs M) (hq : news.length = q * size) (h1 : one news = true)
  (hbytes : (2 * (m + q) + 512) * bytes <= 281474976710656) (h63 : m + q <= 4611686018427387904)
  (next : ∀ v' M', Grows e size v' (m + q) (xs ++ news) M' -> Ops P n C ops (i + 1) l k ((d, v') :: env) (M' ++ N) I) :
  Ops P n C ops i (⟨some d, .call ⟨.builtin .append, #[s, x], #[ts, ts]⟩, ty, ps, af, g⟩ :: l) k env L I := by
 subst hL
 refine Ops.valW hg (dOk hd) fun a W he hi => ?_
 have hW := hi.fits.own b _ List.mem_cons_self
 have hsrc : Src P size ts (.slice (some ⟨b, 0, none⟩) q c) q news W := Src.ofSlice W hE.under ⟨b, 0, none⟩ q c news hq
  (fun j u hu => by rw [add_off, cell_blk hW]; simpa using hu) (one_spec h1)
 obtain ⟨v', W', M', hr, hG', hi'⟩ := run_append_grows (P := P) (ty := ty) hE (hi.weakenL (List.sublist_cons_self _ _)) hG hsrc hbytes h63
 refine ⟨v', W', M' ++ N, I, .inl ?_, hi', next v' M' hG'⟩
 simp [execOp, resolve, invoke, builtin, eval_opnd he hs, eval_opnd he hx, hr]
def Cells {α : Type} (t : Ty α) (I : Imm) (cs : List Value) (xs : List α) : Prop := ∃ css : List (List Value), cs = css.flatten /\ css.length = xs.length /\ ∀ (i : Nat) x c, xs[i]? = some x -> css[i]? = some c -> t.rel I c x
theorem Cells.mono {α : Type} {t : Ty α} {I J : Imm} {cs : List Value} {xs : List α} (h : Cells t I cs xs) (hle : Le I J) : Cells t J cs xs :=
 let ⟨css, h1, h2, h3⟩ := h; ⟨css, h1, h2, fun i x c hx hc => t.mono (h3 i x c hx hc) hle⟩
theorem Cells.nil {α : Type} (t : Ty α) (I : Imm) : Cells t I [] [] := ⟨[], rfl, rfl, fun i x c hx => by simp at hx⟩
theorem Cells.append {α : Type} {t : Ty α} {I : Imm} {cs ds : List Value} {xs ys : List α} (h : Cells t I cs xs) (k : Cells t I ds ys) : Cells t I (cs ++ ds) (xs ++ ys) := by
 obtain ⟨css, rfl, h2, h3⟩ := h
 obtain ⟨dss, rfl, k2, k3⟩ := k
 refine ⟨css ++ dss, by simp, by simp [h2, k2], ?_⟩
 intro i x c hx hc
 by_cases hi : i < xs.length
 ·rw [List.getElem?_append_left hi] at hx
  rw [List.getElem?_append_left (by omega)] at hc
  exact h3 i x c hx hc
 ·rw [List.getElem?_append_right (by omega)] at hx
  rw [List.getElem?_append_right (by omega), h2] at hc
  exact k3 _ x c hx hc
theorem Cells.one {α : Type} {t : Ty α} {I : Imm} {c : List Value} {x : α} (h : t.rel I c x) : Cells t I c [x] :=
 ⟨[c], by simp, rfl, fun i y d hy hd => by
  cases i with
  | zero => simp at hy hd; subst hy; subst hd; exact h
  | succ i => simp at hy⟩
theorem flatten_at (css : List (List Value)) (s : Nat) (hs : ∀ c ∈ css, c.length = s) : ∀ (i : Nat) c, css[i]? = some c -> ∀ (j : Nat) v, c[j]? = some v -> css.flatten[i * s + j]? = some v := by
 induction css with
 | nil => intro i c h; simp at h
 | cons a r ih =>
  intro i c h j v hv
  have ha := hs a List.mem_cons_self
  have hjs : j < c.length := (List.getElem?_eq_some_iff.1 hv).1
  cases i with
  | zero =>
   simp at h; subst h
   simp only [List.flatten_cons, Nat.zero_mul, Nat.zero_add]
   rw [List.getElem?_append_left hjs]; exact hv
  | succ i =>
   have hr := ih (fun c hc => hs c (List.mem_cons_of_mem _ hc)) i c (by simpa using h) j v hv
   simp only [List.flatten_cons]
   rw [List.getElem?_append_right (by rw [ha, Nat.add_mul]; omega), ha]
   have : (i + 1) * s + j - s = i * s + j := by rw [Nat.add_mul]; omega
   rw [this]; exact hr
theorem Cells.sizes {α : Type} {t : Ty α} {I : Imm} {css : List (List Value)} {xs : List α} (h2 : css.length = xs.length) (h3 : ∀ (i : Nat) x c, xs[i]? = some x -> css[i]? = some c -> t.rel I c x) : ∀ c ∈ css, c.length = t.size := by
 intro c hc
 obtain ⟨i, hi⟩ := List.getElem?_of_mem hc
 have hlt : i < xs.length := by rw [<- h2]; exact (List.getElem?_eq_some_iff.1 hi).1
 exact t.len (h3 i _ c (List.getElem?_eq_getElem hlt) hi)
def Gr {α : Type} (t : Ty α) (I : Imm) (e : TypeId) (v : Value) (xs : List α) (M : Own) : Prop := ∃ cs, Grows e t.size v xs.length cs M /\ Cells t I cs xs
theorem Gr.mono {α : Type} {t : Ty α} {I J : Imm} {e : TypeId} {v : Value} {xs : List α} {M : Own} (h : Gr t I e v xs M) (hle : Le I J) : Gr t J e v xs M := let ⟨cs, h1, h2⟩ := h; ⟨cs, h1, h2.mono hle⟩
theorem Gr.nil {α : Type} (t : Ty α) (I : Imm) (e : TypeId) : Gr t I e (.slice none 0 0) [] [] := ⟨[], Grows.nil e _, Cells.nil t I⟩
theorem Ops.appendOne {α : Type} {t : Ty α} {y : α} {s x : Operand} {ts e : TypeId} {bytes b : Nat} {M N : Own} {v : Value} {xs : List α} {news : List Value} (hE : Elem P ts e t.size bytes) (hG : Gr t I e v xs M) (hr : t.rel I news y) (hg : want env ops g = some true) (hd : d < n)
  (hs : opnd env s = some v) (hx : opnd env x = some (.slice (some ⟨b, 0, none⟩) 1 1)) (hL : L = (b, blk news e) :: (M ++ N)) (h1 : one news = true)
  (hbytes : (2 * (xs.length + 1) + 512) * bytes <= 281474976710656) (h63 : xs.length + 1 <= 4611686018427387904)
  (next : ∀ v' M', Gr t I e v' (xs ++ [y]) M' -> Ops P n C ops (i + 1) l k ((d, v') :: env) (M' ++ N) I) :
  Ops P n C ops i (⟨some d, .call ⟨.builtin .append, #[s, x], #[ts, ts]⟩, ty, ps, af, g⟩ :: l) k env L I := by
 obtain ⟨cs, hG1, hC⟩ := hG
 exact Ops.appendLit hE hg hd hs hx hL hG1 (by rw [t.len hr]; simp) h1 hbytes h63 fun v' M' h => next v' M' ⟨cs ++ news, by simpa using h, hC.append (Cells.one hr)⟩
theorem At.of_block {b off : Nat} {cs : Array Value} {t : TypeId} {fr : Nat × Nat} {vs : List Value} (h : I b = some (.cells cs t fr)) (hv : ∀ j v, vs[j]? = some v -> cs[off + j]? = some v) : At I b off vs := ⟨cs, t, fr, h, hv⟩
theorem Run.keepGr {α : Type} {t : Ty α} {e : TypeId} {v : Value} {xs : List α} {M N : Own} (hG : Gr t I e v xs M) (hL : L.Perm (M ++ N)) (h : ∀ J, Le I J -> Sl t J v xs -> Run P n C k env N J) : Run P n C k env L I := by
 refine Run.perm hL ?_
 obtain ⟨cs, ⟨hlen, hG1⟩, hC⟩ := hG
 rcases hG1 with ⟨rfl, h0, rfl⟩ | ⟨b, cap, cur, rfl, rfl, hmc, hcs, htake⟩
 ·have : xs = [] := List.eq_nil_of_length_eq_zero h0
  subst this
  exact h I (Le.refl I) (Sl.nil t I)
 ·refine Run.freeze fun J hle hJ => h J hle ⟨_, _, rfl, hmc, ?_⟩
  right
  refine ⟨b, 0, rfl, ?_⟩
  intro i x hx
  obtain ⟨css, rfl, h2, h3⟩ := hC
  have hi : i < css.length := by rw [h2]; exact (List.getElem?_eq_some_iff.1 hx).1
  have hc := List.getElem?_eq_getElem hi
  refine ⟨css[i], t.mono (h3 i x _ hx hc) hle, At.of_block hJ ?_⟩
  intro j u hu
  have := flatten_at css t.size (Cells.sizes h2 h3) i _ hc j u hu
  rw [<- htake, List.getElem?_take] at this
  split at this
  ·simpa using this
  ·cases this
theorem Gr.sl {α : Type} {t : Ty α} {e : TypeId} {v : Value} {xs : List α} {M : Own} (hG : Gr t I e v xs M) : v = .slice none 0 0 /\ xs = [] \/ ∃ b cap, v = .slice (some ⟨b, 0, none⟩) xs.length cap := by
 obtain ⟨cs, ⟨hlen, hG1⟩, hC⟩ := hG
 rcases hG1 with ⟨rfl, h0, rfl⟩ | ⟨b, cap, cur, rfl, rfl, hmc, hcs, htake⟩
 ·exact .inl ⟨rfl, List.eq_nil_of_length_eq_zero h0⟩
 ·exact .inr ⟨b, cap, rfl⟩
end
end Go.V
namespace Go.V
open Go.RowKit
structure Tab (P : Program) where
 und : Nat -> Option TypeDesc
 size : Nat -> Option Nat
 agg : Nat -> Option Bool
 zero : Nat -> Option Value
 undOk : ∀ {t u}, und t = some u -> ∀ w, (underlying t).run P w = .ok u w
 sizeOk : ∀ {t m}, size t = some m -> ∀ w, (sizeOf t).run P w = .ok m w
 aggOk : ∀ {t b}, agg t = some b -> ∀ w, (isAgg t).run P w = .ok b w
 zeroOk : ∀ {t z}, zero t = some z -> ∀ w, (zeroValue t).run P w = .ok z w
def evalOp {P : Program} (T : Tab P) (env : Env) : Op -> Option Value
 | .move x => opnd env x
 | .assign x => opnd env x
 | .pick c x y => match opnd env c with
  | some (.bool true) => opnd env x
  | some (.bool false) => opnd env y
  | _ => none
 | .extract x ix => match opnd env x with
  | some (.tuple vs) => vs.toList[ix]?
  | _ => none
 | .nilCheck x => match opnd env x with
  | some (.pointer (some a)) => some (.pointer (some a))
  | some (.iface t v) => some (.iface t v)
  | _ => none
 | .unOp .not _ x => match opnd env x with
  | some (.bool b) => some (.bool (!b))
  | _ => none
 | .makeInterface t x => match T.und t, opnd env x with
  | some (.interface _), _ => none
  | some _, some v => some (.iface t v)
  | _, _ => none
 | .makeFunc fn fs cs => match opnds env fs.toList, opnds env cs.toList with
  | some vs, some ws => some (.func fn vs.toArray ws.toArray)
  | _, _ => none
 | .call ⟨.builtin .len, args, ts⟩ => match args.toList, ts.toList with
  | [x], [t] => match T.und t, opnd env x with
   | some (.slice _), some (.slice _ m _) => some (.int .i64 m)
   | _, _ => none
  | _, _ => none
 | .fieldAddr s x fl => match T.und s, opnd env x with
  | some (.struct fs), some (.pointer (some ⟨b, off, none⟩)) => match fs.toList[fl]? with
   | some f => match T.size f.type with
    | some (_ + 1) => some (.pointer (some ⟨b, off + f.offset, none⟩))
    | _ => none
   | none => none
  | _, _ => none
 | .field s x fl => match T.und s, opnd env x with
  | some (.struct fs), some (.agg cs) => match fs.toList[fl]? with
   | some f => match T.agg f.type with
    | some false => cs.toList[f.offset]?
    | _ => none
   | none => none
  | _, _ => none
 | _ => none
theorem evalOp_ok {P : Program} {T : Tab P} {n : Nat} {env : Env} {op : Op} {v : Value} (h : evalOp T env op = some v) {a : Act} (he : EnvOk n env a) (W : World) {dst : Option Tmp} {ty : TypeId} {ps : String} {af : Array Edge} {g : Option (Nat × Bool)} :
  (execOp a.eval ⟨dst, op, ty, ps, af, g⟩).run P W = .ok (.value v) W := by
 unfold evalOp at h
 split at h
 ·simp [execOp, eval_opnd he h]
 ·simp [execOp, eval_opnd he h]
 ·split at h
  ·rename_i hc; simp [execOp, eval_opnd he hc, asBool, eval_opnd he h]
  ·rename_i hc; simp [execOp, eval_opnd he hc, asBool, eval_opnd he h]
  ·cases h
 ·split at h
  ·rename_i hx; simp [execOp, eval_opnd he hx, Instr.extract]; simp at h; simp [h]
  ·cases h
 ·split at h
  ·rename_i hx; cases h; simp [execOp, eval_opnd he hx]
  ·rename_i hx; cases h; simp [execOp, eval_opnd he hx]
  ·cases h
 ·split at h
  ·rename_i hx; cases h; simp [execOp, eval_opnd he hx, Op.unary]
  ·cases h
 ·split at h
  ·cases h
  ·rename_i u v' hn hu hx
   cases h
   have := T.undOk hu W
   simp only [execOp, eval_opnd he hx, Instr.makeInterface, Sem.run_bind, this, Result.andThen_ok]
   cases u <;> first | exact absurd rfl (hn _) | rfl
  ·cases h
 ·rename_i fn fs cs
  split at h
  ·rename_i vs ws hf hc; cases h
   have h1 := eval_opnds he hf
   have h2 := eval_opnds he hc
   have e1 : fs.map a.eval = vs.toArray := by apply Array.ext'; simpa using h1
   have e2 : cs.map a.eval = ws.toArray := by apply Array.ext'; simpa using h2
   simp [execOp, Instr.makeFunc, e1, e2]
  ·cases h
 ·rename_i args ts
  split at h
  ·rename_i x t hx ht
   have e1 : args = #[x] := by rw [<- Array.toArray_toList (xs := args), hx]
   have e2 : ts = #[t] := by rw [<- Array.toArray_toList (xs := ts), ht]
   subst e1; subst e2
   split at h
   ·rename_i hu hv; cases h
    simp [execOp, resolve, invoke, builtin, Builtin.len_, eval_opnd he hv, T.undOk hu, goInt]
   ·cases h
  ·cases h
 ·split at h
  ·rename_i fs b off hu hx
   split at h
   ·rename_i f hf
    split at h
    ·rename_i m hm
     cases h
     simp at hf
     simp [execOp, Instr.fieldAt, Instr.sureAddr, eval_opnd he hx, T.undOk hu, hf, fieldPlace, T.sizeOk hm, add_off]
    ·cases h
   ·cases h
  ·cases h
 ·split at h
  ·rename_i fs cs hu hx
   split at h
   ·rename_i f hf
    split at h
    ·rename_i ha
     simp at hf h
     simp [execOp, Instr.field, eval_opnd he hx, T.undOk hu, hf, asAgg, part, T.aggOk ha, h]
    ·cases h
   ·cases h
  ·cases h
 ·cases h
section
variable {P : Program} {n : Nat} {C : Cx} {k : List Item} {env : Env} {L : Own} {I : Imm} {ops : Array Oper} {i : Nat} {l : List Oper}
variable {ty : TypeId} {ps : String} {af : Array Edge} {g : Option (Nat × Bool)} {d : Nat}
theorem Ops.pure (T : Tab P) {op : Op} {v : Value} (hg : want env ops g = some true) (hd : d < n) (h : evalOp T env op = some v)
  (next : Ops P n C ops (i + 1) l k ((d, v) :: env) L I) : Ops P n C ops i (⟨some d, op, ty, ps, af, g⟩ :: l) k env L I :=
 Ops.val hg (dOk hd) (fun a W he _ => evalOp_ok h he W) next
theorem Ops.not {op : Op} (hg : want env ops g = some false) (hd : d < n) (next : Ops P n C ops (i + 1) l k ((d, undef) :: env) L I) : Ops P n C ops i (⟨some d, op, ty, ps, af, g⟩ :: l) k env L I :=
 Ops.off hg (dOk hd) next
theorem Ops.lenS {x : Operand} {s : List UInt8} {ts : TypeId} (T : Tab P) (hg : want env ops g = some true) (hd : d < n) (hu : T.und ts = some .string) (hx : opnd env x = some (str s))
  (next : Ops P n C ops (i + 1) l k ((d, .int .i64 s.length) :: env) L I) : Ops P n C ops i (⟨some d, .call ⟨.builtin .len, #[x], #[ts]⟩, ty, ps, af, g⟩ :: l) k env L I :=
 Ops.lenStr hg hd (T.undOk hu) hx next
def Pure (P : Program) (f : FuncId) (args : List Value) (I : Imm) (R : Value -> Imm -> Prop) : Prop := Spec P f args I [] (fun v J M => M = [] /\ R v J)
theorem Pure.mono {f : FuncId} {args : List Value} {R R' : Value -> Imm -> Prop} (h : Pure P f args I R) (k : ∀ v J, Le I J -> R v J -> R' v J) : Pure P f args I R' :=
 Spec.mono h fun v J M hle ⟨h1, h2⟩ => ⟨h1, k v J hle h2⟩
theorem run_callF {f : FuncId} {xs : List Operand} {ats : Array TypeId} {vs : List Value} {a : Act} {W : World} {dst : Option Tmp} (hc : ∀ args w, (callFunc f args).run P w = .ok (.enter f args) w) (he : EnvOk n env a) (hx : opnds env xs = some vs) :
  (execOp a.eval ⟨dst, .call ⟨.value (.func f), xs.toArray, ats⟩, ty, ps, af, g⟩).run P W = .ok (.enter f vs.toArray) W := by
 have h := eval_opnds he hx
 simp [execOp, resolve, Act.eval, Deferred.ofValue, invoke, hc, h]
theorem Ops.call {f : FuncId} {xs : List Operand} {ats : Array TypeId} {vs : List Value} {R : Value -> Imm -> Prop} (hs : Pure P f vs I R) (hg : want env ops g = some true) (hd : d < n) (hc : ∀ args w, (callFunc f args).run P w = .ok (.enter f args) w)
  (hx : opnds env xs = some vs) (next : ∀ v J, Le I J -> R v J -> Ops P n C ops (i + 1) l k ((d, v) :: env) L J) :
  Ops P n C ops i (⟨some d, .call ⟨.value (.func f), xs.toArray, ats⟩, ty, ps, af, g⟩ :: l) k env L I :=
 Ops.callW (M := []) (N := L) hg (dOk hd) (fun a W he => run_callF hc he hx) (.refl _) hs fun v J M' hle ⟨hM, hR⟩ => by subst hM; exact next v J hle hR
theorem Ops.callM {f : FuncId} {xs : List Operand} {ats : Array TypeId} {vs : List Value} {M N : Own} {R : Value -> Imm -> Own -> Prop} (hs : Spec P f vs I M R) (hL : L.Perm (M ++ N)) (hg : want env ops g = some true) (hd : d < n) (hc : ∀ args w, (callFunc f args).run P w = .ok (.enter f args) w)
  (hx : opnds env xs = some vs) (next : ∀ v J M', Le I J -> R v J M' -> Ops P n C ops (i + 1) l k ((d, v) :: env) (M' ++ N) J) :
  Ops P n C ops i (⟨some d, .call ⟨.value (.func f), xs.toArray, ats⟩, ty, ps, af, g⟩ :: l) k env L I :=
 Ops.callW hg (dOk hd) (fun a W he => run_callF hc he hx) hL hs next
theorem run_callV {f : FuncId} {x : Operand} {xs : List Operand} {ats : Array TypeId} {fs ws vs : List Value} {a : Act} {W : World} {dst : Option Tmp} (hc : ∀ args w, (callFunc f args).run P w = .ok (.enter f args) w) (he : EnvOk n env a)
  (hf : opnd env x = some (.func (.func f) fs.toArray ws.toArray)) (hx : opnds env xs = some vs) :
  (execOp a.eval ⟨dst, .call ⟨.value x, xs.toArray, ats⟩, ty, ps, af, g⟩).run P W = .ok (.enter f (fs ++ vs ++ ws).toArray) W := by
 have h := eval_opnds he hx
 simp [execOp, resolve, eval_opnd he hf, Deferred.ofValue, invoke, hc, h]
theorem run_invoke {f : FuncId} {x : Operand} {m : String} {xs : List Operand} {ats : Array TypeId} {t : TypeId} {u rv : Value} {vs : List Value} {a : Act} {W : World} {dst : Option Tmp} (hc : ∀ args w, (callFunc f args).run P w = .ok (.enter f args) w) (he : EnvOk n env a)
  (hf : opnd env x = some (.iface t u)) (hm : ∀ w, (method (P.types.size + Made.depth) t u m).run P w = .ok (f, rv) w) (hx : opnds env xs = some vs) :
  (execOp a.eval ⟨dst, .call ⟨.invoke x m, xs.toArray, ats⟩, ty, ps, af, g⟩).run P W = .ok (.enter f (rv :: vs).toArray) W := by
 have h := eval_opnds he hx
 have hp : (program).run P W = .ok P W := rfl
 simp [execOp, resolve, eval_opnd he hf, invoke, callMethod, hp, hm, hc, h]
theorem wI {x : Int} (h : -9223372036854775808 <= x) (h' : x <= 9223372036854775807) : IntKind.i64.wrap x = x := by
 simp [IntKind.wrap, IntKind.signed, IntKind.bits]; omega
theorem wU8 {x : Int} (h : 0 <= x) (h' : x <= 255) : IntKind.u8.wrap x = x := by
 simp [IntKind.wrap, IntKind.signed, IntKind.bits]; omega
theorem wI32 {x : Int} (h : -2147483648 <= x) (h' : x <= 2147483647) : IntKind.i32.wrap x = x := by
 simp [IntKind.wrap, IntKind.signed, IntKind.bits]; omega
theorem Run.fin (h : Run P n C k env [] I) : Run P n C k env L I := Run.dropL (List.nil_sublist _) h
end
end Go.V
namespace Go.V
open Go.RowKit
def ba (s : List UInt8) : ByteArray := ⟨s.toArray⟩
def runeAt (s : List UInt8) (p : Nat) : Nat × Nat := Utf8.decode (ba s) p
theorem ba_get (s : List UInt8) (i : Nat) : (ba s).get! i = s.getD i 0 := by
 show s.toArray[i]! = _
 simp [List.getD_eq_getElem?_getD, List.getElem!_eq_getElem?_getD]
 rfl
theorem runeAt_ascii (s : List UInt8) (p : Nat) (h : (s.getD p 0).toNat < 128) : runeAt s p = ((s.getD p 0).toNat, 1) := by
 unfold runeAt Utf8.decode
 simp only [Nat.add_zero, ba_get]
 rw [if_pos h]
theorem runeAt_width (s : List UInt8) (p : Nat) : 1 <= (runeAt s p).2 /\ (runeAt s p).2 <= 4 := by
 unfold runeAt Utf8.decode
 simp only
 (repeat' split) <;> simp
section
variable {P : Program} {n : Nat} {C : Cx} {k : List Item} {env : Env} {L : Own} {I : Imm} {ops : Array Oper} {i : Nat} {l : List Oper}
variable {ty : TypeId} {ps : String} {af : Array Edge} {g : Option (Nat × Bool)} {d : Nat}
theorem Ops.rangeStr {x : Operand} {s : List UInt8} {ts : TypeId} (T : Tab P) (hg : want env ops g = some true) (hd : d < n) (hu : T.und ts = some .string) (hx : opnd env x = some (str s))
  (next : ∀ b, Ops P n C ops (i + 1) l k ((d, .pointer (some ⟨b, 0, none⟩)) :: env) ((b, .stringIter (ba s) 0) :: L) I) : Ops P n C ops i (⟨some d, .range ts x, ty, ps, af, g⟩ :: l) k env L I :=
 Ops.valW hg (dOk hd) fun a W he hi => ⟨.pointer (some ⟨W.heap.size, 0, none⟩), W.alloc (.stringIter (ba s) 0), (W.heap.size, .stringIter (ba s) 0) :: L, I,
  .inl (by
   have : ({ W with heap := W.heap.push (.stringIter (ba s) 0) } : World) = W.alloc (.stringIter (ba s) 0) := rfl
   simp [execOp, Instr.range, eval_opnd he hx, T.undOk hu, str, newObj, Sem.run]; exact this), hi.alloc _, next _⟩
theorem run_setObj {W : World} {b : Nat} {o o' : Obj} (h : W.heap[b]? = some o) (ho : ∀ c e f, o ≠ .cells c e f) : (setObj b o').run P W = .ok () { W with heap := W.heap.setIfInBounds b o' } := by
 simp only [setObj, Sem.run, h]
theorem run_getObj {W : World} {b : Nat} {o : Obj} (h : W.heap[b]? = some o) (ho : ∀ c e f, o ≠ .cells c e f) : (getObj b).run P W = .ok o W := by
 simp only [getObj, Sem.run, h]
theorem Inv.setObj {w0 : World} {I0 : Imm} {L0 : List Nat} {W : World} {b : Nat} {o : Obj} (o' : Obj) (h : Inv w0 I0 L0 I ((b, o) :: L) W) : Inv w0 I0 L0 I ((b, o') :: L) { W with heap := W.heap.setIfInBounds b o' } := by
 have hlt := h.lt List.mem_cons_self
 exact h.upd rfl rfl rfl (by simp) (fun c _ hcb => by simp [Array.getElem?_setIfInBounds_ne (Ne.symm hcb)]) (by simp [hlt])
theorem Ops.nextStr {x : Operand} {b : Nat} {s : List UInt8} {p : Nat} (j : Nat) (hg : want env ops g = some true) (hd : d < n) (hx : opnd env x = some (.pointer (some ⟨b, 0, none⟩))) (hL : L[j]? = some (b, .stringIter (ba s) p)) (hp : p < s.length)
  (next : Ops P n C ops (i + 1) l k ((d, .tuple #[.bool true, .int .i64 p, .int .i32 (runeAt s p).1]) :: env) (upL L j (.stringIter (ba s) (p + (runeAt s p).2))) I) : Ops P n C ops i (⟨some d, .next x true, ty, ps, af, g⟩ :: l) k env L I :=
 Ops.valW hg (dOk hd) fun a W he hi => by
  obtain ⟨R, hp1, hp2⟩ := upL_perm L j b _ (.stringIter (ba s) (p + (runeAt s p).2)) hL
  have hW := hi.fits.own b _ (List.mem_of_getElem? hL)
  have hsz : p < (ba s).size := by rw [show (ba s).size = s.length from str_size s]; exact hp
  refine ⟨_, { W with heap := W.heap.setIfInBounds b (.stringIter (ba s) (p + (runeAt s p).2)) }, _, I, .inl ?_, ((hi.perm hp1).setObj _).perm hp2.symm, next⟩
  simp only [execOp, eval_opnd he hx, Instr.next, Sem.run_bind, run_getObj hW (fun _ _ _ h => by cases h), Result.andThen_ok, hsz, if_true]
  rw [show Utf8.decode (ba s) p = runeAt s p from rfl]
  have hso := run_setObj (P := P) (o' := .stringIter (ba s) (p + (runeAt s p).2)) hW (fun _ _ _ h => by cases h)
  simp only [Sem.run_bind, hso, Result.andThen_ok]
  rfl
theorem Ops.nextStrEnd {x : Operand} {b : Nat} {s : List UInt8} {p : Nat} (j : Nat) (hg : want env ops g = some true) (hd : d < n) (hx : opnd env x = some (.pointer (some ⟨b, 0, none⟩))) (hL : L[j]? = some (b, .stringIter (ba s) p)) (hp : ¬ p < s.length)
  (next : Ops P n C ops (i + 1) l k ((d, .tuple #[.bool false]) :: env) L I) : Ops P n C ops i (⟨some d, .next x true, ty, ps, af, g⟩ :: l) k env L I :=
 Ops.val hg (dOk hd) (fun a W he hi => by
  have hW := hi.fits.own b _ (List.mem_of_getElem? hL)
  have hsz : ¬ p < (ba s).size := by rw [show (ba s).size = s.length from str_size s]; exact hp
  simp only [execOp, eval_opnd he hx, Instr.next, Sem.run_bind, run_getObj hW (fun _ _ _ h => by cases h), Result.andThen_ok, hsz, if_false]
  rfl) next
def encR (r : Int) : List UInt8 := (Utf8.encode r).data.toList
theorem encR_str (r : Int) : Value.string (Utf8.encode r) = str (encR r) := by simp [str, encR]
theorem encR_ascii (r : Int) (h0 : 0 <= r) (h1 : r < 128) : encR r = [UInt8.ofNat r.toNat] := by
 unfold encR Utf8.encode
 have hv : Utf8.valid r = true := by simp [Utf8.valid]; left; omega
 simp only [hv, if_true]
 rw [if_pos (by omega)]
def isNilV : Value -> Option Bool
 | .pointer p => some p.isNone
 | .slice a _ _ => some a.isNone
 | .map m => some m.isNone
 | .nilIface => some true
 | .iface _ _ => some false
 | .nilFunc => some true
 | .func _ _ _ => some false
 | _ => none
def nilOf : TypeDesc -> Option Value
 | .pointer _ => some (.pointer none)
 | .slice _ => some (.slice none 0 0)
 | .map _ _ => some (.map none)
 | .interface _ => some .nilIface
 | .func _ _ _ => some .nilFunc
 | _ => none
def fitsNil : TypeDesc -> Value -> Bool
 | .pointer _, .pointer _ => true
 | .slice _, .slice _ _ _ => true
 | .map _ _, .map _ => true
 | .interface _, .nilIface => true
 | .interface _, .iface _ _ => true
 | .func _ _ _, .nilFunc => true
 | .func _ _ _, .func _ _ _ => true
 | _, _ => false
theorem run_equal_nil {t : TypeId} {u : TypeDesc} {v z : Value} {r : Bool} (hu : ∀ w, (underlying t).run P w = .ok u w) (hz : nilOf u = some z) (hv : isNilV v = some r) (hf : fitsNil u v = true) (W : World) : (Op.equal t v z).run P W = .ok r W := by
 unfold Op.equal Op.maxDepth Op.equalIn
 simp only [Sem.run_bind, hu, Result.andThen_ok]
 cases u <;> simp only [nilOf, Option.some.injEq, reduceCtorEq] at hz <;> subst hz <;> cases v <;> simp only [fitsNil, Bool.false_eq_true] at hf <;> simp only [isNilV, Option.some.injEq] at hv <;> subst hv
 case pointer.pointer e p => cases p <;> rfl
 case slice.slice e p m c => cases p <;> rfl
 case map.map a b p => cases p <;> rfl
 all_goals rfl
theorem run_eqGuard_nil {op : BinOp} {t : TypeId} {x : Operand} {v z c : Value} {u : TypeDesc} (hz : nilOf u = some z) (W : World) : (eqGuard op t x (.const c) v z).run P W = .ok () W := by
 unfold eqGuard
 cases u <;> simp [nilOf] at hz <;> subst hz <;> cases op <;> cases v <;> simp <;> rfl
end
end Go.V
namespace Go.V
open Go.RowKit
section
variable {P : Program} {n : Nat} {C : Cx} {k : List Item} {env : Env} {L : Own} {I : Imm} {ops : Array Oper} {i : Nat} {l : List Oper} {o : Oper}
variable {ty : TypeId} {ps : String} {af : Array Edge} {g : Option (Nat × Bool)} {d : Nat}
def Holds (I : Imm) (L : Own) (W : World) : Prop := (∀ b o, I b = some o -> W.heap[b]? = some o) /\ ∀ b o, (b, o) ∈ L -> W.heap[b]? = some o
theorem Inv.holds {w0 : World} {I0 : Imm} {L0 : List Nat} {W : World} {J : Imm} {M : Own} (h : Inv w0 I0 L0 I L W) (hle : Le J I) (hs : ∀ x, x ∈ M -> x ∈ L) : Holds J M W :=
 ⟨fun b o hb => h.fits.imm b o (hle b o hb), fun b o hm => h.fits.own b o (hs _ hm)⟩
def Qk (P : Program) (n : Nat) (C : Cx) (k : List Item) : Exit -> Act -> World -> Prop
 | .normal, a, W => ∃ env L I, EnvOk n env a /\ Inv C.w0 C.I0 C.L0 I L W /\ Run P n C k env L I
 | _, _, _ => False
def RAny (P : Program) (n : Nat) (C : Cx) (ops : Array Oper) (S : World -> Prop) (k : List Item) (fuel : Nat) (listed : List Bool) (env : Env) (L : Own) (I : Imm) : Prop :=
 ∀ a W, EnvOk n env a -> Inv C.w0 C.I0 C.L0 I L W -> wpAnyH P .any ops (Qk P n C k) S fuel listed.toArray a W
theorem Run.regionAny {id : Nat} (S : World -> Prop) (listed : List Bool) (hm : P.follows .mixedOrders = true) (hl : (Array.replicate ops.size false) = listed.toArray)
  (h : RAny P n C ops S k ops.size listed env L I) : Run P n C (.code (.region id ops true) :: k) env L I := by
 intro b a cs W hb hk he hi
 have hw : (Code.region id ops true).wp P (Qk P n C k) a W := wp_region_held hm (by
  rw [hl]
  exact h a _ he hi.drew)
 obtain ⟨e, a', W', hq, harr⟩ := hw b k cs
 cases e with
 | normal =>
  obtain ⟨env', L', I', he', hi', hrun⟩ := hq
  obtain ⟨e, W2, fr, h1, h2, h3⟩ := hrun b a' cs W' hb hk he' hi'
  exact ⟨e, W2, fr, h1, Comes.of_steps harr h2, h3⟩
 | _ => exact hq.elim
theorem RAny.done {S : World -> Prop} {listed : List Bool} (fuel : Nat) (hr : Region.ready .any ops listed.toArray = []) (h : Run P n C k env L I) : RAny P n C ops S k fuel listed env L I :=
 fun a W he hi => wpAnyH_done hr ⟨env, L, I, he, hi, h⟩ fuel
def Yld (P : Program) (n : Nat) (env : Env) (ops : Array Oper) (S : World -> Prop) (o : Oper) (v : Value) : Prop :=
 (want env ops o.guard = some true /\ ∀ a W, EnvOk n env a -> S W -> (execOp a.eval o).run P W = .ok (.value v) W) \/ (want env ops o.guard = some false /\ v = undef)
theorem RAny.take {S : World -> Prop} {listed : List Bool} {fuel : Nat} (j : Nat) {oj : Oper} {v : Value} (listed' : List Bool) (hi : ops[j]? = some oj) (hs : Region.noSelect ops = true) (hf : Region.free .any ops listed.toArray j = true)
  (hr : (Region.ready .any ops listed.toArray).contains j = true) (hl : listed.toArray.setIfInBounds j true = listed'.toArray) (hd : ∀ t, oj.dst = some t -> t < n) (hS : ∀ W, Inv C.w0 C.I0 C.L0 I L W -> S W) (hy : Yld P n env ops S oj v)
  (h : RAny P n C ops S k fuel listed' (V.put env oj.dst v) L I) : RAny P n C ops S k (fuel + 1) listed env L I := by
 intro a W he hinv
 refine wpAnyH_take hi hs hf hr (fun c a w h => h.elim) ?_ (hS W hinv) (by rw [hl]; exact h _ W (he.put hd) hinv)
 rcases hy with ⟨hw, hv⟩ | ⟨hw, hv⟩
 ·exact .inl ⟨want_spec he hw, fun w hSw => hv a w he hSw⟩
 ·exact .inr ⟨want_spec he hw, hv⟩
theorem Yld.eval {S : World -> Prop} (T : Tab P) {op : Op} {v : Value} (hg : want env ops g = some true) (h : evalOp T env op = some v) : Yld P n env ops S ⟨some d, op, ty, ps, af, g⟩ v :=
 .inl ⟨hg, fun a W he _ => evalOp_ok h he W⟩
theorem Yld.off {S : World -> Prop} {op : Op} {d : Option Nat} (hg : want env ops g = some false) : Yld P n env ops S ⟨d, op, ty, ps, af, g⟩ undef := .inr ⟨hg, rfl⟩
theorem Holds.cell {J : Imm} {M : Own} {W : World} (h : Holds J M W) {b off : Nat} {vs : List Value} (hA : At J b off vs) : ∀ j v, vs[j]? = some v -> W.cell? ⟨b, off + j, none⟩ = some v := by
 obtain ⟨cs, t, fr, h1, h2⟩ := hA
 intro j v hv
 rw [cell_blk (h.1 b _ h1)]; exact h2 j v hv
theorem Holds.own {J : Imm} {M : Own} {W : World} (h : Holds J M W) {b off : Nat} {cs : List Value} {t : TypeId} {v : Value} (j : Nat) (hM : M[j]? = some (b, blk cs t)) (hv : cs[off]? = some v) : W.cell? ⟨b, off, none⟩ = some v := by
 rw [cell_blk (h.2 b _ (List.mem_of_getElem? hM))]; simpa using hv
theorem Yld.load {J : Imm} {M : Own} {t : TypeId} {x : Operand} {b off : Nat} {v : Value} (j : Nat) {cs : List Value} {t' : TypeId} (T : Tab P) (hg : want env ops g = some true) (hx : opnd env x = some (.pointer (some ⟨b, off, none⟩)))
  (hM : M[j]? = some (b, blk cs t')) (ha : T.agg t = some false) (hv : cs[off]? = some v) : Yld P n env ops (Holds J M) ⟨some d, .load t x, ty, ps, af, g⟩ v :=
 .inl ⟨hg, fun a W he hS => by simp [execOp, Instr.loadAt, Instr.sureAddr, eval_opnd he hx, run_loadVar1 (T.aggOk ha) (hS.own j hM hv)]⟩
theorem Yld.loadI {J : Imm} {M : Own} {t : TypeId} {x : Operand} {b off : Nat} {v : Value} (T : Tab P) (hA : At J b off [v]) (hg : want env ops g = some true) (hx : opnd env x = some (.pointer (some ⟨b, off, none⟩)))
  (ha : T.agg t = some false) : Yld P n env ops (Holds J M) ⟨some d, .load t x, ty, ps, af, g⟩ v :=
 .inl ⟨hg, fun a W he hS => by simp [execOp, Instr.loadAt, Instr.sureAddr, eval_opnd he hx, run_loadVar1 (T.aggOk ha) (by simpa using hS.cell hA 0 v rfl)]⟩
theorem Yld.loadN {J : Imm} {M : Own} {t : TypeId} {x : Operand} {b off m : Nat} {vs : List Value} (j : Nat) {cs : List Value} {t' : TypeId} (T : Tab P) (hg : want env ops g = some true) (hx : opnd env x = some (.pointer (some ⟨b, off, none⟩)))
  (hM : M[j]? = some (b, blk cs t')) (ha : T.agg t = some true) (hs : T.size t = some m) (hv : (cs.drop off).take m = vs) (hm : vs.length = m) : Yld P n env ops (Holds J M) ⟨some d, .load t x, ty, ps, af, g⟩ (.agg vs.toArray) :=
 .inl ⟨hg, fun a W he hS => by
  have hc : ∀ j v, vs[j]? = some v -> W.cell? ⟨b, off + j, none⟩ = some v := fun q v h => by
   rw [cell_blk (hS.2 b _ (List.mem_of_getElem? hM))]
   rw [<- hv, List.getElem?_take] at h
   split at h
   ·simpa using h
   ·cases h
  simp [execOp, Instr.loadAt, Instr.sureAddr, eval_opnd he hx, run_loadVarN (T.aggOk ha) (T.sizeOk hs) hm hc]⟩
theorem Yld.loadIN {J : Imm} {M : Own} {t : TypeId} {x : Operand} {b off m : Nat} {vs : List Value} (T : Tab P) (hA : At J b off vs) (hg : want env ops g = some true) (hx : opnd env x = some (.pointer (some ⟨b, off, none⟩)))
  (ha : T.agg t = some true) (hs : T.size t = some m) (hm : vs.length = m) : Yld P n env ops (Holds J M) ⟨some d, .load t x, ty, ps, af, g⟩ (.agg vs.toArray) :=
 .inl ⟨hg, fun a W he hS => by simp [execOp, Instr.loadAt, Instr.sureAddr, eval_opnd he hx, run_loadVarN (T.aggOk ha) (T.sizeOk hs) hm (hS.cell hA)]⟩
theorem Yld.val {S : World -> Prop} {v : Value} (hg : want env ops o.guard = some true) (h : ∀ a W, EnvOk n env a -> S W -> (execOp a.eval o).run P W = .ok (.value v) W) : Yld P n env ops S o v := .inl ⟨hg, h⟩
theorem RAny.all {S : World -> Prop} {listed : List Bool} {fuel : Nat} (rs : List Nat) (hr : Region.ready .any ops listed.toArray = rs) (hne : rs ≠ [])
  (h : ∀ j ∈ rs, ∃ o, ops[j]? = some o /\ want env ops o.guard = some true /\ (∀ t, o.dst = some t -> t < n) /\
   Eff P n C env L I o fun v L1 I1 => (∀ W, Inv C.w0 C.I0 C.L0 I1 L1 W -> S W) /\ ∃ listed', listed.toArray.setIfInBounds j true = listed'.toArray /\ RAny P n C ops S k fuel listed' (V.put env o.dst v) L1 I1) :
  RAny P n C ops S k (fuel + 1) listed env L I := by
 intro a W he hi
 refine wpAnyH_all hr hne ?_
 intro j hj
 obtain ⟨o, ho, hw, hd, hE⟩ := h j hj
 unfold wpOp
 simp only [ho, want_spec he hw, if_true]
 refine .inl ?_
 unfold Oper.wp
 rcases hE a W he hi with ⟨v, W1, L1, I1, hr, hi1, hS, listed', hl, hR⟩ | ⟨f, args, hr, hc⟩
 ·have hfin : S W1 /\ wpAnyH P .any ops (Qk P n C k) S fuel (listed.toArray.setIfInBounds j true) (a.put o.dst v) W1 := ⟨hS W1 hi1, by rw [hl]; exact hR _ W1 (he.put hd) hi1⟩
  rcases hr with hr | ⟨hr, rfl⟩
  ·rw [hr]; exact hfin
  ·rw [hr]; exact hfin
 ·rw [hr]
  refine hc.mono ?_
  rintro e W1 ⟨v, L1, I1, rfl, hi1, hS, listed', hl, hR⟩
  exact ⟨hS W1 hi1, by rw [hl]; exact hR _ W1 (he.put hd) hi1⟩
variable {K : Value -> Own -> Imm -> Prop}
theorem Eff.alloc {t : TypeId} {z : Value} {cs : List Value} (hz : ∀ w, (zeroValue t).run P w = .ok z w) (hc : z.cells = cs.toArray) (next : ∀ b, K (.pointer (some ⟨b, 0, none⟩)) ((b, blk cs t) :: L) I) :
  Eff P n C env L I ⟨some d, .alloc t, ty, ps, af, g⟩ K :=
 Eff.valW fun a W he hi => ⟨.pointer (some ⟨W.heap.size, 0, none⟩), W.alloc (blk cs t), (W.heap.size, blk cs t) :: L, I,
  .inl (by
   have : ({ W with heap := W.heap.push (.cells cs.toArray t (0, 0)) } : World) = W.alloc (blk cs t) := rfl
   simp [execOp, Instr.alloc, hz, newVar, newRow, newObj, Sem.run, hc, this]; try rfl), hi.alloc _, next _⟩
theorem Eff.store {t : TypeId} {x y : Operand} {b off m : Nat} {v : Value} (j : Nat) {cs vs cs' : List Value} {t' : TypeId} (hx : opnd env x = some (.pointer (some ⟨b, off, none⟩))) (hy : opnd env y = some v)
  (hc : v.cells = vs.toArray) (hL : L[j]? = some (b, blk cs t')) (hs : ∀ w, (sizeOf t).run P w = .ok m w) (hm : vs.length = m) (hle : off + m <= cs.length) (h1 : one vs = true) (hcs : setAt cs off vs = cs')
  (next : K undef (upL L j (blk cs' t')) I) : Eff P n C env L I ⟨none, .store t x y, ty, ps, af, g⟩ K :=
 Eff.valW fun a W he hi => by
  obtain ⟨R, hp, hp'⟩ := upL_perm L j b (blk cs t') (blk cs' t') hL
  have hW := hi.fits.own b _ (List.mem_of_getElem? hL)
  have hr := run_storeCells_at P b off t' vs 0 cs.toArray W hW (by simp; omega) (one_spec h1)
  simp only [Nat.add_zero] at hr
  have hcs' : (cs.toArray.toList.take off ++ vs ++ cs.toArray.toList.drop (off + vs.length)).toArray = cs'.toArray := by rw [<- hcs]; rfl
  rw [hcs'] at hr
  refine ⟨undef, W.setRow b cs'.toArray, upL L j (blk cs' t'), I, .inr ⟨?_, rfl⟩, ?_, next⟩
  ·simp [execOp, Instr.storeAt, Instr.sureAddr, eval_opnd he hx, eval_opnd he hy, storeVar, hc, hs, hm, hr]
  ·exact ((hi.perm hp).upd (W' := W.setRow b cs'.toArray) rfl rfl rfl (by simp) (fun c _ hcb => setRow_other W b c _ hcb) (setRow_heap W b cs.toArray cs'.toArray t' _ hW)).perm hp'.symm
theorem Eff.assign {x : Operand} {v : Value} (hx : opnd env x = some v) (next : K v L I) : Eff P n C env L I ⟨some d, .assign x, ty, ps, af, g⟩ K :=
 Eff.valW fun a W he hi => ⟨v, W, L, I, .inl (by simp [execOp, eval_opnd he hx]), hi, next⟩
theorem Eff.call {f : FuncId} {xs : List Operand} {ats : Array TypeId} {vs : List Value} {R : Value -> Imm -> Prop} (hs : Pure P f vs I R) (hc : ∀ args w, (callFunc f args).run P w = .ok (.enter f args) w)
  (hx : opnds env xs = some vs) (next : ∀ v J, Le I J -> R v J -> K v L J) : Eff P n C env L I ⟨some d, .call ⟨.value (.func f), xs.toArray, ats⟩, ty, ps, af, g⟩ K :=
 Eff.callW (M := []) (N := L) (fun a W he => run_callF hc he hx) (.refl _) hs fun v J M' hle ⟨hM, hR⟩ => by subst hM; exact next v J hle hR
end
end Go.V
