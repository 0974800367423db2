/-
  A judgement of our own over the kit's steps: a call runs on code items, with the slots that are known, blocks that the call owns, and blocks that nobody writes. Rules for control, calls and plain operations.
-/
import Derived.WalkKit
import Derived.WalkSpells
import Derived.WalkLawsBesides
namespace Go.V
set_option linter.unusedVariables false
theorem beqF {i t : Nat} (h : ¬ i = t) : Nat.beq i t = false := by
  cases hb : Nat.beq i t with
  | false => rfl
  | true => exact absurd (Nat.eq_of_beq_eq_true hb) h
abbrev Env := List (Nat × Value)
/-- what is known of a slot -/
def look : Env → Nat → Option Value
  | [], _ => none
  | (k, v) :: r, t => bif Nat.beq k t then some v else look r t
def put (env : Env) : Option Nat → Value → Env
  | some d, v => (d, v) :: env
  | none, _ => env
/-- blocks that nobody writes; blocks that the call owns -/
abbrev Imm := Nat → Option Obj
abbrev Own := List (Nat × Obj)
def Le (I J : Imm) : Prop := ∀ b o, I b = some o → J b = some o
theorem Le.refl (I : Imm) : Le I I := fun _ _ h => h
theorem Le.trans {I J K : Imm} (h : Le I J) (k : Le J K) : Le I K := fun b o e => k b o (h b o e)
structure EnvOk (n : Nat) (env : Env) (a : Act) : Prop where
  size : a.tmps.size = n
  defers : a.defers = []
  at_ : ∀ t v, look env t = some v → a.tmps[t]? = some v
structure Fits (I : Imm) (L : Own) (W : World) : Prop where
  imm : ∀ b o, I b = some o → W.heap[b]? = some o
  own : ∀ b o, (b, o) ∈ L → W.heap[b]? = some o
  sep : ∀ b o, (b, o) ∈ L → I b = none
  nd : (L.map Prod.fst).Nodup
/-- how a world stands to the one in which the call began -/
structure Inv (w0 : World) (I0 : Imm) (L0 : List Nat) (I : Imm) (L : Own) (W : World) : Prop where
  os : W.os = w0.os
  tape : W.tape = w0.tape
  output : W.output = w0.output
  size : w0.heap.size ≤ W.heap.size
  old : ∀ b, b < w0.heap.size → b ∉ L0 → W.heap[b]? = w0.heap[b]?
  fits : Fits I L W
  ext : Le I0 I
  newI : ∀ b o, I b = some o → I0 b = some o ∨ w0.heap.size ≤ b ∨ b ∈ L0
  newL : ∀ b o, (b, o) ∈ L → w0.heap.size ≤ b ∨ b ∈ L0
structure Cx where
  f : FuncId
  R : Value → Imm → Own → Prop
  w0 : World
  I0 : Imm
  L0 : List Nat
def Ends (w0 : World) (I0 : Imm) (L0 : List Nat) (R : Value → Imm → Own → Prop) : Ending → World → Prop :=
  fun e W' => ∃ v I L, e = .returned v ∧ R v I L ∧ Inv w0 I0 L0 I L W'
/-- a call of function f, where I is immutable and L is handed over -/
def Spec (P : Program) (f : FuncId) (args : List Value) (I : Imm) (L : Own) (R : Value → Imm → Own → Prop) : Prop :=
  ∀ w0, Fits I L w0 → Calls P f args.toArray w0 (Ends w0 I (L.map Prod.fst) R)
def Run (P : Program) (n : Nat) (C : Cx) (k : List Item) (env : Env) (L : Own) (I : Imm) : Prop :=
  ∀ (b : Frame) (a : Act) (cs : List Frame) (W : World), b.fn = C.f → b.kind = .normal → EnvOk n env a → Inv C.w0 C.I0 C.L0 I L W →
    ∃ e W' fr, Ends C.w0 C.I0 C.L0 C.R e W' ∧ Comes P (lone (b.at a k) cs W) (lone fr cs W') e ∧ fr.fn = C.f ∧ fr.leaving P W' e
theorem Spec.mono {P : Program} {f : FuncId} {args : List Value} {I : Imm} {L : Own} {R R' : Value → Imm → Own → Prop} (h : Spec P f args I L R)
    (k : ∀ v J M, Le I J → R v J M → R' v J M) : Spec P f args I L R' :=
  fun w0 hf => (h w0 hf).mono fun _ _ ⟨v, J, M, he, hr, hi⟩ => ⟨v, J, M, he, k v J M hi.ext hr, hi⟩
def argEnv : Nat → List Value → Env
  | _, [] => []
  | i, v :: r => (i, v) :: argEnv (i + 1) r
theorem look_argEnv (l : List Value) : ∀ i t v, look (argEnv i l) t = some v → i ≤ t ∧ l[t - i]? = some v := by
  induction l with
  | nil => intro i t v h; simp [argEnv, look] at h
  | cons x r ih =>
    intro i t v h
    simp only [argEnv, look] at h
    by_cases hit : i = t
    · subst hit; simp at h; subst h; simp
    · have hb : Nat.beq i t = false := beqF hit
      rw [hb] at h; simp at h
      obtain ⟨h1, h2⟩ := ih _ _ _ h
      refine ⟨by omega, ?_⟩
      have : t - i = (t - (i + 1)) + 1 := by omega
      rw [this]; simpa using h2
theorem Spec.enter {P : Program} {f : FuncId} {fn : Func} {c : Code} {args : List Value} {I : Imm} {L : Own} {R : Value → Imm → Own → Prop} (n : Nat) (env : Env)
    (hf : P.funcs[f]? = some fn) (hb : fn.body = some c) (hn : fn.ntmps = n) (hle : args.length ≤ n) (he : argEnv 0 args = env)
    (h : ∀ C : Cx, C.f = f → (∀ v J M, R v J M → C.R v J M) → C.I0 = I → Run P n C [.code c] env L I) : Spec P f args I L R := by
  intro w0 hfit cs
  let b : Frame := { (default : Frame) with fn := f, kind := .normal }
  let a : Act := { tmps := args.toArray ++ Array.replicate (fn.ntmps - args.toArray.size) undef, defers := [] }
  have henter : Frame.enter P f args.toArray .normal = b.at a [.code c] := by
    simp [Frame.enter, Frame.at, hf, hb, b, a]
  rw [henter]
  refine h ⟨f, R, w0, I, L.map Prod.fst⟩ rfl (fun _ _ _ h => h) rfl b a cs w0 rfl rfl ?_ ?_
  · refine ⟨by simp [a, hn, hle], rfl, ?_⟩
    intro t v ht
    rw [← he] at ht
    obtain ⟨_, h2⟩ := look_argEnv _ _ _ _ ht
    have hl : t < args.length := by
      rcases Nat.lt_or_ge t args.length with h | h
      · exact h
      · simp [List.getElem?_eq_none h] at h2
    simp only [a, Nat.sub_zero] at h2 ⊢
    rw [Array.getElem?_append_left (by simpa using hl)]
    simpa using h2
  · refine ⟨rfl, rfl, rfl, Nat.le_refl _, fun _ _ _ => rfl, hfit, Le.refl _, fun _ _ h => .inl h, fun b o h => ?_⟩
    exact .inr (List.mem_map.2 ⟨(b, o), h, rfl⟩)
/-- a guard's test, as far as it is known -/
def want (env : Env) (ops : Array Oper) : Option (Nat × Bool) → Option Bool
  | none => some true
  | some (j, b) =>
    match (ops[j]?).bind (·.dst) with
    | some d => match look env d with
      | some (.bool t) => some (t == b)
      | _ => none
    | none => none
theorem want_spec {n : Nat} {env : Env} {ops : Array Oper} {o : Oper} {r : Bool} {a : Act} (he : EnvOk n env a) (h : want env ops o.guard = some r) : Region.wanted o (yielded ops a.tmps) = r := by
  unfold want at h
  split at h
  · rename_i hg
    simp only [Region.wanted, hg]
    simpa using h
  · rename_i j b hg
    split at h
    · rename_i d hd
      split at h
      · rename_i t ht
        simp only [Region.wanted, hg, yielded, hd, Option.bind_some, he.at_ _ _ ht]
        cases h
        cases t <;> cases b <;> rfl
      · cases h
    · cases h
section
variable {P : Program} {n : Nat} {C : Cx} {k : List Item} {env : Env} {L : Own} {I : Imm}
theorem Run.steps {k' : List Item} (hs : ∀ (b : Frame) (a : Act) (cs : List Frame) (W : World), EnvOk n env a → Steps P (lone (b.at a k) cs W) (lone (b.at a k') cs W))
    (h : Run P n C k' env L I) : Run P n C k env L I := by
  intro b a cs W hb hk he hi
  obtain ⟨e, W', fr, h1, h2, h3⟩ := h b a cs W hb hk he hi
  exact ⟨e, W', fr, h1, Comes.of_steps (hs b a cs W he) h2, h3⟩
theorem Run.skip (h : Run P n C k env L I) : Run P n C (.code .skip :: k) env L I := Run.steps (fun _ _ _ _ _ => .one step_skip) h
theorem Run.seq {x y : Code} (h : Run P n C (.code x :: .code y :: k) env L I) : Run P n C (.code (.seq x y) :: k) env L I := Run.steps (fun _ _ _ _ _ => .one step_seq) h
theorem Run.block {id : Nat} {c : Code} (h : Run P n C (.code c :: .inBlock id :: k) env L I) : Run P n C (.code (.block id c) :: k) env L I := Run.steps (fun _ _ _ _ _ => .one step_block) h
theorem Run.inBlock {id : Nat} (h : Run P n C k env L I) : Run P n C (.inBlock id :: k) env L I := Run.steps (fun _ _ _ _ _ => .one step_inBlock) h
theorem Run.loop {c : Code} (h : Run P n C (.code c :: .inLoop c :: k) env L I) : Run P n C (.code (.loop c) :: k) env L I := Run.steps (fun _ _ _ _ _ => .one step_loop) h
theorem Run.inLoop {c : Code} (h : Run P n C (.code c :: .inLoop c :: k) env L I) : Run P n C (.inLoop c :: k) env L I := Run.steps (fun _ _ _ _ _ => .one step_inLoop) h
theorem Run.exit {id : Nat} {k' : List Item} (hx : exitTo id k = some k') (h : Run P n C k' env L I) : Run P n C (.code (.exit id) :: k) env L I :=
  Run.steps (fun _ _ _ _ _ => .one (step_exit hx)) h
theorem Run.cond {c : Operand} {x y : Code} {t : Bool} {s : Nat} (hc : c = .tmp s) (hl : look env s = some (.bool t))
    (ht : t = true → Run P n C (.code x :: k) env L I) (hf : t = false → Run P n C (.code y :: k) env L I) : Run P n C (.code (.cond c x y) :: k) env L I := by
  subst hc
  intro b a cs W hb hk he hi
  have hev : a.eval (.tmp s) = .bool t := by
    simp only [Act.eval, Array.getD_eq_getD_getElem?, he.at_ _ _ hl, Option.getD_some]
  cases t with
  | true =>
    obtain ⟨e, W', fr, h1, h2, h3⟩ := ht rfl b a cs W hb hk he hi
    exact ⟨e, W', fr, h1, Comes.of_steps (.one (step_cond hev)) h2, h3⟩
  | false =>
    obtain ⟨e, W', fr, h1, h2, h3⟩ := hf rfl b a cs W hb hk he hi
    exact ⟨e, W', fr, h1, Comes.of_steps (.one (step_cond hev)) h2, h3⟩
theorem Run.cond_t {s : Nat} {x y : Code} (hl : look env s = some (.bool true)) (h : Run P n C (.code x :: k) env L I) : Run P n C (.code (.cond (.tmp s) x y) :: k) env L I :=
  Run.cond rfl hl (fun _ => h) (fun h => by cases h)
theorem Run.cond_f {s : Nat} {x y : Code} (hl : look env s = some (.bool false)) (h : Run P n C (.code y :: k) env L I) : Run P n C (.code (.cond (.tmp s) x y) :: k) env L I :=
  Run.cond rfl hl (fun h => by cases h) (fun _ => h)
theorem EnvOk.weaken {env' : Env} {a : Act} (h : EnvOk n env a) (hs : ∀ t v, look env' t = some v → look env t = some v) : EnvOk n env' a :=
  ⟨h.size, h.defers, fun t v ht => h.at_ t v (hs t v ht)⟩
/-- keep these slots alone -/
theorem Run.keep (ks : List Nat) (vs : List Value) (hv : ks.map (look env) = vs.map some) (h : Run P n C k (ks.zip vs) L I) : Run P n C k env L I := by
  intro b a cs W hb hk he hi
  refine h b a cs W hb hk (he.weaken ?_) hi
  clear h
  induction ks generalizing vs with
  | nil => intro t v ht; simp [look] at ht
  | cons x r ih =>
    cases vs with
    | nil => simp at hv
    | cons y s =>
      simp only [List.map_cons, List.cons.injEq] at hv
      intro t v ht
      simp only [List.zip_cons_cons, look] at ht
      by_cases hx : x = t
      · subst hx; simp at ht; subst ht; exact hv.1
      · have hb' : Nat.beq x t = false := beqF hx
        rw [hb'] at ht; exact ih s hv.2 t v ht
theorem Inv.weakenL {w0 : World} {I0 : Imm} {L0 : List Nat} {W : World} {L' : Own} (h : Inv w0 I0 L0 I L W) (hs : L'.Sublist L) : Inv w0 I0 L0 I L' W :=
  { h with
    fits := ⟨h.fits.imm, fun b o hm => h.fits.own b o (hs.subset hm), fun b o hm => h.fits.sep b o (hs.subset hm), h.fits.nd.sublist (hs.map _)⟩
    newL := fun b o hm => h.newL b o (hs.subset hm) }
theorem Run.dropL {L' : Own} (hs : L'.Sublist L) (h : Run P n C k env L' I) : Run P n C k env L I :=
  fun b a cs W hb hk he hi => h b a cs W hb hk he (hi.weakenL hs)
theorem Inv.perm {w0 : World} {I0 : Imm} {L0 : List Nat} {W : World} {L' : Own} (h : Inv w0 I0 L0 I L W) (hp : L.Perm L') : Inv w0 I0 L0 I L' W :=
  { h with
    fits := ⟨h.fits.imm, fun b o hm => h.fits.own b o (hp.mem_iff.2 hm), fun b o hm => h.fits.sep b o (hp.mem_iff.2 hm), (hp.map _).nodup_iff.1 h.fits.nd⟩
    newL := fun b o hm => h.newL b o (hp.mem_iff.2 hm) }
theorem Run.perm {L' : Own} (hp : L.Perm L') (h : Run P n C k env L' I) : Run P n C k env L I :=
  fun b a cs W hb hk he hi => h b a cs W hb hk he (hi.perm hp)
/-- an owned block becomes immutable -/
def iset (I : Imm) (b : Nat) (o : Obj) : Imm := fun c => if c = b then some o else I c
theorem Inv.freeze {w0 : World} {I0 : Imm} {L0 : List Nat} {W : World} {b : Nat} {o : Obj} (h : Inv w0 I0 L0 I ((b, o) :: L) W) : Inv w0 I0 L0 (iset I b o) L W := by
  have hnd : b ∉ L.map Prod.fst ∧ (L.map Prod.fst).Nodup := by simpa using h.fits.nd
  refine { h with fits := ⟨?_, fun c p hm => h.fits.own c p (List.mem_cons_of_mem _ hm), ?_, hnd.2⟩, ext := ?_, newI := ?_, newL := fun c p hm => h.newL c p (List.mem_cons_of_mem _ hm) }
  · intro c p hc
    unfold iset at hc
    split at hc
    · rename_i hcb; subst hcb; cases hc; exact h.fits.own _ _ (List.mem_cons_self)
    · exact h.fits.imm _ _ hc
  · intro c p hm
    have hne : c ≠ b := fun e => hnd.1 (e ▸ List.mem_map.2 ⟨(c, p), hm, rfl⟩)
    simp only [iset, if_neg hne]
    exact h.fits.sep c p (List.mem_cons_of_mem _ hm)
  · intro c p hc
    have hne : c ≠ b := fun e => by
      have := h.ext c p hc
      rw [e, h.fits.sep b o List.mem_cons_self] at this
      cases this
    simp only [iset, if_neg hne]
    exact h.ext c p hc
  · intro c p hc
    unfold iset at hc
    split at hc
    · rename_i hcb; subst hcb; exact .inr (h.newL _ _ List.mem_cons_self)
    · exact h.newI _ _ hc
theorem Inv.le_iset {w0 : World} {I0 : Imm} {L0 : List Nat} {W : World} {b : Nat} {o : Obj} (h : Inv w0 I0 L0 I ((b, o) :: L) W) : Le I (iset I b o) := by
  intro c p hc
  have hne : c ≠ b := fun e => by rw [e, h.fits.sep b o List.mem_cons_self] at hc; cases hc
  simp only [iset, if_neg hne]; exact hc
theorem Run.freeze {b : Nat} {o : Obj} (h : ∀ J, Le I J → J b = some o → Run P n C k env L J) : Run P n C k env ((b, o) :: L) I :=
  fun b' a cs W hb hk he hi => h _ hi.le_iset (by simp [iset]) b' a cs W hb hk he hi.freeze
/-- rounds: by a number that goes down -/
theorem Run.rounds {c : Code} (J : Nat → Env → Own → Imm → Prop) (m : Nat) (h0 : J m env L I)
    (round : ∀ m env L I, J m env L I → (∀ m' env' L' I', m' < m → J m' env' L' I' → Run P n C (.inLoop c :: k) env' L' I') → Run P n C (.code c :: .inLoop c :: k) env L I) :
    Run P n C (.code (.loop c) :: k) env L I := by
  have key : ∀ m env L I, J m env L I → Run P n C (.code c :: .inLoop c :: k) env L I := by
    intro m
    induction m using Nat.strongRecOn with
    | _ m ih =>
      intro env L I hJ
      exact round m env L I hJ fun m' env' L' I' hlt hJ' => Run.inLoop (ih m' hlt env' L' I' hJ')
  exact Run.loop (key m env L I h0)
theorem Run.ret {fn : Func} {v : Value} {todo : List Item} (hfn : P.funcs[C.f]? = some fn)
    (hr : ∀ a W, EnvOk n env a → Inv C.w0 C.I0 C.L0 I L W → (results fn a.tmps).run P W = .ok v W) (h : C.R v I L) : Run P n C (.code .ret :: todo) env L I := by
  intro b a cs W hb hk he hi
  refine ⟨.returned v, W, _, ⟨v, I, L, rfl, h, hi⟩, Steps.one step_ret, hb, rfl, he.defers, hk, fn, by simpa [Frame.at, hb] using hfn, ?_⟩
  exact hr a W he hi
theorem Run.done {fn : Func} {v : Value} (hfn : P.funcs[C.f]? = some fn)
    (hr : ∀ a W, EnvOk n env a → Inv C.w0 C.I0 C.L0 I L W → (results fn a.tmps).run P W = .ok v W) (h : C.R v I L) : Run P n C [] env L I := by
  intro b a cs W hb hk he hi
  refine ⟨.returned v, W, _, ⟨v, I, L, rfl, h, hi⟩, Steps.one step_end, hb, rfl, he.defers, hk, fn, by simpa [Frame.at, hb] using hfn, ?_⟩
  exact hr a W he hi
theorem EnvOk.getD {a : Act} {t : Nat} {v d : Value} (he : EnvOk n env a) (h : look env t = some v) : a.tmps.getD t d = v := by
  simp [Array.getD_eq_getD_getElem?, he.at_ _ _ h]
theorem Run.ret1 {fn : Func} {t : Nat} {v : Value} {todo : List Item} (hfn : P.funcs[C.f]? = some fn) (hres : fn.results = #[.tmp t]) (hv : look env t = some v) (h : C.R v I L) :
    Run P n C (.code .ret :: todo) env L I :=
  Run.ret hfn (fun a W he _ => by rw [results_tmp hres, he.getD hv]) h
def Ops (P : Program) (n : Nat) (C : Cx) (ops : Array Oper) (i : Nat) (l : List Oper) (k : List Item) (env : Env) (L : Own) (I : Imm) : Prop :=
  (∀ j : Nat, l[j]? = ops[i + j]?) → Run P n C (.inRegion ops (List.range' i l.length) :: k) env L I
theorem Run.region {id : Nat} {l : List Oper} (h : Ops P n C l.toArray 0 l k env L I) : Run P n C (.code (.region id l.toArray false) :: k) env L I := by
  refine Run.steps (fun b a cs W _ => .one step_region) ?_
  have := h (fun j => by simp)
  simpa [List.range_eq_range'] using this
variable {ops : Array Oper} {i : Nat} {l : List Oper} {o : Oper}
theorem Ops.nil (h : Run P n C k env L I) : Ops P n C ops i [] k env L I := fun _ => Run.steps (fun _ _ _ _ _ => .one step_region_end) h
theorem Ops.head (hl : ∀ j : Nat, (o :: l)[j]? = ops[i + j]?) : ops[i]? = some o ∧ ∀ j : Nat, l[j]? = ops[i + 1 + j]? :=
  ⟨by simpa using (hl 0).symm, fun j => by have := hl (j + 1); simpa [Nat.add_assoc, Nat.add_comm 1 j] using this⟩
theorem steps_value {b : Frame} {a : Act} {cs : List Frame} {w w' : World} {rest : List Nat} {v : Value} (ho : ops[i]? = some o) (hw : Region.wanted o (yielded ops a.tmps) = true)
    (hr : (execOp a.eval o).run P w = .ok (.value v) w') :
    Steps P (lone (b.at a (.inRegion ops (i :: rest) :: k)) cs w) (lone (b.at (a.put o.dst v) (.inRegion ops rest :: k)) cs w') := by
  have hg := stepG_op (P := P) (b := b) (k := k) (cs := cs) (w := w) (rest := rest) ho hw
  have hfin : (b.at a (.inRegion ops (i :: rest) :: k)).finish v = b.at (a.put o.dst v) (.inRegion ops rest :: k) := by
    rw [Frame.finish_at, ho]; rfl
  refine .one (step_lone_go ?_)
  rw [hg, ← hfin]; simp [stepG.apply, hr]
theorem steps_skip {b : Frame} {a : Act} {cs : List Frame} {w w' : World} {rest : List Nat} (ho : ops[i]? = some o) (hw : Region.wanted o (yielded ops a.tmps) = true)
    (hr : (execOp a.eval o).run P w = .ok .skip w') :
    Steps P (lone (b.at a (.inRegion ops (i :: rest) :: k)) cs w) (lone (b.at (a.put o.dst undef) (.inRegion ops rest :: k)) cs w') := by
  have hg := stepG_op (P := P) (b := b) (k := k) (cs := cs) (w := w) (rest := rest) ho hw
  have hfin : (b.at a (.inRegion ops (i :: rest) :: k)).finish undef = b.at (a.put o.dst undef) (.inRegion ops rest :: k) := by
    rw [Frame.finish_at, ho]; rfl
  refine .one (step_lone_go ?_)
  rw [hg, ← hfin]; simp [stepG.apply, hr]
theorem steps_call {b : Frame} {a : Act} {cs : List Frame} {w w' : World} {rest : List Nat} {f : FuncId} {args : Array Value} {Rc : Ending → World → Prop}
    (ho : ops[i]? = some o) (hw : Region.wanted o (yielded ops a.tmps) = true)
    (hr : (execOp a.eval o).run P w = .ok (.enter f args) w') (hc : Calls P f args w' Rc) (hret : ∀ e w'', Rc e w'' → ∃ v, e = .returned v) :
    ∃ v w'', Rc (.returned v) w'' ∧ Steps P (lone (b.at a (.inRegion ops (i :: rest) :: k)) cs w) (lone (b.at (a.put o.dst v) (.inRegion ops rest :: k)) cs w'') := by
  have hg := stepG_op (P := P) (b := b) (k := k) (cs := cs) (w := w) (rest := rest) ho hw
  obtain ⟨e, w'', fr, hR, hcomes, hfn, hleave⟩ := hc (b.at a (.inRegion ops (i :: rest) :: k) :: cs)
  obtain ⟨v, rfl⟩ := hret _ _ hR
  refine ⟨v, w'', hR, ?_⟩
  have hfin : (b.at a (.inRegion ops (i :: rest) :: k)).finish v = b.at (a.put o.dst v) (.inRegion ops rest :: k) := by
    rw [Frame.finish_at, ho]; rfl
  have henter : step P (lone (b.at a (.inRegion ops (i :: rest) :: k)) cs w) =
      .next (lone (Frame.enter P f args .normal) (b.at a (.inRegion ops (i :: rest) :: k) :: cs) w') :=
    step_lone_go (by rw [hg]; simp [stepG.apply, hr, Frame.at])
  refine .head henter (Steps.trans hcomes (.one ?_))
  rw [← hfin]; exact step_leave_returned hleave
theorem EnvOk.put {a : Act} {d : Option Nat} {v : Value} (he : EnvOk n env a) (hd : ∀ t, d = some t → t < n) : EnvOk n (V.put env d v) (a.put d v) := by
  cases d with
  | none => exact he
  | some t =>
    refine ⟨by simpa [Act.put] using he.size, he.defers, ?_⟩
    intro u x hx
    simp only [V.put, look] at hx
    simp only [Act.put]
    by_cases htu : t = u
    · subst htu
      simp at hx; subst hx
      have : t < a.tmps.size := by rw [he.size]; exact hd t rfl
      simp [this]
    · have hb : Nat.beq t u = false := beqF htu
      rw [hb] at hx
      rw [Array.getElem?_setIfInBounds_ne htu]
      exact he.at_ u x hx
theorem Ops.val {v : Value} (hg : want env ops o.guard = some true) (hd : ∀ t, o.dst = some t → t < n)
    (h : ∀ a W, EnvOk n env a → Inv C.w0 C.I0 C.L0 I L W → (execOp a.eval o).run P W = .ok (.value v) W)
    (next : Ops P n C ops (i + 1) l k (V.put env o.dst v) L I) : Ops P n C ops i (o :: l) k env L I := by
  intro hl
  obtain ⟨ho, hl'⟩ := Ops.head hl
  intro b a cs W hb hk he hi
  have hw : Region.wanted o (yielded ops a.tmps) = true := want_spec he hg
  have hs := steps_value (k := k) (b := b) (cs := cs) (rest := List.range' (i + 1) l.length) ho hw (h a W he hi)
  obtain ⟨e, W', fr, h1, h2, h3⟩ := next hl' b _ cs W hb hk (he.put hd) hi
  refine ⟨e, W', fr, h1, Comes.of_steps ?_ h2, h3⟩
  simpa [List.range'_succ] using hs
/-- what an operation does: a value in a world that fits again, or a call whose end fits again -/
def Eff (P : Program) (n : Nat) (C : Cx) (env : Env) (L : Own) (I : Imm) (o : Oper) (K : Value → Own → Imm → Prop) : Prop :=
  ∀ a W, EnvOk n env a → Inv C.w0 C.I0 C.L0 I L W →
    (∃ v W1 L1 I1, ((execOp a.eval o).run P W = .ok (.value v) W1 ∨ (execOp a.eval o).run P W = .ok .skip W1 ∧ v = undef) ∧ Inv C.w0 C.I0 C.L0 I1 L1 W1 ∧ K v L1 I1) ∨
    (∃ f args, (execOp a.eval o).run P W = .ok (.enter f args) W ∧ Calls P f args W fun e W' => ∃ v L1 I1, e = .returned v ∧ Inv C.w0 C.I0 C.L0 I1 L1 W' ∧ K v L1 I1)
theorem Eff.valW {K : Value → Own → Imm → Prop} (h : ∀ a W, EnvOk n env a → Inv C.w0 C.I0 C.L0 I L W → ∃ v W1 L1 I1, ((execOp a.eval o).run P W = .ok (.value v) W1 ∨ (execOp a.eval o).run P W = .ok .skip W1 ∧ v = undef) ∧
      Inv C.w0 C.I0 C.L0 I1 L1 W1 ∧ K v L1 I1) : Eff P n C env L I o K := fun a W he hi => .inl (h a W he hi)
theorem Ops.eff (hg : want env ops o.guard = some true) (hd : ∀ t, o.dst = some t → t < n) (h : Eff P n C env L I o fun v L1 I1 => Ops P n C ops (i + 1) l k (V.put env o.dst v) L1 I1) : Ops P n C ops i (o :: l) k env L I := by
  intro hl
  obtain ⟨ho, hl'⟩ := Ops.head hl
  intro b a cs W hb hk he hi
  have hw : Region.wanted o (yielded ops a.tmps) = true := want_spec he hg
  rcases h a W he hi with ⟨v, W1, L1, I1, hr, hi1, next⟩ | ⟨f, args, hr, hc⟩
  · have hs : Steps P (lone (b.at a (.inRegion ops (i :: List.range' (i + 1) l.length) :: k)) cs W) (lone (b.at (a.put o.dst v) (.inRegion ops (List.range' (i + 1) l.length) :: k)) cs W1) := by
      rcases hr with hr | ⟨hr, rfl⟩
      · exact steps_value ho hw hr
      · exact steps_skip ho hw hr
    obtain ⟨e, W', fr, h1, h2, h3⟩ := next hl' b _ cs W1 hb hk (he.put hd) hi1
    refine ⟨e, W', fr, h1, Comes.of_steps ?_ h2, h3⟩
    simpa [List.range'_succ] using hs
  · obtain ⟨v, W2, hR, hsteps⟩ := steps_call (k := k) (b := b) (cs := cs) (rest := List.range' (i + 1) l.length) ho hw hr hc (fun e w'' ⟨v, _, _, he, _⟩ => ⟨v, he⟩)
    obtain ⟨v', L1, I1, hve, hinv, next⟩ := hR
    cases hve
    obtain ⟨e, W', fr, h1, h2, h3⟩ := next hl' b _ cs W2 hb hk (he.put hd) hinv
    refine ⟨e, W', fr, h1, Comes.of_steps ?_ h2, h3⟩
    simpa [List.range'_succ] using hsteps
theorem Ops.valW (hg : want env ops o.guard = some true) (hd : ∀ t, o.dst = some t → t < n)
    (h : ∀ a W, EnvOk n env a → Inv C.w0 C.I0 C.L0 I L W → ∃ v W1 L1 I1, ((execOp a.eval o).run P W = .ok (.value v) W1 ∨ (execOp a.eval o).run P W = .ok .skip W1 ∧ v = undef) ∧
      Inv C.w0 C.I0 C.L0 I1 L1 W1 ∧ Ops P n C ops (i + 1) l k (V.put env o.dst v) L1 I1) : Ops P n C ops i (o :: l) k env L I := Ops.eff hg hd (Eff.valW h)
/-- a call; M is handed over, N stays -/
theorem Eff.callW {f : FuncId} {args : List Value} {M N : Own} {R : Value → Imm → Own → Prop} {K : Value → Own → Imm → Prop}
    (h : ∀ a W, EnvOk n env a → (execOp a.eval o).run P W = .ok (.enter f args.toArray) W) (hL : L.Perm (M ++ N)) (hs : Spec P f args I M R)
    (next : ∀ v J M', Le I J → R v J M' → K v (M' ++ N) J) : Eff P n C env L I o K := by
  intro a W he hi
  refine .inr ⟨f, args.toArray, h a W he, ?_⟩
  have hi' := hi.perm hL
  have hfit : Fits I M W := ⟨hi'.fits.imm, fun c p hm => hi'.fits.own c p (List.mem_append_left _ hm), fun c p hm => hi'.fits.sep c p (List.mem_append_left _ hm), by
    have := hi'.fits.nd
    rw [List.map_append] at this
    exact (List.nodup_append.1 this).1⟩
  refine (hs W hfit).mono ?_
  rintro e W2 ⟨v, J, M', rfl, hR', hi2⟩
  have hnd := hi'.fits.nd
  rw [List.map_append] at hnd
  obtain ⟨hnM, hnN, hdis⟩ := List.nodup_append.1 hnd
  have hltW : ∀ c p, (c, p) ∈ M ++ N → c < W.heap.size := fun c p hm => (Array.getElem?_eq_some_iff.1 (hi'.fits.own c p hm)).1
  have hNM : ∀ c p, (c, p) ∈ N → c ∉ M.map Prod.fst := fun c p hm hmm => hdis c hmm c (List.mem_map.2 ⟨(c, p), hm, rfl⟩) rfl
  have hN : ∀ c p, (c, p) ∈ N → W2.heap[c]? = some p := fun c p hm => by
    rw [hi2.old c (hltW c p (List.mem_append_right _ hm)) (hNM c p hm)]
    exact hi'.fits.own c p (List.mem_append_right _ hm)
  have hinv : Inv C.w0 C.I0 C.L0 J (M' ++ N) W2 := by
    refine ⟨hi2.os.trans hi.os, hi2.tape.trans hi.tape, hi2.output.trans hi.output, Nat.le_trans hi.size hi2.size, ?_, ⟨hi2.fits.imm, ?_, ?_, ?_⟩, hi.ext.trans hi2.ext, ?_, ?_⟩
    · intro c hc hcL
      rw [hi2.old c (Nat.lt_of_lt_of_le hc hi.size) ?_, hi.old c hc hcL]
      intro hm
      obtain ⟨⟨c', p⟩, hm', rfl⟩ := List.mem_map.1 hm
      rcases hi'.newL c' p (List.mem_append_left _ hm') with h | h
      · exact absurd hc (Nat.not_lt.2 h)
      · exact hcL h
    · intro c p hm
      rcases List.mem_append.1 hm with hm | hm
      · exact hi2.fits.own c p hm
      · exact hN c p hm
    · intro c p hm
      rcases List.mem_append.1 hm with hm | hm
      · exact hi2.fits.sep c p hm
      · cases hJ : J c with
        | none => rfl
        | some q =>
          rcases hi2.newI c q hJ with h | h | h
          · have := hi'.fits.sep c p (List.mem_append_right _ hm); rw [this] at h; cases h
          · exact absurd (hltW c p (List.mem_append_right _ hm)) (Nat.not_lt.2 h)
          · exact absurd h (hNM c p hm)
    · rw [List.map_append, List.nodup_append]
      refine ⟨hi2.fits.nd, hnN, ?_⟩
      intro c hc c' hc' heq
      subst heq
      obtain ⟨⟨c1, p⟩, hm, rfl⟩ := List.mem_map.1 hc
      obtain ⟨⟨c2, q⟩, hm2, heq2⟩ := List.mem_map.1 hc'
      simp only at heq2
      subst heq2
      rcases hi2.newL c2 p hm with h | h
      · exact absurd (hltW c2 q (List.mem_append_right _ hm2)) (Nat.not_lt.2 h)
      · exact hNM c2 q hm2 h
    · intro c p hJ
      rcases hi2.newI c p hJ with h | h | h
      · exact hi.newI c p h
      · exact .inr (.inl (Nat.le_trans hi.size h))
      · obtain ⟨⟨c', q⟩, hm', rfl⟩ := List.mem_map.1 h
        exact .inr (hi'.newL c' q (List.mem_append_left _ hm'))
    · intro c p hm
      rcases List.mem_append.1 hm with hm | hm
      · rcases hi2.newL c p hm with h | h
        · exact .inl (Nat.le_trans hi.size h)
        · obtain ⟨⟨c', q⟩, hm', rfl⟩ := List.mem_map.1 h
          exact hi'.newL c' q (List.mem_append_left _ hm')
      · exact hi'.newL c p (List.mem_append_right _ hm)
  exact ⟨v, M' ++ N, J, rfl, hinv, next v J M' hi2.ext hR'⟩
theorem Ops.callW {f : FuncId} {args : List Value} {M N : Own} {R : Value → Imm → Own → Prop} (hg : want env ops o.guard = some true) (hd : ∀ t, o.dst = some t → t < n)
    (h : ∀ a W, EnvOk n env a → (execOp a.eval o).run P W = .ok (.enter f args.toArray) W) (hL : L.Perm (M ++ N)) (hs : Spec P f args I M R)
    (next : ∀ v J M', Le I J → R v J M' → Ops P n C ops (i + 1) l k (V.put env o.dst v) (M' ++ N) J) : Ops P n C ops i (o :: l) k env L I := Ops.eff hg hd (Eff.callW h hL hs next)
/-- a guarded operation: the test says no -/
theorem Ops.off (hg : want env ops o.guard = some false) (hd : ∀ t, o.dst = some t → t < n)
    (next : Ops P n C ops (i + 1) l k (V.put env o.dst undef) L I) : Ops P n C ops i (o :: l) k env L I := by
  intro hl
  obtain ⟨ho, hl'⟩ := Ops.head hl
  intro b a cs W hb hk he hi
  have hw := want_spec he hg
  have hs := step_op_skip (P := P) (b := b) (a := a) (k := k) (cs := cs) (w := W) (ops := ops) (i := i) (rest := List.range' (i + 1) l.length) (by simp [ho, hw])
  simp only [ho, Option.bind_some] at hs
  obtain ⟨e, W', fr, h1, h2, h3⟩ := next hl' b _ cs W hb hk (he.put hd) hi
  refine ⟨e, W', fr, h1, Comes.of_steps (.one ?_) h2, h3⟩
  simpa [List.range'_succ] using hs
end
end Go.V
