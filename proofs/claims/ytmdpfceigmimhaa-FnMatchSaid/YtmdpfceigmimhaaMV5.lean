/-
  Plain operations at one stroke; calls.
-/
import Derived.Test.YtmdpfceigmimhaaMV4
namespace Go.V
open Go.RowKit
set_option linter.unusedVariables false
set_option linter.unusedSimpArgs false
/-- what is known of a program's types -/
structure Tab (P : Program) where
  und : Nat → Option TypeDesc
  size : Nat → Option Nat
  agg : Nat → Option Bool
  zero : Nat → Option Value
  undOk : ∀ {t u}, und t = some u → ∀ w, (underlying t).run P w = .ok u w
  sizeOk : ∀ {t m}, size t = some m → ∀ w, (sizeOf t).run P w = .ok m w
  aggOk : ∀ {t b}, agg t = some b → ∀ w, (isAgg t).run P w = .ok b w
  zeroOk : ∀ {t z}, zero t = some z → ∀ w, (zeroValue t).run P w = .ok z w
/-- plain operations -/
def evalOp {P : Program} (T : Tab P) (env : Env) : Op → Option Value
  | .move x => opnd env x
  | .assign x => opnd env x
  | .pick c x y => match opnd env c with
    | some (.bool true) => opnd env x
    | some (.bool false) => opnd env y
    | _ => none
  | .extract x ix => match opnd env x with
    | some (.tuple vs) => vs.toList[ix]?
    | _ => none
  | .nilCheck x => match opnd env x with
    | some (.pointer (some a)) => some (.pointer (some a))
    | some (.iface t v) => some (.iface t v)
    | _ => none
  | .unOp .not _ x => match opnd env x with
    | some (.bool b) => some (.bool (!b))
    | _ => none
  | .makeInterface t x => match T.und t, opnd env x with
    | some (.interface _), _ => none
    | some _, some v => some (.iface t v)
    | _, _ => none
  | .makeFunc fn fs cs => match opnds env fs.toList, opnds env cs.toList with
    | some vs, some ws => some (.func fn vs.toArray ws.toArray)
    | _, _ => none
  | .call ⟨.builtin .len, args, ts⟩ => match args.toList, ts.toList with
    | [x], [t] => match T.und t, opnd env x with
      | some (.slice _), some (.slice _ m _) => some (.int .i64 m)
      | _, _ => none
    | _, _ => none
  | .fieldAddr s x fl => match T.und s, opnd env x with
    | some (.struct fs), some (.pointer (some ⟨b, off, none⟩)) => match fs.toList[fl]? with
      | some f => match T.size f.type with
        | some (_ + 1) => some (.pointer (some ⟨b, off + f.offset, none⟩))
        | _ => none
      | none => none
    | _, _ => none
  | .field s x fl => match T.und s, opnd env x with
    | some (.struct fs), some (.agg cs) => match fs.toList[fl]? with
      | some f => match T.agg f.type with
        | some false => cs.toList[f.offset]?
        | _ => none
      | none => none
    | _, _ => none
  | _ => none
theorem evalOp_ok {P : Program} {T : Tab P} {n : Nat} {env : Env} {op : Op} {v : Value} (h : evalOp T env op = some v) {a : Act} (he : EnvOk n env a) (W : World) {dst : Option Tmp} {ty : TypeId} {ps : String} {af : Array Edge} {g : Option (Nat × Bool)} :
    (execOp a.eval ⟨dst, op, ty, ps, af, g⟩).run P W = .ok (.value v) W := by
  unfold evalOp at h
  split at h
  · simp [execOp, eval_opnd he h]
  · simp [execOp, eval_opnd he h]
  · split at h
    · rename_i hc; simp [execOp, eval_opnd he hc, asBool, eval_opnd he h]
    · rename_i hc; simp [execOp, eval_opnd he hc, asBool, eval_opnd he h]
    · cases h
  · split at h
    · rename_i hx; simp [execOp, eval_opnd he hx, Instr.extract]; simp at h; simp [h]
    · cases h
  · split at h
    · rename_i hx; cases h; simp [execOp, eval_opnd he hx]
    · rename_i hx; cases h; simp [execOp, eval_opnd he hx]
    · cases h
  · split at h
    · rename_i hx; cases h; simp [execOp, eval_opnd he hx, Op.unary]
    · cases h
  · split at h
    · cases h
    · rename_i u v' hn hu hx
      cases h
      have := T.undOk hu W
      simp only [execOp, eval_opnd he hx, Instr.makeInterface, Sem.run_bind, this, Result.andThen_ok]
      cases u <;> first | exact absurd rfl (hn _) | rfl
    · cases h
  · rename_i fn fs cs
    split at h
    · rename_i vs ws hf hc; cases h
      have h1 := eval_opnds he hf
      have h2 := eval_opnds he hc
      have e1 : fs.map a.eval = vs.toArray := by apply Array.ext'; simpa using h1
      have e2 : cs.map a.eval = ws.toArray := by apply Array.ext'; simpa using h2
      simp [execOp, Instr.makeFunc, e1, e2]
    · cases h
  · rename_i args ts
    split at h
    · rename_i x t hx ht
      have e1 : args = #[x] := by rw [← Array.toArray_toList (xs := args), hx]
      have e2 : ts = #[t] := by rw [← Array.toArray_toList (xs := ts), ht]
      subst e1; subst e2
      split at h
      · rename_i hu hv; cases h
        simp [execOp, resolve, invoke, builtin, Builtin.len_, eval_opnd he hv, T.undOk hu, goInt]
      · cases h
    · cases h
  · split at h
    · rename_i fs b off hu hx
      split at h
      · rename_i f hf
        split at h
        · rename_i m hm
          cases h
          simp at hf
          simp [execOp, Instr.fieldAt, Instr.sureAddr, eval_opnd he hx, T.undOk hu, hf, fieldPlace, T.sizeOk hm, add_off]
        · cases h
      · cases h
    · cases h
  · split at h
    · rename_i fs cs hu hx
      split at h
      · rename_i f hf
        split at h
        · rename_i ha
          simp at hf h
          simp [execOp, Instr.field, eval_opnd he hx, T.undOk hu, hf, asAgg, part, T.aggOk ha, h]
        · cases h
      · cases h
    · cases h
  · cases h
section
variable {P : Program} {n : Nat} {C : Cx} {k : List Item} {env : Env} {L : Own} {I : Imm} {ops : Array Oper} {i : Nat} {l : List Oper}
variable {ty : TypeId} {ps : String} {af : Array Edge} {g : Option (Nat × Bool)} {d : Nat}
theorem Ops.pure (T : Tab P) {op : Op} {v : Value} (hg : want env ops g = some true) (hd : d < n) (h : evalOp T env op = some v)
    (next : Ops P n C ops (i + 1) l k ((d, v) :: env) L I) : Ops P n C ops i (⟨some d, op, ty, ps, af, g⟩ :: l) k env L I :=
  Ops.val hg (dOk hd) (fun a W he _ => evalOp_ok h he W) next
theorem Ops.not {op : Op} (hg : want env ops g = some false) (hd : d < n) (next : Ops P n C ops (i + 1) l k ((d, undef) :: env) L I) : Ops P n C ops i (⟨some d, op, ty, ps, af, g⟩ :: l) k env L I :=
  Ops.off hg (dOk hd) next
theorem Ops.notS {op : Op} (hg : want env ops g = some false) (next : Ops P n C ops (i + 1) l k env L I) : Ops P n C ops i (⟨none, op, ty, ps, af, g⟩ :: l) k env L I :=
  Ops.off hg dNo next
/-- a length, of a text in our form -/
theorem Ops.lenS {x : Operand} {s : List UInt8} {ts : TypeId} (T : Tab P) (hg : want env ops g = some true) (hd : d < n) (hu : T.und ts = some .string) (hx : opnd env x = some (str s))
    (next : Ops P n C ops (i + 1) l k ((d, .int .i64 s.length) :: env) L I) : Ops P n C ops i (⟨some d, .call ⟨.builtin .len, #[x], #[ts]⟩, ty, ps, af, g⟩ :: l) k env L I :=
  Ops.lenStr hg hd (T.undOk hu) hx next
/-- a call that is handed nothing to write -/
def Pure (P : Program) (f : FuncId) (args : List Value) (I : Imm) (R : Value → Imm → Prop) : Prop := Spec P f args I [] (fun v J M => M = [] ∧ R v J)
theorem Pure.mono {f : FuncId} {args : List Value} {R R' : Value → Imm → Prop} (h : Pure P f args I R) (k : ∀ v J, Le I J → R v J → R' v J) : Pure P f args I R' :=
  Spec.mono h fun v J M hle ⟨h1, h2⟩ => ⟨h1, k v J hle h2⟩
theorem run_callF {f : FuncId} {xs : List Operand} {ats : Array TypeId} {vs : List Value} {a : Act} {W : World} {dst : Option Tmp} (hc : ∀ args w, (callFunc f args).run P w = .ok (.enter f args) w) (he : EnvOk n env a) (hx : opnds env xs = some vs) :
    (execOp a.eval ⟨dst, .call ⟨.value (.func f), xs.toArray, ats⟩, ty, ps, af, g⟩).run P W = .ok (.enter f vs.toArray) W := by
  have h := eval_opnds he hx
  simp [execOp, resolve, Act.eval, Deferred.ofValue, invoke, hc, h]
theorem Ops.call {f : FuncId} {xs : List Operand} {ats : Array TypeId} {vs : List Value} {R : Value → Imm → Prop} (hs : Pure P f vs I R) (hg : want env ops g = some true) (hd : d < n) (hc : ∀ args w, (callFunc f args).run P w = .ok (.enter f args) w)
    (hx : opnds env xs = some vs) (next : ∀ v J, Le I J → R v J → Ops P n C ops (i + 1) l k ((d, v) :: env) L J) :
    Ops P n C ops i (⟨some d, .call ⟨.value (.func f), xs.toArray, ats⟩, ty, ps, af, g⟩ :: l) k env L I :=
  Ops.callW (M := []) (N := L) hg (dOk hd) (fun a W he => run_callF hc he hx) (.refl _) hs fun v J M' hle ⟨hM, hR⟩ => by subst hM; exact next v J hle hR
/-- a call that is handed blocks -/
theorem Ops.callM {f : FuncId} {xs : List Operand} {ats : Array TypeId} {vs : List Value} {M N : Own} {R : Value → Imm → Own → Prop} (hs : Spec P f vs I M R) (hL : L.Perm (M ++ N)) (hg : want env ops g = some true) (hd : d < n) (hc : ∀ args w, (callFunc f args).run P w = .ok (.enter f args) w)
    (hx : opnds env xs = some vs) (next : ∀ v J M', Le I J → R v J M' → Ops P n C ops (i + 1) l k ((d, v) :: env) (M' ++ N) J) :
    Ops P n C ops i (⟨some d, .call ⟨.value (.func f), xs.toArray, ats⟩, ty, ps, af, g⟩ :: l) k env L I :=
  Ops.callW hg (dOk hd) (fun a W he => run_callF hc he hx) hL hs next
/-- a call of a function value -/
theorem run_callV {f : FuncId} {x : Operand} {xs : List Operand} {ats : Array TypeId} {fs ws vs : List Value} {a : Act} {W : World} {dst : Option Tmp} (hc : ∀ args w, (callFunc f args).run P w = .ok (.enter f args) w) (he : EnvOk n env a)
    (hf : opnd env x = some (.func (.func f) fs.toArray ws.toArray)) (hx : opnds env xs = some vs) :
    (execOp a.eval ⟨dst, .call ⟨.value x, xs.toArray, ats⟩, ty, ps, af, g⟩).run P W = .ok (.enter f (fs ++ vs ++ ws).toArray) W := by
  have h := eval_opnds he hx
  simp [execOp, resolve, eval_opnd he hf, Deferred.ofValue, invoke, hc, h]
theorem Ops.callVM {f : FuncId} {x : Operand} {xs : List Operand} {ats : Array TypeId} {fs ws vs : List Value} {M N : Own} {R : Value → Imm → Own → Prop} (hs : Spec P f (fs ++ vs ++ ws) I M R) (hL : L.Perm (M ++ N)) (hg : want env ops g = some true) (hd : d < n) (hc : ∀ args w, (callFunc f args).run P w = .ok (.enter f args) w)
    (hf : opnd env x = some (.func (.func f) fs.toArray ws.toArray)) (hx : opnds env xs = some vs) (next : ∀ v J M', Le I J → R v J M' → Ops P n C ops (i + 1) l k ((d, v) :: env) (M' ++ N) J) :
    Ops P n C ops i (⟨some d, .call ⟨.value x, xs.toArray, ats⟩, ty, ps, af, g⟩ :: l) k env L I :=
  Ops.callW hg (dOk hd) (fun a W he => run_callV hc he hf hx) hL hs next
/-- a method of a value behind an interface -/
theorem run_invoke {f : FuncId} {x : Operand} {m : String} {xs : List Operand} {ats : Array TypeId} {t : TypeId} {u rv : Value} {vs : List Value} {a : Act} {W : World} {dst : Option Tmp} (hc : ∀ args w, (callFunc f args).run P w = .ok (.enter f args) w) (he : EnvOk n env a)
    (hf : opnd env x = some (.iface t u)) (hm : ∀ w, (method (P.types.size + Made.depth) t u m).run P w = .ok (f, rv) w) (hx : opnds env xs = some vs) :
    (execOp a.eval ⟨dst, .call ⟨.invoke x m, xs.toArray, ats⟩, ty, ps, af, g⟩).run P W = .ok (.enter f (rv :: vs).toArray) W := by
  have h := eval_opnds he hx
  have hp : (program).run P W = .ok P W := rfl
  simp [execOp, resolve, eval_opnd he hf, invoke, callMethod, hp, hm, hc, h]
theorem Ops.invoke {f : FuncId} {x : Operand} {m : String} {xs : List Operand} {ats : Array TypeId} {t : TypeId} {u rv : Value} {vs : List Value} {R : Value → Imm → Prop} (hs : Pure P f (rv :: vs) I R) (hg : want env ops g = some true) (hd : d < n) (hc : ∀ args w, (callFunc f args).run P w = .ok (.enter f args) w)
    (hf : opnd env x = some (.iface t u)) (hm : ∀ w, (method (P.types.size + Made.depth) t u m).run P w = .ok (f, rv) w) (hx : opnds env xs = some vs) (next : ∀ v J, Le I J → R v J → Ops P n C ops (i + 1) l k ((d, v) :: env) L J) :
    Ops P n C ops i (⟨some d, .call ⟨.invoke x m, xs.toArray, ats⟩, ty, ps, af, g⟩ :: l) k env L I :=
  Ops.callW (M := []) (N := L) hg (dOk hd) (fun a W he => run_invoke hc he hf hm hx) (.refl _) hs fun v J M' hle ⟨hM, hR⟩ => by subst hM; exact next v J hle hR
theorem wI {x : Int} (h : -9223372036854775808 ≤ x) (h' : x ≤ 9223372036854775807) : IntKind.i64.wrap x = x := by
  simp [IntKind.wrap, IntKind.signed, IntKind.bits]; omega
/-- at a call's end: nothing is left to write -/
theorem Run.fin (h : Run P n C k env [] I) : Run P n C k env L I := Run.dropL (List.nil_sublist _) h
end
end Go.V
