/-
  Rules for the single operations: plain values, blocks that the call owns, strings, numbers.
-/
import Derived.Test.YtmdpfceigmimhaaMV1
namespace Go.V
set_option linter.unusedVariables false
set_option linter.unusedSimpArgs false
/-- a text as a value -/
def str (l : List UInt8) : Value := .string ⟨l.toArray⟩
def opnd (env : Env) : Operand → Option Value
  | .tmp t => look env t
  | .const v => some v
  | .global g => some (.pointer (some ⟨g, 0, none⟩))
  | .func f => some (.func (.func f) #[] #[])
def opnds (env : Env) : List Operand → Option (List Value)
  | [] => some []
  | x :: r => match opnd env x, opnds env r with
    | some v, some vs => some (v :: vs)
    | _, _ => none
def blk (cs : List Value) (t : TypeId) : Obj := .cells cs.toArray t (0, 0)
theorem str_size (l : List UInt8) : (⟨l.toArray⟩ : ByteArray).size = l.length := by show l.toArray.size = _; simp
theorem ba_toList (s : ByteArray) : s.toList = s.data.toList := ByteArray.toList_eq s
theorem str_toList (l : List UInt8) : (⟨l.toArray⟩ : ByteArray).toList = l := by rw [ba_toList]
section
variable {P : Program} {n : Nat} {C : Cx} {k : List Item} {env : Env} {L : Own} {I : Imm} {ops : Array Oper} {i : Nat} {l : List Oper}
variable {ty : TypeId} {ps : String} {af : Array Edge} {g : Option (Nat × Bool)} {d : Nat}
theorem eval_opnd {a : Act} {x : Operand} {v : Value} (he : EnvOk n env a) (h : opnd env x = some v) : a.eval x = v := by
  cases x with
  | tmp t => simp only [Act.eval]; exact he.getD h
  | const c => simpa [opnd, Act.eval] using h
  | global g => simpa [opnd, Act.eval] using h
  | func f => simpa [opnd, Act.eval] using h
theorem eval_opnds {a : Act} (he : EnvOk n env a) : ∀ {xs : List Operand} {vs : List Value}, opnds env xs = some vs → xs.map a.eval = vs
  | [], vs, h => by simp [opnds] at h; simp [h]
  | x :: r, vs, h => by
    simp only [opnds] at h
    split at h
    · rename_i v ws h1 h2
      cases h
      simp [eval_opnd he h1, eval_opnds he h2]
    · cases h
theorem dOk {d n : Nat} (hd : d < n) : ∀ t, some d = some t → t < n := fun _ h => by cases h; exact hd
theorem dNo {n : Nat} : ∀ t, (none : Option Nat) = some t → t < n := fun _ h => by cases h
theorem Ops.move {x : Operand} {v : Value} (hg : want env ops g = some true) (hd : d < n) (hx : opnd env x = some v)
    (next : Ops P n C ops (i + 1) l k ((d, v) :: env) L I) : Ops P n C ops i (⟨some d, .move x, ty, ps, af, g⟩ :: l) k env L I :=
  Ops.val hg (dOk hd) (fun a W he _ => by simp [execOp, eval_opnd he hx]) next
theorem Ops.assign {x : Operand} {v : Value} (hg : want env ops g = some true) (hd : d < n) (hx : opnd env x = some v)
    (next : Ops P n C ops (i + 1) l k ((d, v) :: env) L I) : Ops P n C ops i (⟨some d, .assign x, ty, ps, af, g⟩ :: l) k env L I :=
  Ops.val hg (dOk hd) (fun a W he _ => by simp [execOp, eval_opnd he hx]) next
theorem Ops.pick {c x y : Operand} {t : Bool} {v : Value} (hg : want env ops g = some true) (hd : d < n) (hc : opnd env c = some (.bool t)) (hx : opnd env (if t then x else y) = some v)
    (next : Ops P n C ops (i + 1) l k ((d, v) :: env) L I) : Ops P n C ops i (⟨some d, .pick c x y, ty, ps, af, g⟩ :: l) k env L I :=
  Ops.val hg (dOk hd) (fun a W he _ => by
    simp only [execOp, eval_opnd he hc, asBool]
    cases t <;> simp at hx <;> simp [eval_opnd he hx]) next
theorem Ops.extract {x : Operand} {vs : List Value} {ix : Nat} {v : Value} (hg : want env ops g = some true) (hd : d < n) (hx : opnd env x = some (.tuple vs.toArray)) (hv : vs[ix]? = some v)
    (next : Ops P n C ops (i + 1) l k ((d, v) :: env) L I) : Ops P n C ops i (⟨some d, .extract x ix, ty, ps, af, g⟩ :: l) k env L I :=
  Ops.val hg (dOk hd) (fun a W he _ => by simp [execOp, eval_opnd he hx, Instr.extract, hv]) next
theorem Ops.nilCheck {x : Operand} {a0 : Addr} (hg : want env ops g = some true) (hd : d < n) (hx : opnd env x = some (.pointer (some a0)))
    (next : Ops P n C ops (i + 1) l k ((d, .pointer (some a0)) :: env) L I) : Ops P n C ops i (⟨some d, .nilCheck x, ty, ps, af, g⟩ :: l) k env L I :=
  Ops.val hg (dOk hd) (fun a W he _ => by simp [execOp, eval_opnd he hx]) next
theorem Ops.makeInterface {x : Operand} {v : Value} {xt : TypeId} {u : TypeDesc} (hg : want env ops g = some true) (hd : d < n) (hu : ∀ w, (underlying xt).run P w = .ok u w) (hn : ∀ ms, u ≠ .interface ms) (hx : opnd env x = some v)
    (next : Ops P n C ops (i + 1) l k ((d, .iface xt v) :: env) L I) : Ops P n C ops i (⟨some d, .makeInterface xt x, ty, ps, af, g⟩ :: l) k env L I :=
  Ops.val hg (dOk hd) (fun a W he _ => by
    simp only [execOp, eval_opnd he hx, Instr.makeInterface, Sem.run_bind, hu, Result.andThen_ok]
    cases u <;> first | exact absurd rfl (hn _) | rfl) next
theorem Ops.makeFunc {fn : Fn} {fs cs : List Operand} {vs ws : List Value} (hg : want env ops g = some true) (hd : d < n) (hf : opnds env fs = some vs) (hc : opnds env cs = some ws)
    (next : Ops P n C ops (i + 1) l k ((d, .func fn vs.toArray ws.toArray) :: env) L I) : Ops P n C ops i (⟨some d, .makeFunc fn fs.toArray cs.toArray, ty, ps, af, g⟩ :: l) k env L I :=
  Ops.val hg (dOk hd) (fun a W he _ => by simp [execOp, Instr.makeFunc, eval_opnds he hf, eval_opnds he hc]) next
theorem run_eqGuard_int (op : BinOp) (t : TypeId) (x y : Operand) (k : IntKind) (a : Int) (b : Value) (w : World) : (eqGuard op t x y (.int k a) b).run P w = .ok () w := by
  unfold eqGuard; cases op <;> simp <;> rfl
theorem run_eqGuard_string (op : BinOp) (t : TypeId) (x y : Operand) (a : ByteArray) (b : Value) (w : World) : (eqGuard op t x y (.string a) b).run P w = .ok () w := by
  unfold eqGuard; cases op <;> simp <;> rfl
theorem run_eqGuard_bool (op : BinOp) (t : TypeId) (x y : Operand) (a : Bool) (b : Value) (w : World) : (eqGuard op t x y (.bool a) b).run P w = .ok () w := by
  unfold eqGuard; cases op <;> simp <;> rfl
section
variable {x y : Operand} {kd : IntKind} {a b r : Int} {t t' : TypeId}
theorem Ops.add (hg : want env ops g = some true) (hd : d < n) (hx : opnd env x = some (.int kd a)) (hy : opnd env y = some (.int kd b)) (hr : kd.wrap (a + b) = r)
    (next : Ops P n C ops (i + 1) l k ((d, .int kd r) :: env) L I) : Ops P n C ops i (⟨some d, .binOp .add t x y t', ty, ps, af, g⟩ :: l) k env L I :=
  Ops.val hg (dOk hd) (fun c W he _ => by subst hr; simp [execOp, eval_opnd he hx, eval_opnd he hy, run_eqGuard_int, binOp, Op.intArith]) next
theorem Ops.sub (hg : want env ops g = some true) (hd : d < n) (hx : opnd env x = some (.int kd a)) (hy : opnd env y = some (.int kd b)) (hr : kd.wrap (a - b) = r)
    (next : Ops P n C ops (i + 1) l k ((d, .int kd r) :: env) L I) : Ops P n C ops i (⟨some d, .binOp .sub t x y t', ty, ps, af, g⟩ :: l) k env L I :=
  Ops.val hg (dOk hd) (fun c W he _ => by subst hr; simp [execOp, eval_opnd he hx, eval_opnd he hy, run_eqGuard_int, binOp, Op.intArith]) next
theorem Ops.rem (hg : want env ops g = some true) (hd : d < n) (hx : opnd env x = some (.int kd a)) (hy : opnd env y = some (.int kd b)) (hb : b ≠ 0) (hr : a.tmod b = r)
    (next : Ops P n C ops (i + 1) l k ((d, .int kd r) :: env) L I) : Ops P n C ops i (⟨some d, .binOp .rem t x y t', ty, ps, af, g⟩ :: l) k env L I :=
  Ops.val hg (dOk hd) (fun c W he _ => by subst hr; simp [execOp, eval_opnd he hx, eval_opnd he hy, run_eqGuard_int, binOp, Op.intDiv, hb]) next
/-- & ¦ | ¦ ^ ¦ &^ -/
def bitsOf (op : BinOp) (kd : IntKind) (a b : Int) : Int :=
  let u := BitVec.ofInt kd.bits a
  let v := BitVec.ofInt kd.bits b
  kd.wrap ((match op with | .and => u &&& v | .or => u ||| v | .xor => u ^^^ v | _ => u &&& ~~~v : BitVec kd.bits).toNat)
theorem Ops.bits {op : BinOp} (hop : op = .and ∨ op = .or ∨ op = .xor ∨ op = .andNot) (hg : want env ops g = some true) (hd : d < n) (hx : opnd env x = some (.int kd a)) (hy : opnd env y = some (.int kd b)) (hr : bitsOf op kd a b = r)
    (next : Ops P n C ops (i + 1) l k ((d, .int kd r) :: env) L I) : Ops P n C ops i (⟨some d, .binOp op t x y t', ty, ps, af, g⟩ :: l) k env L I :=
  Ops.val hg (dOk hd) (fun c W he _ => by
    subst hr
    rcases hop with rfl | rfl | rfl | rfl <;> simp [execOp, eval_opnd he hx, eval_opnd he hy, run_eqGuard_int, binOp, Op.intBits, bitsOf]) next
theorem Ops.eql (hg : want env ops g = some true) (hd : d < n) (hx : opnd env x = some (.int kd a)) (hy : opnd env y = some (.int kd b))
    (next : Ops P n C ops (i + 1) l k ((d, .bool (decide (a = b))) :: env) L I) : Ops P n C ops i (⟨some d, .binOp .eql t x y t', ty, ps, af, g⟩ :: l) k env L I :=
  Ops.val hg (dOk hd) (fun c W he _ => by simp [execOp, eval_opnd he hx, eval_opnd he hy, run_eqGuard_int, binOp, Op.intCmp]; rfl) next
theorem Ops.neq (hg : want env ops g = some true) (hd : d < n) (hx : opnd env x = some (.int kd a)) (hy : opnd env y = some (.int kd b))
    (next : Ops P n C ops (i + 1) l k ((d, .bool (!decide (a = b))) :: env) L I) : Ops P n C ops i (⟨some d, .binOp .neq t x y t', ty, ps, af, g⟩ :: l) k env L I :=
  Ops.val hg (dOk hd) (fun c W he _ => by simp [execOp, eval_opnd he hx, eval_opnd he hy, run_eqGuard_int, binOp, Op.intCmp]; rfl) next
theorem Ops.lss (hg : want env ops g = some true) (hd : d < n) (hx : opnd env x = some (.int kd a)) (hy : opnd env y = some (.int kd b))
    (next : Ops P n C ops (i + 1) l k ((d, .bool (decide (a < b))) :: env) L I) : Ops P n C ops i (⟨some d, .binOp .lss t x y t', ty, ps, af, g⟩ :: l) k env L I :=
  Ops.val hg (dOk hd) (fun c W he _ => by simp [execOp, eval_opnd he hx, eval_opnd he hy, run_eqGuard_int, binOp, Op.intCmp]) next
theorem Ops.leq (hg : want env ops g = some true) (hd : d < n) (hx : opnd env x = some (.int kd a)) (hy : opnd env y = some (.int kd b))
    (next : Ops P n C ops (i + 1) l k ((d, .bool (decide (a ≤ b))) :: env) L I) : Ops P n C ops i (⟨some d, .binOp .leq t x y t', ty, ps, af, g⟩ :: l) k env L I :=
  Ops.val hg (dOk hd) (fun c W he _ => by simp [execOp, eval_opnd he hx, eval_opnd he hy, run_eqGuard_int, binOp, Op.intCmp]) next
theorem Ops.gtr (hg : want env ops g = some true) (hd : d < n) (hx : opnd env x = some (.int kd a)) (hy : opnd env y = some (.int kd b))
    (next : Ops P n C ops (i + 1) l k ((d, .bool (decide (b < a))) :: env) L I) : Ops P n C ops i (⟨some d, .binOp .gtr t x y t', ty, ps, af, g⟩ :: l) k env L I :=
  Ops.val hg (dOk hd) (fun c W he _ => by simp [execOp, eval_opnd he hx, eval_opnd he hy, run_eqGuard_int, binOp, Op.intCmp]) next
theorem Ops.convInt {src dst : TypeId} {kd' : IntKind} {us : TypeDesc} (hg : want env ops g = some true) (hd : d < n) (hs : ∀ w, (underlying src).run P w = .ok us w) (ht : ∀ w, (underlying dst).run P w = .ok (.int kd') w)
    (hx : opnd env x = some (.int kd a)) (hr : kd'.wrap a = r)
    (next : Ops P n C ops (i + 1) l k ((d, .int kd' r) :: env) L I) : Ops P n C ops i (⟨some d, .convert src dst x, ty, ps, af, g⟩ :: l) k env L I :=
  Ops.val hg (dOk hd) (fun c W he _ => by
    subst hr
    simp only [execOp, eval_opnd he hx, convert, Sem.run_bind, hs, ht, Result.andThen_ok]
    cases us <;> simp [Conv.intToInt]) next
end
/-! texts -/
section
variable {x y : Operand} {s u : List UInt8} {t t' : TypeId}
theorem Ops.lenStr {ts : TypeId} (hg : want env ops g = some true) (hd : d < n) (hu : ∀ w, (underlying ts).run P w = .ok .string w) (hx : opnd env x = some (str s))
    (next : Ops P n C ops (i + 1) l k ((d, .int .i64 s.length) :: env) L I) : Ops P n C ops i (⟨some d, .call ⟨.builtin .len, #[x], #[ts]⟩, ty, ps, af, g⟩ :: l) k env L I :=
  Ops.val hg (dOk hd) (fun c W he _ => by
    simp [execOp, resolve, invoke, builtin, Builtin.len_, eval_opnd he hx, hu, str, goInt, str_size]) next
theorem run_sliceBound {v : Value} {kd : IntKind} {j : Int} {y : Nat} {code : BoundsCode} (h : v = .int kd j) (h0 : 0 ≤ j) (h1 : j ≤ y) (w : World) : (Instr.sliceBound v y code).run P w = .ok j.toNat w := by
  subst h
  simp only [Instr.sliceBound, asIntOf, Sem.run_bind, Sem.run_pure, Result.andThen_ok]
  rw [if_pos ⟨h0, h1⟩]; rfl
theorem Ops.eqlStr (hg : want env ops g = some true) (hd : d < n) (hx : opnd env x = some (str s)) (hy : opnd env y = some (str u))
    (next : Ops P n C ops (i + 1) l k ((d, .bool (decide (s = u))) :: env) L I) : Ops P n C ops i (⟨some d, .binOp .eql t x y t', ty, ps, af, g⟩ :: l) k env L I :=
  Ops.val hg (dOk hd) (fun c W he _ => by
    have : (s == u) = decide (s = u) := by rw [Bool.eq_iff_iff]; simp
    simp [execOp, eval_opnd he hx, eval_opnd he hy, str, run_eqGuard_string, binOp, Op.stringOp, str_toList, this]) next
theorem Ops.neqStr (hg : want env ops g = some true) (hd : d < n) (hx : opnd env x = some (str s)) (hy : opnd env y = some (str u))
    (next : Ops P n C ops (i + 1) l k ((d, .bool (!decide (s = u))) :: env) L I) : Ops P n C ops i (⟨some d, .binOp .neq t x y t', ty, ps, af, g⟩ :: l) k env L I :=
  Ops.val hg (dOk hd) (fun c W he _ => by
    have : (s == u) = decide (s = u) := by rw [Bool.eq_iff_iff]; simp
    simp [execOp, eval_opnd he hx, eval_opnd he hy, str, run_eqGuard_string, binOp, Op.stringOp, str_toList, this]) next
end
end
end Go.V
