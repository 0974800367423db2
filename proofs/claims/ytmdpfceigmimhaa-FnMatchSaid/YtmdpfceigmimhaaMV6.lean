/-
  Texts by runes; conversions; comparisons with nil; the least of two.
-/
import Derived.Test.YtmdpfceigmimhaaMV5
namespace Go.V
open Go.RowKit
set_option linter.unusedVariables false
set_option linter.unusedSimpArgs false
section
variable {P : Program} {n : Nat} {C : Cx} {k : List Item} {env : Env} {L : Own} {I : Imm} {ops : Array Oper} {i : Nat} {l : List Oper}
variable {ty : TypeId} {ps : String} {af : Array Edge} {g : Option (Nat × Bool)} {d : Nat}
theorem run_setObj {W : World} {b : Nat} {o o' : Obj} (h : W.heap[b]? = some o) (ho : ∀ c e f, o ≠ .cells c e f) : (setObj b o').run P W = .ok () { W with heap := W.heap.setIfInBounds b o' } := by
  simp only [setObj, Sem.run, h]
theorem run_getObj {W : World} {b : Nat} {o : Obj} (h : W.heap[b]? = some o) (ho : ∀ c e f, o ≠ .cells c e f) : (getObj b).run P W = .ok o W := by
  simp only [getObj, Sem.run, h]
theorem Inv.setObj {w0 : World} {I0 : Imm} {L0 : List Nat} {W : World} {b : Nat} {o : Obj} (o' : Obj) (h : Inv w0 I0 L0 I ((b, o) :: L) W) : Inv w0 I0 L0 I ((b, o') :: L) { W with heap := W.heap.setIfInBounds b o' } := by
  have hlt := h.lt List.mem_cons_self
  exact h.upd rfl rfl rfl (by simp) (fun c _ hcb => by simp [Array.getElem?_setIfInBounds_ne (Ne.symm hcb)]) (by simp [hlt])
def isNilV : Value → Option Bool
  | .pointer p => some p.isNone
  | .slice a _ _ => some a.isNone
  | .map m => some m.isNone
  | .nilIface => some true
  | .iface _ _ => some false
  | .nilFunc => some true
  | .func _ _ _ => some false
  | _ => none
def nilOf : TypeDesc → Option Value
  | .pointer _ => some (.pointer none)
  | .slice _ => some (.slice none 0 0)
  | .map _ _ => some (.map none)
  | .interface _ => some .nilIface
  | .func _ _ _ => some .nilFunc
  | _ => none
/-- do value and type go together? -/
def fitsNil : TypeDesc → Value → Bool
  | .pointer _, .pointer _ => true
  | .slice _, .slice _ _ _ => true
  | .map _ _, .map _ => true
  | .interface _, .nilIface => true
  | .interface _, .iface _ _ => true
  | .func _ _ _, .nilFunc => true
  | .func _ _ _, .func _ _ _ => true
  | _, _ => false
theorem run_equal_nil {t : TypeId} {u : TypeDesc} {v z : Value} {r : Bool} (hu : ∀ w, (underlying t).run P w = .ok u w) (hz : nilOf u = some z) (hv : isNilV v = some r) (hf : fitsNil u v = true) (W : World) : (Op.equal t v z).run P W = .ok r W := by
  unfold Op.equal Op.maxDepth Op.equalIn
  simp only [Sem.run_bind, hu, Result.andThen_ok]
  cases u <;> simp only [nilOf, Option.some.injEq, reduceCtorEq] at hz <;> subst hz <;> cases v <;> simp only [fitsNil, Bool.false_eq_true] at hf <;> simp only [isNilV, Option.some.injEq] at hv <;> subst hv
  case pointer.pointer e p => cases p <;> rfl
  case slice.slice e p m c => cases p <;> rfl
  case map.map a b p => cases p <;> rfl
  all_goals rfl
theorem run_eqGuard_nil {op : BinOp} {t : TypeId} {x : Operand} {v z c : Value} {u : TypeDesc} (hz : nilOf u = some z) (W : World) : (eqGuard op t x (.const c) v z).run P W = .ok () W := by
  unfold eqGuard
  cases u <;> simp [nilOf] at hz <;> subst hz <;> cases op <;> cases v <;> simp <;> rfl
theorem Ops.eqlNil {t t' : TypeId} {u : TypeDesc} {x : Operand} {v z : Value} {r : Bool} (T : Tab P) (hg : want env ops g = some true) (hd : d < n) (hu : T.und t = some u) (hz : nilOf u = some z) (hx : opnd env x = some v) (hv : isNilV v = some r) (hf : fitsNil u v = true)
    (next : Ops P n C ops (i + 1) l k ((d, .bool r) :: env) L I) : Ops P n C ops i (⟨some d, .binOp .eql t x (.const z) t', ty, ps, af, g⟩ :: l) k env L I :=
  Ops.val hg (dOk hd) (fun a W he hi => by
    have h1 := run_eqGuard_nil (P := P) (op := .eql) (t := t) (x := x) (v := v) (c := z) hz W
    have h2 := run_equal_nil (T.undOk hu) hz hv hf W
    have h3 : (binOp .eql t v z).run P W = .ok (.bool r) W := by
      cases u <;> simp [nilOf] at hz <;> subst hz <;> cases v <;> simp [fitsNil] at hf <;> simp [binOp, h2]
    simp only [execOp, eval_opnd he hx, eval_opnd (x := .const z) he rfl, Sem.run_bind, h1, h3, Result.andThen_ok]; rfl) next
theorem Ops.neqNil {t t' : TypeId} {u : TypeDesc} {x : Operand} {v z : Value} {r : Bool} (T : Tab P) (hg : want env ops g = some true) (hd : d < n) (hu : T.und t = some u) (hz : nilOf u = some z) (hx : opnd env x = some v) (hv : isNilV v = some r) (hf : fitsNil u v = true)
    (next : Ops P n C ops (i + 1) l k ((d, .bool (!r)) :: env) L I) : Ops P n C ops i (⟨some d, .binOp .neq t x (.const z) t', ty, ps, af, g⟩ :: l) k env L I :=
  Ops.val hg (dOk hd) (fun a W he hi => by
    have h1 := run_eqGuard_nil (P := P) (op := .neq) (t := t) (x := x) (v := v) (c := z) hz W
    have h2 := run_equal_nil (T.undOk hu) hz hv hf W
    have h3 : (binOp .neq t v z).run P W = .ok (.bool (!r)) W := by
      cases u <;> simp [nilOf] at hz <;> subst hz <;> cases v <;> simp [fitsNil] at hf <;> simp [binOp, h2]
    simp only [execOp, eval_opnd he hx, eval_opnd (x := .const z) he rfl, Sem.run_bind, h1, h3, Result.andThen_ok]; rfl) next
end
end Go.V
