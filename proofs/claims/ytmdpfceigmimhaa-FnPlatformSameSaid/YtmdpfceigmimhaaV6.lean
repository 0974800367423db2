/-
  Texts by runes; conversions; comparisons with nil; the least of two.
-/
import Derived.Test.YtmdpfceigmimhaaV5
namespace Go.V
open Go.RowKit
set_option linter.unusedVariables false
set_option linter.unusedSimpArgs false

def ba (s : List UInt8) : ByteArray := ⟨s.toArray⟩
/-- the rune at a place, and its width -/
def runeAt (s : List UInt8) (p : Nat) : Nat × Nat := Utf8.decode (ba s) p

theorem ba_get (s : List UInt8) (i : Nat) : (ba s).get! i = s.getD i 0 := by
  show s.toArray[i]! = _
  simp [List.getD_eq_getElem?_getD, List.getElem!_eq_getElem?_getD]
  rfl
theorem runeAt_ascii (s : List UInt8) (p : Nat) (h : (s.getD p 0).toNat < 128) : runeAt s p = ((s.getD p 0).toNat, 1) := by
  unfold runeAt Utf8.decode
  simp only [Nat.add_zero, ba_get]
  rw [if_pos h]
theorem runeAt_width (s : List UInt8) (p : Nat) : 1 ≤ (runeAt s p).2 ∧ (runeAt s p).2 ≤ 4 := by
  unfold runeAt Utf8.decode
  simp only
  (repeat' split) <;> simp

section
variable {P : Program} {n : Nat} {C : Cx} {k : List Item} {env : Env} {L : Own} {I : Imm} {ops : Array Oper} {i : Nat} {l : List Oper}
variable {ty : TypeId} {ps : String} {af : Array Edge} {g : Option (Nat × Bool)} {d : Nat}

theorem Ops.rangeStr {x : Operand} {s : List UInt8} {ts : TypeId} (T : Tab P) (hg : want env ops g = some true) (hd : d < n) (hu : T.und ts = some .string) (hx : opnd env x = some (str s))
    (next : ∀ b, Ops P n C ops (i + 1) l k ((d, .pointer (some ⟨b, 0, none⟩)) :: env) ((b, .stringIter (ba s) 0) :: L) I) : Ops P n C ops i (⟨some d, .range ts x, ty, ps, af, g⟩ :: l) k env L I :=
  Ops.valW hg (dOk hd) fun a W he hi => ⟨.pointer (some ⟨W.heap.size, 0, none⟩), W.alloc (.stringIter (ba s) 0), (W.heap.size, .stringIter (ba s) 0) :: L, I,
    .inl (by
      have : ({ W with heap := W.heap.push (.stringIter (ba s) 0) } : World) = W.alloc (.stringIter (ba s) 0) := rfl
      simp [execOp, Instr.range, eval_opnd he hx, T.undOk hu, str, newObj, Sem.run]; exact this), hi.alloc _, next _⟩

theorem run_setObj {W : World} {b : Nat} {o o' : Obj} (h : W.heap[b]? = some o) (ho : ∀ c e f, o ≠ .cells c e f) : (setObj b o').run P W = .ok () { W with heap := W.heap.setIfInBounds b o' } := by
  simp only [setObj, Sem.run, h]
theorem run_getObj {W : World} {b : Nat} {o : Obj} (h : W.heap[b]? = some o) (ho : ∀ c e f, o ≠ .cells c e f) : (getObj b).run P W = .ok o W := by
  simp only [getObj, Sem.run, h]

theorem Inv.setObj {w0 : World} {I0 : Imm} {L0 : List Nat} {W : World} {b : Nat} {o : Obj} (o' : Obj) (h : Inv w0 I0 L0 I ((b, o) :: L) W) : Inv w0 I0 L0 I ((b, o') :: L) { W with heap := W.heap.setIfInBounds b o' } := by
  have hlt := h.lt List.mem_cons_self
  exact h.upd rfl rfl rfl (by simp) (fun c _ hcb => by simp [Array.getElem?_setIfInBounds_ne (Ne.symm hcb)]) (by simp [hlt])

theorem Ops.nextStr {x : Operand} {b : Nat} {s : List UInt8} {p : Nat} (j : Nat) (hg : want env ops g = some true) (hd : d < n) (hx : opnd env x = some (.pointer (some ⟨b, 0, none⟩))) (hL : L[j]? = some (b, .stringIter (ba s) p)) (hp : p < s.length)
    (next : Ops P n C ops (i + 1) l k ((d, .tuple #[.bool true, .int .i64 p, .int .i32 (runeAt s p).1]) :: env) (upL L j (.stringIter (ba s) (p + (runeAt s p).2))) I) : Ops P n C ops i (⟨some d, .next x true, ty, ps, af, g⟩ :: l) k env L I :=
  Ops.valW hg (dOk hd) fun a W he hi => by
    obtain ⟨R, hp1, hp2⟩ := upL_perm L j b _ (.stringIter (ba s) (p + (runeAt s p).2)) hL
    have hW := hi.fits.own b _ (List.mem_of_getElem? hL)
    have hsz : p < (ba s).size := by rw [show (ba s).size = s.length from str_size s]; exact hp
    refine ⟨_, { W with heap := W.heap.setIfInBounds b (.stringIter (ba s) (p + (runeAt s p).2)) }, _, I, .inl ?_, ((hi.perm hp1).setObj _).perm hp2.symm, next⟩
    simp only [execOp, eval_opnd he hx, Instr.next, Sem.run_bind, run_getObj hW (fun _ _ _ h => by cases h), Result.andThen_ok, hsz, if_true]
    rw [show Utf8.decode (ba s) p = runeAt s p from rfl]
    have hso := run_setObj (P := P) (o' := .stringIter (ba s) (p + (runeAt s p).2)) hW (fun _ _ _ h => by cases h)
    simp only [Sem.run_bind, hso, Result.andThen_ok]
    rfl
theorem Ops.nextStrEnd {x : Operand} {b : Nat} {s : List UInt8} {p : Nat} (j : Nat) (hg : want env ops g = some true) (hd : d < n) (hx : opnd env x = some (.pointer (some ⟨b, 0, none⟩))) (hL : L[j]? = some (b, .stringIter (ba s) p)) (hp : ¬ p < s.length)
    (next : Ops P n C ops (i + 1) l k ((d, .tuple #[.bool false]) :: env) L I) : Ops P n C ops i (⟨some d, .next x true, ty, ps, af, g⟩ :: l) k env L I :=
  Ops.val hg (dOk hd) (fun a W he hi => by
    have hW := hi.fits.own b _ (List.mem_of_getElem? hL)
    have hsz : ¬ p < (ba s).size := by rw [show (ba s).size = s.length from str_size s]; exact hp
    simp only [execOp, eval_opnd he hx, Instr.next, Sem.run_bind, run_getObj hW (fun _ _ _ h => by cases h), Result.andThen_ok, hsz, if_false]
    rfl) next

/-- string(r) -/
def encR (r : Int) : List UInt8 := (Utf8.encode r).data.toList
theorem encR_str (r : Int) : Value.string (Utf8.encode r) = str (encR r) := by simp [str, encR]
theorem encR_ascii (r : Int) (h0 : 0 ≤ r) (h1 : r < 128) : encR r = [UInt8.ofNat r.toNat] := by
  unfold encR Utf8.encode
  have hv : Utf8.valid r = true := by simp [Utf8.valid]; left; omega
  simp only [hv, if_true]
  rw [if_pos (by omega)]
theorem Ops.convRune {x : Operand} {src dst : TypeId} {kd : IntKind} {r : Int} (T : Tab P) (hg : want env ops g = some true) (hd : d < n) (hs : T.und src = some (.int kd)) (ht : T.und dst = some .string) (hx : opnd env x = some (.int kd r))
    (next : Ops P n C ops (i + 1) l k ((d, str (encR r)) :: env) L I) : Ops P n C ops i (⟨some d, .convert src dst x, ty, ps, af, g⟩ :: l) k env L I :=
  Ops.val hg (dOk hd) (fun a W he hi => by
    simp [execOp, eval_opnd he hx, convert, T.undOk hs, T.undOk ht, Conv.intToString, encR_str]) next
theorem Ops.convStr {x : Operand} {src dst : TypeId} {s : List UInt8} (T : Tab P) (hg : want env ops g = some true) (hd : d < n) (hs : T.und src = some .string) (ht : T.und dst = some .string) (hx : opnd env x = some (str s))
    (next : Ops P n C ops (i + 1) l k ((d, str s) :: env) L I) : Ops P n C ops i (⟨some d, .convert src dst x, ty, ps, af, g⟩ :: l) k env L I :=
  Ops.val hg (dOk hd) (fun a W he hi => by
    simp [execOp, eval_opnd he hx, convert, T.undOk hs, T.undOk ht, str]) next

theorem Ops.min2 {x y : Operand} {ts : Array TypeId} {kd : IntKind} {a b : Int} (hg : want env ops g = some true) (hd : d < n) (hx : opnd env x = some (.int kd a)) (hy : opnd env y = some (.int kd b))
    (next : Ops P n C ops (i + 1) l k ((d, .int kd (if b < a then b else a)) :: env) L I) : Ops P n C ops i (⟨some d, .call ⟨.builtin .min, #[x, y], ts⟩, ty, ps, af, g⟩ :: l) k env L I :=
  Ops.val hg (dOk hd) (fun c W he hi => by
    simp [execOp, resolve, Go.invoke, builtin, eval_opnd he hx, eval_opnd he hy, Builtin.min_, Builtin.min2]) next

/-! against nil -/
def isNilV : Value → Option Bool
  | .pointer p => some p.isNone
  | .slice a _ _ => some a.isNone
  | .map m => some m.isNone
  | .nilIface => some true
  | .iface _ _ => some false
  | .nilFunc => some true
  | .func _ _ _ => some false
  | _ => none
def nilOf : TypeDesc → Option Value
  | .pointer _ => some (.pointer none)
  | .slice _ => some (.slice none 0 0)
  | .map _ _ => some (.map none)
  | .interface _ => some .nilIface
  | .func _ _ _ => some .nilFunc
  | _ => none
/-- do value and type go together? -/
def fitsNil : TypeDesc → Value → Bool
  | .pointer _, .pointer _ => true
  | .slice _, .slice _ _ _ => true
  | .map _ _, .map _ => true
  | .interface _, .nilIface => true
  | .interface _, .iface _ _ => true
  | .func _ _ _, .nilFunc => true
  | .func _ _ _, .func _ _ _ => true
  | _, _ => false

theorem run_equal_nil {t : TypeId} {u : TypeDesc} {v z : Value} {r : Bool} (hu : ∀ w, (underlying t).run P w = .ok u w) (hz : nilOf u = some z) (hv : isNilV v = some r) (hf : fitsNil u v = true) (W : World) : (Op.equal t v z).run P W = .ok r W := by
  unfold Op.equal Op.maxDepth Op.equalIn
  simp only [Sem.run_bind, hu, Result.andThen_ok]
  cases u <;> simp only [nilOf, Option.some.injEq, reduceCtorEq] at hz <;> subst hz <;> cases v <;> simp only [fitsNil, Bool.false_eq_true] at hf <;> simp only [isNilV, Option.some.injEq] at hv <;> subst hv
  case pointer.pointer e p => cases p <;> rfl
  case slice.slice e p m c => cases p <;> rfl
  case map.map a b p => cases p <;> rfl
  all_goals rfl

theorem run_eqGuard_nil {op : BinOp} {t : TypeId} {x : Operand} {v z c : Value} {u : TypeDesc} (hz : nilOf u = some z) (W : World) : (eqGuard op t x (.const c) v z).run P W = .ok () W := by
  unfold eqGuard
  cases u <;> simp [nilOf] at hz <;> subst hz <;> cases op <;> cases v <;> simp <;> rfl

theorem Ops.eqlNil {t t' : TypeId} {u : TypeDesc} {x : Operand} {v z : Value} {r : Bool} (T : Tab P) (hg : want env ops g = some true) (hd : d < n) (hu : T.und t = some u) (hz : nilOf u = some z) (hx : opnd env x = some v) (hv : isNilV v = some r) (hf : fitsNil u v = true)
    (next : Ops P n C ops (i + 1) l k ((d, .bool r) :: env) L I) : Ops P n C ops i (⟨some d, .binOp .eql t x (.const z) t', ty, ps, af, g⟩ :: l) k env L I :=
  Ops.val hg (dOk hd) (fun a W he hi => by
    have h1 := run_eqGuard_nil (P := P) (op := .eql) (t := t) (x := x) (v := v) (c := z) hz W
    have h2 := run_equal_nil (T.undOk hu) hz hv hf W
    have h3 : (binOp .eql t v z).run P W = .ok (.bool r) W := by
      cases u <;> simp [nilOf] at hz <;> subst hz <;> cases v <;> simp [fitsNil] at hf <;> simp [binOp, h2]
    simp only [execOp, eval_opnd he hx, eval_opnd (x := .const z) he rfl, Sem.run_bind, h1, h3, Result.andThen_ok]; rfl) next
theorem Ops.neqNil {t t' : TypeId} {u : TypeDesc} {x : Operand} {v z : Value} {r : Bool} (T : Tab P) (hg : want env ops g = some true) (hd : d < n) (hu : T.und t = some u) (hz : nilOf u = some z) (hx : opnd env x = some v) (hv : isNilV v = some r) (hf : fitsNil u v = true)
    (next : Ops P n C ops (i + 1) l k ((d, .bool (!r)) :: env) L I) : Ops P n C ops i (⟨some d, .binOp .neq t x (.const z) t', ty, ps, af, g⟩ :: l) k env L I :=
  Ops.val hg (dOk hd) (fun a W he hi => by
    have h1 := run_eqGuard_nil (P := P) (op := .neq) (t := t) (x := x) (v := v) (c := z) hz W
    have h2 := run_equal_nil (T.undOk hu) hz hv hf W
    have h3 : (binOp .neq t v z).run P W = .ok (.bool (!r)) W := by
      cases u <;> simp [nilOf] at hz <;> subst hz <;> cases v <;> simp [fitsNil] at hf <;> simp [binOp, h2]
    simp only [execOp, eval_opnd he hx, eval_opnd (x := .const z) he rfl, Sem.run_bind, h1, h3, Result.andThen_ok]; rfl) next

end
end Go.V
