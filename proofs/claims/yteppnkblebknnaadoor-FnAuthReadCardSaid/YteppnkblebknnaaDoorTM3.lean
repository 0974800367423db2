import Derived.Test.YteppnkblebknnaaDoorTM2
import Derived.Test.YteppnkblebknnaaDoorTM1
import Derived.Test.YteppnkblebknnaaDoorProg
import Derived.KernelRfl
import Derived.LaidEql
import Derived.Laws.MakeOwn
import Derived.Laws.BytesString
import Derived.LaidLaws
import Derived.MakeChecks
import Derived.ChangeBears2
import Derived.Lay
import Derived.Stop.Joined
import Derived.Deep.DeepHandedRow
import Derived.Lib.RuneBytes
import Derived.Lib.ValidU
/-
  Numbers without a sign, as Lean's own; rules that serve in whatever order.
-/
namespace Go.V
open Go.RowKit
set_option linter.unusedVariables false
set_option linter.unusedSimpArgs false
/-- an operation that yields v whatever the world -/
def Ev (P : Program) (n : Nat) (env : Env) (op : Op) (v : Value) : Prop := ∀ (a : Act) (W : World), EnvOk n env a → ∀ dst ty ps af g, (execOp a.eval ⟨dst, op, ty, ps, af, g⟩).run P W = .ok (.value v) W
abbrev w8 (a : UInt8) : Value := .int .u8 (a.toNat : Int)
theorem wrap32 (x : Int) : IntKind.u32.wrap x = x % 4294967296 := by simp [IntKind.wrap, IntKind.signed, IntKind.bits]
theorem wrap8 (x : Int) : IntKind.u8.wrap x = x % 256 := by simp [IntKind.wrap, IntKind.signed, IntKind.bits]
section
variable {P : Program} {n : Nat} {C : Cx} {k : List Item} {env : Env} {L : Own} {I : Imm} {ops : Array Oper} {i : Nat} {l : List Oper} {S : World → Prop}
variable {ty : TypeId} {ps : String} {af : Array Edge} {g : Option (Nat × Bool)} {d : Nat}
theorem Ops.ev {op : Op} {v : Value} (h : Ev P n env op v) (hg : want env ops g = some true) (hd : d < n) (next : Ops P n C ops (i + 1) l k ((d, v) :: env) L I) : Ops P n C ops i (⟨some d, op, ty, ps, af, g⟩ :: l) k env L I :=
  Ops.val hg (dOk hd) (fun a W he _ => h a W he _ _ _ _ _) next
theorem Yld.ev {op : Op} {v : Value} (h : Ev P n env op v) (hg : want env ops g = some true) : Yld P n env ops S ⟨some d, op, ty, ps, af, g⟩ v := .inl ⟨hg, fun a W he _ => h a W he _ _ _ _ _⟩
theorem Ev.yv {op : Op} {v : Value} (h : Ev P n env op v) : Yv P n env S op v := fun a W he _ dst ty ps af g => h a W he dst ty ps af g
theorem QD.e {D : List (Option Nat)} {Z : Env → Prop} {m : List Bool} {r : List Oper} {op : Op} {v : Value} (h : Ev P n env op v) (hd : d < n) (hg : wantD env D g = some true) (next : QD P n C D L I Z m r ((d, v) :: env)) : QD P n C D L I Z (true :: m) (⟨some d, op, ty, ps, af, g⟩ :: r) env :=
  QD.yv hd hg h.yv next
theorem Ev.as {op : Op} {v v' : Value} (h : Ev P n env op v) (e : v = v') : Ev P n env op v' := e ▸ h
variable {x y : Operand} {t t' : TypeId}
theorem Ev.of2 {op : BinOp} {v u r : Value} (hx : opnd env x = some v) (hy : opnd env y = some u) (h : ∀ W, (eqGuard op t x y v u).run P W = .ok () W) (h2 : ∀ W, (binOp op t v u).run P W = .ok r W) : Ev P n env (.binOp op t x y t') r :=
  fun a W he _ _ _ _ _ => by simp [execOp, eval_opnd he hx, eval_opnd he hy, h, h2]
section
variable {a b : UInt32}
end
section
variable {a b : UInt64}
end
theorem Ev.conv {src dst : TypeId} {ks kd : IntKind} {a r : Int} (T : Tab P) (hs : T.und src = some (.int ks)) (ht : T.und dst = some (.int kd)) (hx : opnd env x = some (.int ks a)) (hr : kd.wrap a = r) : Ev P n env (.convert src dst x) (.int kd r) :=
  fun c W he _ _ _ _ _ => by
    subst hr
    simp [execOp, eval_opnd he hx, convert, T.undOk hs, T.undOk ht, Conv.intToInt]
theorem Ev.indexP {ts e : TypeId} {ix : Operand} {kd : IntKind} {j : Int} {len b off size : Nat} (T : Tab P) (hu : T.und ts = some (.array len e)) (hz : T.size e = some size) (hx : opnd env x = some (.pointer (some ⟨b, off, none⟩))) (hi : opnd env ix = some (.int kd j))
    (h0 : 0 ≤ j) (h1 : j < len) : Ev P n env (.indexAddr ts x ix) (.pointer (some ⟨b, off + j.toNat * size, none⟩)) :=
  fun c W he _ _ _ _ _ => by
    simp [execOp, Instr.indexAt, Instr.sureAddr, eval_opnd he hx, eval_opnd he hi, asIntOf, T.undOk hu, T.sizeOk hz, h0, h1, add_off]
theorem Ev.indexS {ts e : TypeId} {ix : Operand} {kd : IntKind} {j : Int} {len c b off size : Nat} (T : Tab P) (hu : T.und ts = some (.slice e)) (hz : T.size e = some size) (hx : opnd env x = some (.slice (some ⟨b, off, none⟩) len c)) (hi : opnd env ix = some (.int kd j))
    (h0 : 0 ≤ j) (h1 : j < len) : Ev P n env (.indexAddr ts x ix) (.pointer (some ⟨b, off + j.toNat * size, none⟩)) :=
  fun c W he _ _ _ _ _ => by
    simp [execOp, Instr.indexAt, eval_opnd he hx, eval_opnd he hi, asIntOf, T.undOk hu, T.sizeOk hz, h0, h1, add_off]
/-- x[i] of a text -/
theorem Ev.indexT {ts : TypeId} {ix : Operand} {kd : IntKind} {j : Int} {s : List UInt8} (T : Tab P) (hu : T.und ts = some .string) (hx : opnd env x = some (str s)) (hi : opnd env ix = some (.int kd j)) (h0 : 0 ≤ j) (h1 : j < s.length) :
    Ev P n env (.index ts x ix) (w8 (s.getD j.toNat 0)) :=
  fun c W he _ _ _ _ _ => by
    have hj : j.toNat < s.length := by omega
    have : (⟨s.toArray⟩ : ByteArray)[j.toNat]? = some (s.getD j.toNat 0) := by
      rw [getElem?_pos (⟨s.toArray⟩ : ByteArray) j.toNat (by rw [str_size]; exact hj)]
      simp [List.getD_eq_getElem?_getD, hj, ByteArray.getElem_eq_getElem_data]
    simp [execOp, Instr.index, eval_opnd he hx, eval_opnd he hi, asIntOf, T.undOk hu, str, h0, this]
/-! whole numbers with a sign -/
section
variable {kd : IntKind} {a b r : Int}
theorem Ev.addI (hx : opnd env x = some (.int kd a)) (hy : opnd env y = some (.int kd b)) (hr : kd.wrap (a + b) = r) : Ev P n env (.binOp .add t x y t') (.int kd r) :=
  Ev.of2 hx hy (fun _ => run_eqGuard_int ..) fun W => by subst hr; simp [binOp, Op.intArith]
theorem Ev.subI (hx : opnd env x = some (.int kd a)) (hy : opnd env y = some (.int kd b)) (hr : kd.wrap (a - b) = r) : Ev P n env (.binOp .sub t x y t') (.int kd r) :=
  Ev.of2 hx hy (fun _ => run_eqGuard_int ..) fun W => by subst hr; simp [binOp, Op.intArith]
theorem Ev.quoI (hx : opnd env x = some (.int kd a)) (hy : opnd env y = some (.int kd b)) (hb : b ≠ 0) (hr : kd.wrap (a.tdiv b) = r) : Ev P n env (.binOp .quo t x y t') (.int kd r) :=
  Ev.of2 hx hy (fun _ => run_eqGuard_int ..) fun W => by subst hr; simp [binOp, Op.intDiv, hb]
theorem Ev.remI (hx : opnd env x = some (.int kd a)) (hy : opnd env y = some (.int kd b)) (hb : b ≠ 0) (hr : a.tmod b = r) : Ev P n env (.binOp .rem t x y t') (.int kd r) :=
  Ev.of2 hx hy (fun _ => run_eqGuard_int ..) fun W => by subst hr; simp [binOp, Op.intDiv, hb]
theorem Ev.lss (hx : opnd env x = some (.int kd a)) (hy : opnd env y = some (.int kd b)) : Ev P n env (.binOp .lss t x y t') (.bool (decide (a < b))) := Ev.of2 hx hy (fun _ => run_eqGuard_int ..) fun W => by simp [binOp, Op.intCmp]
theorem Ev.leq (hx : opnd env x = some (.int kd a)) (hy : opnd env y = some (.int kd b)) : Ev P n env (.binOp .leq t x y t') (.bool (decide (a ≤ b))) := Ev.of2 hx hy (fun _ => run_eqGuard_int ..) fun W => by simp [binOp, Op.intCmp]
theorem Ev.gtr (hx : opnd env x = some (.int kd a)) (hy : opnd env y = some (.int kd b)) : Ev P n env (.binOp .gtr t x y t') (.bool (decide (b < a))) := Ev.of2 hx hy (fun _ => run_eqGuard_int ..) fun W => by simp [binOp, Op.intCmp]
theorem Ev.geq (hx : opnd env x = some (.int kd a)) (hy : opnd env y = some (.int kd b)) : Ev P n env (.binOp .geq t x y t') (.bool (decide (b ≤ a))) := Ev.of2 hx hy (fun _ => run_eqGuard_int ..) fun W => by simp [binOp, Op.intCmp]
theorem Ev.eqlI (hx : opnd env x = some (.int kd a)) (hy : opnd env y = some (.int kd b)) : Ev P n env (.binOp .eql t x y t') (.bool (decide (a = b))) := Ev.of2 hx hy (fun _ => run_eqGuard_int ..) fun W => by simp [binOp, Op.intCmp]; rfl
theorem Ev.neqI (hx : opnd env x = some (.int kd a)) (hy : opnd env y = some (.int kd b)) : Ev P n env (.binOp .neq t x y t') (.bool (!decide (a = b))) := Ev.of2 hx hy (fun _ => run_eqGuard_int ..) fun W => by simp [binOp, Op.intCmp]; rfl
theorem Ev.min2 {ts : Array TypeId} (hx : opnd env x = some (.int kd a)) (hy : opnd env y = some (.int kd b)) : Ev P n env (.call ⟨.builtin .min, #[x, y], ts⟩) (.int kd (if b < a then b else a)) :=
  fun c W he dst ty ps af g => by
    simp [execOp, resolve, Go.invoke, builtin, eval_opnd he hx, eval_opnd he hy, Builtin.min_, Builtin.min2]
end
/-! texts -/
section
variable {s u : List UInt8}
theorem Ev.lenS {ts : TypeId} (T : Tab P) (hu : T.und ts = some .string) (hx : opnd env x = some (str s)) : Ev P n env (.call ⟨.builtin .len, #[x], #[ts]⟩) (.int .i64 s.length) :=
  fun a W he _ _ _ _ _ => by simp [execOp, resolve, invoke, builtin, Builtin.len_, eval_opnd he hx, T.undOk hu, str, goInt, str_size]
theorem Ev.catS (hx : opnd env x = some (str s)) (hy : opnd env y = some (str u)) (hlen : s.length + u.length ≤ 9223372036854775807) : Ev P n env (.binOp .add t x y t') (str (s ++ u)) :=
  Ev.of2 hx hy (fun _ => run_eqGuard_string ..) fun W => by simp [str, binOp, Op.stringOp, str_size, str_append]; omega
theorem Ev.eqlS (hx : opnd env x = some (str s)) (hy : opnd env y = some (str u)) : Ev P n env (.binOp .eql t x y t') (.bool (decide (s = u))) :=
  Ev.of2 hx hy (fun _ => run_eqGuard_string ..) fun W => by
    have : (s == u) = decide (s = u) := by rw [Bool.eq_iff_iff]; simp
    simp [str, binOp, Op.stringOp, str_toList, this]
theorem Ev.neqS (hx : opnd env x = some (str s)) (hy : opnd env y = some (str u)) : Ev P n env (.binOp .neq t x y t') (.bool (!decide (s = u))) :=
  Ev.of2 hx hy (fun _ => run_eqGuard_string ..) fun W => by
    have : (s == u) = decide (s = u) := by rw [Bool.eq_iff_iff]; simp
    simp [str, binOp, Op.stringOp, str_toList, this]
theorem Ev.cutS {ts : TypeId} {lo hi : Operand} {kd kd' : IntKind} {j q : Int} (T : Tab P) (hu : T.und ts = some .string) (hx : opnd env x = some (str s)) (hlo : opnd env lo = some (.int kd j)) (hhi : opnd env hi = some (.int kd' q)) (h0 : 0 ≤ j) (h1 : j ≤ q) (h2 : q ≤ s.length) :
    Ev P n env (.slice ts x (some lo) (some hi) none) (str ((s.take q.toNat).drop j.toNat)) :=
  fun a W he _ _ _ _ _ => by
    have hm := run_sliceBound (P := P) (v := .int kd' q) (y := s.length) (code := .sliceAlen) rfl (by omega) (by omega) W
    have hj := run_sliceBound (P := P) (v := .int kd j) (y := q.toNat) (code := .sliceB) rfl h0 (by omega) W
    simp [execOp, Instr.sliceAt, Instr.slice, Instr.sliceBounds, eval_opnd he hx, eval_opnd he hlo, eval_opnd he hhi, T.undOk hu, str, str_size, hm, hj, str_extract]
theorem Ev.cutSLo {ts : TypeId} {lo : Operand} {kd : IntKind} {j : Int} (T : Tab P) (hu : T.und ts = some .string) (hx : opnd env x = some (str s)) (hlo : opnd env lo = some (.int kd j)) (h0 : 0 ≤ j) (h1 : j ≤ s.length) :
    Ev P n env (.slice ts x (some lo) none none) (str (s.drop j.toNat)) :=
  fun a W he _ _ _ _ _ => by
    have hj := run_sliceBound (P := P) (v := .int kd j) (y := s.length) (code := .sliceB) rfl h0 (by omega) W
    have ht : s.take s.length = s := List.take_length
    simp [execOp, Instr.sliceAt, Instr.slice, Instr.sliceBounds, eval_opnd he hx, eval_opnd he hlo, T.undOk hu, str, str_size, hj, str_extract, ht]
theorem Ev.cutSHi {ts : TypeId} {hi : Operand} {kd : IntKind} {q : Int} (T : Tab P) (hu : T.und ts = some .string) (hx : opnd env x = some (str s)) (hhi : opnd env hi = some (.int kd q)) (h0 : 0 ≤ q) (h1 : q ≤ s.length) :
    Ev P n env (.slice ts x none (some hi) none) (str (s.take q.toNat)) :=
  fun a W he _ _ _ _ _ => by
    have hm := run_sliceBound (P := P) (v := .int kd q) (y := s.length) (code := .sliceAlen) rfl (by omega) (by omega) W
    simp [execOp, Instr.sliceAt, Instr.slice, Instr.sliceBounds, eval_opnd he hx, eval_opnd he hhi, T.undOk hu, str, str_size, hm, str_extract]
end
theorem Ev.eqlNil {u : TypeDesc} {v z : Value} {r : Bool} (T : Tab P) (hu : T.und t = some u) (hz : nilOf u = some z) (hx : opnd env x = some v) (hv : isNilV v = some r) (hf : fitsNil u v = true) : Ev P n env (.binOp .eql t x (.const z) t') (.bool r) :=
  fun a W he _ _ _ _ _ => by
    have h1 := run_eqGuard_nil (op := .eql) (t := t) (x := x) (v := v) (z := z) (c := z) (P := P) hz W
    have h2 := run_equal_nil (P := P) (T.undOk hu) hz hv hf W
    have h3 : binOp .eql t v z = (Op.equal t v z >>= fun b => pure (.bool b)) := by
      cases v <;> simp [isNilV] at hv <;> rfl
    have hz2 : a.eval (.const z) = z := rfl
    simp only [execOp, eval_opnd he hx, hz2, Sem.run_bind, h1, Result.andThen_ok, h3, h2]
    rfl
theorem Ev.neqNil {u : TypeDesc} {v z : Value} {r : Bool} (T : Tab P) (hu : T.und t = some u) (hz : nilOf u = some z) (hx : opnd env x = some v) (hv : isNilV v = some r) (hf : fitsNil u v = true) : Ev P n env (.binOp .neq t x (.const z) t') (.bool (!r)) :=
  fun a W he _ _ _ _ _ => by
    have h1 := run_eqGuard_nil (op := .neq) (t := t) (x := x) (v := v) (z := z) (c := z) (P := P) hz W
    have h2 := run_equal_nil (P := P) (T.undOk hu) hz hv hf W
    have h3 : binOp .neq t v z = (Op.equal t v z >>= fun b => pure (.bool (!b))) := by
      cases v <;> simp [isNilV] at hv <;> rfl
    have hz2 : a.eval (.const z) = z := rfl
    simp only [execOp, eval_opnd he hx, hz2, Sem.run_bind, h1, Result.andThen_ok, h3, h2]
    rfl
theorem Ev.buildS {xs : List (Nat × Operand)} {vs : List (Nat × Value)} {pl : List (Nat × Nat)} {z : Array Value} {cs : List Value}
    (hb : ∀ w ps cells, Instr.fill (pl[·]?) z ps = some cells → (Instr.build t ps.toArray).run P w = .ok (.agg cells) w) (hx : parts env xs = some vs) (hf : fillL pl z.toList vs = some cs) : Ev P n env (.build t xs.toArray) (.agg cs.toArray) :=
  fun a W he _ _ _ _ _ => by
    have h := hb W vs cs.toArray (by simpa using fillL_ok pl vs z.toList cs hf)
    rw [← parts_spec he hx] at h
    simp only [execOp, List.map_toArray, Sem.run_bind]
    have hm : (List.map (fun (x : Nat × Operand) => match x with | (i, x) => (i, a.eval x)) xs) = xs.map (fun (p : Nat × Operand) => (p.1, a.eval p.2)) := rfl
    rw [hm, h]; rfl
end
end Go.V
/-
  Which type stands where in this seat's translation: by its own numbers. Written by gen_types.py.
-/
namespace Go.V
set_option linter.unusedVariables false
set_option maxRecDepth 100000
noncomputable def undL : List TypeDesc := [Proofs.Tryd.t0.desc, Proofs.Tryd.t1.desc, Proofs.Tryd.t2.desc, Proofs.Tryd.t3.desc, Proofs.Tryd.t4.desc, Proofs.Tryd.t5.desc, Proofs.Tryd.t5.desc, Proofs.Tryd.t7.desc, Proofs.Tryd.t7.desc, Proofs.Tryd.t9.desc, Proofs.Tryd.t9.desc, Proofs.Tryd.t9.desc, Proofs.Tryd.t12.desc, Proofs.Tryd.t13.desc, Proofs.Tryd.t13.desc, Proofs.Tryd.t15.desc, Proofs.Tryd.t16.desc, Proofs.Tryd.t17.desc, Proofs.Tryd.t18.desc, Proofs.Tryd.t18.desc, Proofs.Tryd.t20.desc, Proofs.Tryd.t21.desc, Proofs.Tryd.t22.desc, Proofs.Tryd.t23.desc, Proofs.Tryd.t24.desc, Proofs.Tryd.t25.desc, Proofs.Tryd.t26.desc, Proofs.Tryd.t27.desc, Proofs.Tryd.t27.desc, Proofs.Tryd.t29.desc, Proofs.Tryd.t30.desc, Proofs.Tryd.t31.desc, Proofs.Tryd.t32.desc, Proofs.Tryd.t33.desc, Proofs.Tryd.t34.desc, Proofs.Tryd.t35.desc, Proofs.Tryd.t36.desc, Proofs.Tryd.t37.desc, Proofs.Tryd.t38.desc, Proofs.Tryd.t39.desc, Proofs.Tryd.t40.desc, Proofs.Tryd.t41.desc, Proofs.Tryd.t41.desc, Proofs.Tryd.t43.desc, Proofs.Tryd.t43.desc, Proofs.Tryd.t45.desc, Proofs.Tryd.t46.desc, Proofs.Tryd.t47.desc, Proofs.Tryd.t48.desc, Proofs.Tryd.t49.desc, Proofs.Tryd.t49.desc, Proofs.Tryd.t51.desc, Proofs.Tryd.t51.desc, Proofs.Tryd.t53.desc, Proofs.Tryd.t54.desc, Proofs.Tryd.t55.desc, Proofs.Tryd.t56.desc, Proofs.Tryd.t57.desc, Proofs.Tryd.t58.desc, Proofs.Tryd.t59.desc, Proofs.Tryd.t59.desc, Proofs.Tryd.t61.desc, Proofs.Tryd.t62.desc, Proofs.Tryd.t63.desc, Proofs.Tryd.t64.desc, Proofs.Tryd.t65.desc, Proofs.Tryd.t65.desc, Proofs.Tryd.t67.desc, Proofs.Tryd.t68.desc, Proofs.Tryd.t68.desc, Proofs.Tryd.t70.desc, Proofs.Tryd.t71.desc, Proofs.Tryd.t49.desc, Proofs.Tryd.t73.desc, Proofs.Tryd.t74.desc, Proofs.Tryd.t75.desc, Proofs.Tryd.t76.desc, Proofs.Tryd.t77.desc, Proofs.Tryd.t78.desc, Proofs.Tryd.t79.desc, Proofs.Tryd.t80.desc, Proofs.Tryd.t80.desc, Proofs.Tryd.t82.desc, Proofs.Tryd.t83.desc, Proofs.Tryd.t84.desc, Proofs.Tryd.t85.desc, Proofs.Tryd.t86.desc, Proofs.Tryd.t86.desc, Proofs.Tryd.t88.desc, Proofs.Tryd.t89.desc, Proofs.Tryd.t89.desc, Proofs.Tryd.t91.desc, Proofs.Tryd.t92.desc, Proofs.Tryd.t92.desc, Proofs.Tryd.t94.desc, Proofs.Tryd.t95.desc, Proofs.Tryd.t9.desc, Proofs.Tryd.t97.desc, Proofs.Tryd.t98.desc, Proofs.Tryd.t99.desc, Proofs.Tryd.t100.desc, Proofs.Tryd.t101.desc, Proofs.Tryd.t101.desc, Proofs.Tryd.t103.desc, Proofs.Tryd.t104.desc, Proofs.Tryd.t104.desc, Proofs.Tryd.t106.desc, Proofs.Tryd.t107.desc, Proofs.Tryd.t107.desc, Proofs.Tryd.t109.desc, Proofs.Tryd.t110.desc, Proofs.Tryd.t111.desc, Proofs.Tryd.t112.desc, Proofs.Tryd.t113.desc, Proofs.Tryd.t114.desc, Proofs.Tryd.t115.desc, Proofs.Tryd.t116.desc, Proofs.Tryd.t117.desc, Proofs.Tryd.t118.desc, Proofs.Tryd.t119.desc, Proofs.Tryd.t120.desc, Proofs.Tryd.t121.desc, Proofs.Tryd.t122.desc, Proofs.Tryd.t123.desc, Proofs.Tryd.t123.desc, Proofs.Tryd.t125.desc, Proofs.Tryd.t126.desc, Proofs.Tryd.t126.desc, Proofs.Tryd.t128.desc, Proofs.Tryd.t5.desc, Proofs.Tryd.t5.desc, Proofs.Tryd.t131.desc, Proofs.Tryd.t132.desc, Proofs.Tryd.t21.desc, Proofs.Tryd.t21.desc, Proofs.Tryd.t135.desc, Proofs.Tryd.t135.desc, Proofs.Tryd.t137.desc, Proofs.Tryd.t138.desc, Proofs.Tryd.t139.desc, Proofs.Tryd.t140.desc, Proofs.Tryd.t141.desc, Proofs.Tryd.t142.desc, Proofs.Tryd.t143.desc, Proofs.Tryd.t144.desc, Proofs.Tryd.t145.desc, Proofs.Tryd.t146.desc, Proofs.Tryd.t147.desc, Proofs.Tryd.t148.desc, Proofs.Tryd.t149.desc, Proofs.Tryd.t150.desc]
noncomputable def tiL : List TypeInfo := [Proofs.Tryd.t0, Proofs.Tryd.t1, Proofs.Tryd.t2, Proofs.Tryd.t3, Proofs.Tryd.t4, Proofs.Tryd.t5, Proofs.Tryd.t6, Proofs.Tryd.t7, Proofs.Tryd.t8, Proofs.Tryd.t9, Proofs.Tryd.t10, Proofs.Tryd.t11, Proofs.Tryd.t12, Proofs.Tryd.t13, Proofs.Tryd.t14, Proofs.Tryd.t15, Proofs.Tryd.t16, Proofs.Tryd.t17, Proofs.Tryd.t18, Proofs.Tryd.t19, Proofs.Tryd.t20, Proofs.Tryd.t21, Proofs.Tryd.t22, Proofs.Tryd.t23, Proofs.Tryd.t24, Proofs.Tryd.t25, Proofs.Tryd.t26, Proofs.Tryd.t27, Proofs.Tryd.t28, Proofs.Tryd.t29, Proofs.Tryd.t30, Proofs.Tryd.t31, Proofs.Tryd.t32, Proofs.Tryd.t33, Proofs.Tryd.t34, Proofs.Tryd.t35, Proofs.Tryd.t36, Proofs.Tryd.t37, Proofs.Tryd.t38, Proofs.Tryd.t39, Proofs.Tryd.t40, Proofs.Tryd.t41, Proofs.Tryd.t42, Proofs.Tryd.t43, Proofs.Tryd.t44, Proofs.Tryd.t45, Proofs.Tryd.t46, Proofs.Tryd.t47, Proofs.Tryd.t48, Proofs.Tryd.t49, Proofs.Tryd.t50, Proofs.Tryd.t51, Proofs.Tryd.t52, Proofs.Tryd.t53, Proofs.Tryd.t54, Proofs.Tryd.t55, Proofs.Tryd.t56, Proofs.Tryd.t57, Proofs.Tryd.t58, Proofs.Tryd.t59, Proofs.Tryd.t60, Proofs.Tryd.t61, Proofs.Tryd.t62, Proofs.Tryd.t63, Proofs.Tryd.t64, Proofs.Tryd.t65, Proofs.Tryd.t66, Proofs.Tryd.t67, Proofs.Tryd.t68, Proofs.Tryd.t69, Proofs.Tryd.t70, Proofs.Tryd.t71, Proofs.Tryd.t72, Proofs.Tryd.t73, Proofs.Tryd.t74, Proofs.Tryd.t75, Proofs.Tryd.t76, Proofs.Tryd.t77, Proofs.Tryd.t78, Proofs.Tryd.t79, Proofs.Tryd.t80, Proofs.Tryd.t81, Proofs.Tryd.t82, Proofs.Tryd.t83, Proofs.Tryd.t84, Proofs.Tryd.t85, Proofs.Tryd.t86, Proofs.Tryd.t87, Proofs.Tryd.t88, Proofs.Tryd.t89, Proofs.Tryd.t90, Proofs.Tryd.t91, Proofs.Tryd.t92, Proofs.Tryd.t93, Proofs.Tryd.t94, Proofs.Tryd.t95, Proofs.Tryd.t96, Proofs.Tryd.t97, Proofs.Tryd.t98, Proofs.Tryd.t99, Proofs.Tryd.t100, Proofs.Tryd.t101, Proofs.Tryd.t102, Proofs.Tryd.t103, Proofs.Tryd.t104, Proofs.Tryd.t105, Proofs.Tryd.t106, Proofs.Tryd.t107, Proofs.Tryd.t108, Proofs.Tryd.t109, Proofs.Tryd.t110, Proofs.Tryd.t111, Proofs.Tryd.t112, Proofs.Tryd.t113, Proofs.Tryd.t114, Proofs.Tryd.t115, Proofs.Tryd.t116, Proofs.Tryd.t117, Proofs.Tryd.t118, Proofs.Tryd.t119, Proofs.Tryd.t120, Proofs.Tryd.t121, Proofs.Tryd.t122, Proofs.Tryd.t123, Proofs.Tryd.t124, Proofs.Tryd.t125, Proofs.Tryd.t126, Proofs.Tryd.t127, Proofs.Tryd.t128, Proofs.Tryd.t129, Proofs.Tryd.t130, Proofs.Tryd.t131, Proofs.Tryd.t132, Proofs.Tryd.t133, Proofs.Tryd.t134, Proofs.Tryd.t135, Proofs.Tryd.t136, Proofs.Tryd.t137, Proofs.Tryd.t138, Proofs.Tryd.t139, Proofs.Tryd.t140, Proofs.Tryd.t141, Proofs.Tryd.t142, Proofs.Tryd.t143, Proofs.Tryd.t144, Proofs.Tryd.t145, Proofs.Tryd.t146, Proofs.Tryd.t147, Proofs.Tryd.t148, Proofs.Tryd.t149, Proofs.Tryd.t150]
def AllU (P : Program) : Nat → List TypeDesc → Prop
  | _, [] => True
  | i, u :: r => (∀ w, (underlying i).run P w = .ok u w) ∧ AllU P (i + 1) r
def AllI (P : Program) : Nat → List TypeInfo → Prop
  | _, [] => True
  | i, u :: r => (∀ w, (typeInfo i).run P w = .ok u w) ∧ AllI P (i + 1) r
theorem AllU.get {P : Program} : ∀ {l : List TypeDesc} {i t : Nat} {u : TypeDesc}, AllU P i l → l[t]? = some u → ∀ w, (underlying (i + t)).run P w = .ok u w
  | [], i, t, u, _, h => by simp at h
  | x :: r, i, 0, u, h, e => by simp at e; subst e; exact h.1
  | x :: r, i, t + 1, u, h, e => by
    have := AllU.get h.2 (t := t) (by simpa using e)
    rwa [show i + 1 + t = i + (t + 1) by omega] at this
theorem AllI.get {P : Program} : ∀ {l : List TypeInfo} {i t : Nat} {u : TypeInfo}, AllI P i l → l[t]? = some u → ∀ w, (typeInfo (i + t)).run P w = .ok u w
  | [], i, t, u, _, h => by simp at h
  | x :: r, i, 0, u, h, e => by simp at e; subst e; exact h.1
  | x :: r, i, t + 1, u, h, e => by
    have := AllI.get h.2 (t := t) (by simpa using e)
    rwa [show i + 1 + t = i + (t + 1) by omega] at this
theorem undL_all : AllU Proofs.Tryd.prog 0 undL := ⟨Proofs.Tryd.runUnderlying0, Proofs.Tryd.runUnderlying1, Proofs.Tryd.runUnderlying2, Proofs.Tryd.runUnderlying3, Proofs.Tryd.runUnderlying4, Proofs.Tryd.runUnderlying5, Proofs.Tryd.runUnderlying6, Proofs.Tryd.runUnderlying7, Proofs.Tryd.runUnderlying8, Proofs.Tryd.runUnderlying9, Proofs.Tryd.runUnderlying10, Proofs.Tryd.runUnderlying11, Proofs.Tryd.runUnderlying12, Proofs.Tryd.runUnderlying13, Proofs.Tryd.runUnderlying14, Proofs.Tryd.runUnderlying15, Proofs.Tryd.runUnderlying16, Proofs.Tryd.runUnderlying17, Proofs.Tryd.runUnderlying18, Proofs.Tryd.runUnderlying19, Proofs.Tryd.runUnderlying20, Proofs.Tryd.runUnderlying21, Proofs.Tryd.runUnderlying22, Proofs.Tryd.runUnderlying23, Proofs.Tryd.runUnderlying24, Proofs.Tryd.runUnderlying25, Proofs.Tryd.runUnderlying26, Proofs.Tryd.runUnderlying27, Proofs.Tryd.runUnderlying28, Proofs.Tryd.runUnderlying29, Proofs.Tryd.runUnderlying30, Proofs.Tryd.runUnderlying31, Proofs.Tryd.runUnderlying32, Proofs.Tryd.runUnderlying33, Proofs.Tryd.runUnderlying34, Proofs.Tryd.runUnderlying35, Proofs.Tryd.runUnderlying36, Proofs.Tryd.runUnderlying37, Proofs.Tryd.runUnderlying38, Proofs.Tryd.runUnderlying39, Proofs.Tryd.runUnderlying40, Proofs.Tryd.runUnderlying41, Proofs.Tryd.runUnderlying42, Proofs.Tryd.runUnderlying43, Proofs.Tryd.runUnderlying44, Proofs.Tryd.runUnderlying45, Proofs.Tryd.runUnderlying46, Proofs.Tryd.runUnderlying47, Proofs.Tryd.runUnderlying48, Proofs.Tryd.runUnderlying49, Proofs.Tryd.runUnderlying50, Proofs.Tryd.runUnderlying51, Proofs.Tryd.runUnderlying52, Proofs.Tryd.runUnderlying53, Proofs.Tryd.runUnderlying54, Proofs.Tryd.runUnderlying55, Proofs.Tryd.runUnderlying56, Proofs.Tryd.runUnderlying57, Proofs.Tryd.runUnderlying58, Proofs.Tryd.runUnderlying59, Proofs.Tryd.runUnderlying60, Proofs.Tryd.runUnderlying61, Proofs.Tryd.runUnderlying62, Proofs.Tryd.runUnderlying63, Proofs.Tryd.runUnderlying64, Proofs.Tryd.runUnderlying65, Proofs.Tryd.runUnderlying66, Proofs.Tryd.runUnderlying67, Proofs.Tryd.runUnderlying68, Proofs.Tryd.runUnderlying69, Proofs.Tryd.runUnderlying70, Proofs.Tryd.runUnderlying71, Proofs.Tryd.runUnderlying72, Proofs.Tryd.runUnderlying73, Proofs.Tryd.runUnderlying74, Proofs.Tryd.runUnderlying75, Proofs.Tryd.runUnderlying76, Proofs.Tryd.runUnderlying77, Proofs.Tryd.runUnderlying78, Proofs.Tryd.runUnderlying79, Proofs.Tryd.runUnderlying80, Proofs.Tryd.runUnderlying81, Proofs.Tryd.runUnderlying82, Proofs.Tryd.runUnderlying83, Proofs.Tryd.runUnderlying84, Proofs.Tryd.runUnderlying85, Proofs.Tryd.runUnderlying86, Proofs.Tryd.runUnderlying87, Proofs.Tryd.runUnderlying88, Proofs.Tryd.runUnderlying89, Proofs.Tryd.runUnderlying90, Proofs.Tryd.runUnderlying91, Proofs.Tryd.runUnderlying92, Proofs.Tryd.runUnderlying93, Proofs.Tryd.runUnderlying94, Proofs.Tryd.runUnderlying95, Proofs.Tryd.runUnderlying96, Proofs.Tryd.runUnderlying97, Proofs.Tryd.runUnderlying98, Proofs.Tryd.runUnderlying99, Proofs.Tryd.runUnderlying100, Proofs.Tryd.runUnderlying101, Proofs.Tryd.runUnderlying102, Proofs.Tryd.runUnderlying103, Proofs.Tryd.runUnderlying104, Proofs.Tryd.runUnderlying105, Proofs.Tryd.runUnderlying106, Proofs.Tryd.runUnderlying107, Proofs.Tryd.runUnderlying108, Proofs.Tryd.runUnderlying109, Proofs.Tryd.runUnderlying110, Proofs.Tryd.runUnderlying111, Proofs.Tryd.runUnderlying112, Proofs.Tryd.runUnderlying113, Proofs.Tryd.runUnderlying114, Proofs.Tryd.runUnderlying115, Proofs.Tryd.runUnderlying116, Proofs.Tryd.runUnderlying117, Proofs.Tryd.runUnderlying118, Proofs.Tryd.runUnderlying119, Proofs.Tryd.runUnderlying120, Proofs.Tryd.runUnderlying121, Proofs.Tryd.runUnderlying122, Proofs.Tryd.runUnderlying123, Proofs.Tryd.runUnderlying124, Proofs.Tryd.runUnderlying125, Proofs.Tryd.runUnderlying126, Proofs.Tryd.runUnderlying127, Proofs.Tryd.runUnderlying128, Proofs.Tryd.runUnderlying129, Proofs.Tryd.runUnderlying130, Proofs.Tryd.runUnderlying131, Proofs.Tryd.runUnderlying132, Proofs.Tryd.runUnderlying133, Proofs.Tryd.runUnderlying134, Proofs.Tryd.runUnderlying135, Proofs.Tryd.runUnderlying136, Proofs.Tryd.runUnderlying137, Proofs.Tryd.runUnderlying138, Proofs.Tryd.runUnderlying139, Proofs.Tryd.runUnderlying140, Proofs.Tryd.runUnderlying141, Proofs.Tryd.runUnderlying142, Proofs.Tryd.runUnderlying143, Proofs.Tryd.runUnderlying144, Proofs.Tryd.runUnderlying145, Proofs.Tryd.runUnderlying146, Proofs.Tryd.runUnderlying147, Proofs.Tryd.runUnderlying148, Proofs.Tryd.runUnderlying149, Proofs.Tryd.runUnderlying150, trivial⟩
theorem tiL_all : AllI Proofs.Tryd.prog 0 tiL := ⟨Proofs.Tryd.typeInfo0, Proofs.Tryd.typeInfo1, Proofs.Tryd.typeInfo2, Proofs.Tryd.typeInfo3, Proofs.Tryd.typeInfo4, Proofs.Tryd.typeInfo5, Proofs.Tryd.typeInfo6, Proofs.Tryd.typeInfo7, Proofs.Tryd.typeInfo8, Proofs.Tryd.typeInfo9, Proofs.Tryd.typeInfo10, Proofs.Tryd.typeInfo11, Proofs.Tryd.typeInfo12, Proofs.Tryd.typeInfo13, Proofs.Tryd.typeInfo14, Proofs.Tryd.typeInfo15, Proofs.Tryd.typeInfo16, Proofs.Tryd.typeInfo17, Proofs.Tryd.typeInfo18, Proofs.Tryd.typeInfo19, Proofs.Tryd.typeInfo20, Proofs.Tryd.typeInfo21, Proofs.Tryd.typeInfo22, Proofs.Tryd.typeInfo23, Proofs.Tryd.typeInfo24, Proofs.Tryd.typeInfo25, Proofs.Tryd.typeInfo26, Proofs.Tryd.typeInfo27, Proofs.Tryd.typeInfo28, Proofs.Tryd.typeInfo29, Proofs.Tryd.typeInfo30, Proofs.Tryd.typeInfo31, Proofs.Tryd.typeInfo32, Proofs.Tryd.typeInfo33, Proofs.Tryd.typeInfo34, Proofs.Tryd.typeInfo35, Proofs.Tryd.typeInfo36, Proofs.Tryd.typeInfo37, Proofs.Tryd.typeInfo38, Proofs.Tryd.typeInfo39, Proofs.Tryd.typeInfo40, Proofs.Tryd.typeInfo41, Proofs.Tryd.typeInfo42, Proofs.Tryd.typeInfo43, Proofs.Tryd.typeInfo44, Proofs.Tryd.typeInfo45, Proofs.Tryd.typeInfo46, Proofs.Tryd.typeInfo47, Proofs.Tryd.typeInfo48, Proofs.Tryd.typeInfo49, Proofs.Tryd.typeInfo50, Proofs.Tryd.typeInfo51, Proofs.Tryd.typeInfo52, Proofs.Tryd.typeInfo53, Proofs.Tryd.typeInfo54, Proofs.Tryd.typeInfo55, Proofs.Tryd.typeInfo56, Proofs.Tryd.typeInfo57, Proofs.Tryd.typeInfo58, Proofs.Tryd.typeInfo59, Proofs.Tryd.typeInfo60, Proofs.Tryd.typeInfo61, Proofs.Tryd.typeInfo62, Proofs.Tryd.typeInfo63, Proofs.Tryd.typeInfo64, Proofs.Tryd.typeInfo65, Proofs.Tryd.typeInfo66, Proofs.Tryd.typeInfo67, Proofs.Tryd.typeInfo68, Proofs.Tryd.typeInfo69, Proofs.Tryd.typeInfo70, Proofs.Tryd.typeInfo71, Proofs.Tryd.typeInfo72, Proofs.Tryd.typeInfo73, Proofs.Tryd.typeInfo74, Proofs.Tryd.typeInfo75, Proofs.Tryd.typeInfo76, Proofs.Tryd.typeInfo77, Proofs.Tryd.typeInfo78, Proofs.Tryd.typeInfo79, Proofs.Tryd.typeInfo80, Proofs.Tryd.typeInfo81, Proofs.Tryd.typeInfo82, Proofs.Tryd.typeInfo83, Proofs.Tryd.typeInfo84, Proofs.Tryd.typeInfo85, Proofs.Tryd.typeInfo86, Proofs.Tryd.typeInfo87, Proofs.Tryd.typeInfo88, Proofs.Tryd.typeInfo89, Proofs.Tryd.typeInfo90, Proofs.Tryd.typeInfo91, Proofs.Tryd.typeInfo92, Proofs.Tryd.typeInfo93, Proofs.Tryd.typeInfo94, Proofs.Tryd.typeInfo95, Proofs.Tryd.typeInfo96, Proofs.Tryd.typeInfo97, Proofs.Tryd.typeInfo98, Proofs.Tryd.typeInfo99, Proofs.Tryd.typeInfo100, Proofs.Tryd.typeInfo101, Proofs.Tryd.typeInfo102, Proofs.Tryd.typeInfo103, Proofs.Tryd.typeInfo104, Proofs.Tryd.typeInfo105, Proofs.Tryd.typeInfo106, Proofs.Tryd.typeInfo107, Proofs.Tryd.typeInfo108, Proofs.Tryd.typeInfo109, Proofs.Tryd.typeInfo110, Proofs.Tryd.typeInfo111, Proofs.Tryd.typeInfo112, Proofs.Tryd.typeInfo113, Proofs.Tryd.typeInfo114, Proofs.Tryd.typeInfo115, Proofs.Tryd.typeInfo116, Proofs.Tryd.typeInfo117, Proofs.Tryd.typeInfo118, Proofs.Tryd.typeInfo119, Proofs.Tryd.typeInfo120, Proofs.Tryd.typeInfo121, Proofs.Tryd.typeInfo122, Proofs.Tryd.typeInfo123, Proofs.Tryd.typeInfo124, Proofs.Tryd.typeInfo125, Proofs.Tryd.typeInfo126, Proofs.Tryd.typeInfo127, Proofs.Tryd.typeInfo128, Proofs.Tryd.typeInfo129, Proofs.Tryd.typeInfo130, Proofs.Tryd.typeInfo131, Proofs.Tryd.typeInfo132, Proofs.Tryd.typeInfo133, Proofs.Tryd.typeInfo134, Proofs.Tryd.typeInfo135, Proofs.Tryd.typeInfo136, Proofs.Tryd.typeInfo137, Proofs.Tryd.typeInfo138, Proofs.Tryd.typeInfo139, Proofs.Tryd.typeInfo140, Proofs.Tryd.typeInfo141, Proofs.Tryd.typeInfo142, Proofs.Tryd.typeInfo143, Proofs.Tryd.typeInfo144, Proofs.Tryd.typeInfo145, Proofs.Tryd.typeInfo146, Proofs.Tryd.typeInfo147, Proofs.Tryd.typeInfo148, Proofs.Tryd.typeInfo149, Proofs.Tryd.typeInfo150, trivial⟩
noncomputable def und (t : Nat) : Option TypeDesc := undL[t]?
noncomputable def tinfo (t : Nat) : Option TypeInfo := tiL[t]?
theorem und_ok {t : Nat} {u : TypeDesc} (h : und t = some u) : ∀ w, (underlying t).run Proofs.Tryd.prog w = .ok u w := by
  have := undL_all.get h; simpa using this
theorem tinfo_ok {t : Nat} {u : TypeInfo} (h : tinfo t = some u) : ∀ w, (typeInfo t).run Proofs.Tryd.prog w = .ok u w := by
  have := tiL_all.get h; simpa using this
def aggOf : TypeDesc → Bool
  | .struct _ => true
  | .array _ _ => true
  | _ => false
theorem isAgg_of {P : Program} {t : TypeId} {u : TypeDesc} (h : ∀ w, (underlying t).run P w = .ok u w) : ∀ w, (isAgg t).run P w = .ok (aggOf u) w := by
  intro w; simp only [isAgg, Sem.run_bind, h, Result.andThen_ok]; cases u <;> rfl
noncomputable def T : Tab Proofs.Tryd.prog where
  und := und
  size t := (tinfo t).map (·.size)
  agg t := (und t).map aggOf
  zero t := (tinfo t).bind (·.zero)
  undOk := und_ok
  sizeOk {t m} h w := by
    cases hi : tinfo t with
    | none => simp [hi] at h
    | some u => simp [hi] at h; simp [sizeOf, tinfo_ok hi, h]
  aggOk {t b} h w := by
    cases hi : und t with
    | none => simp [hi] at h
    | some u => simp [hi] at h; rw [isAgg_of (und_ok hi), h]
  zeroOk {t z} h w := by
    cases hi : tinfo t with
    | none => simp [hi] at h
    | some u => simp [hi] at h; simp [zeroValue, tinfo_ok hi, h]
theorem el22 : Elem Proofs.Tryd.prog 22 5 1 1 := ⟨Proofs.Tryd.underlying22, Proofs.Tryd.t5, _, by kernel_rfl, rfl, rfl, rfl, rfl⟩
theorem el36 : Elem Proofs.Tryd.prog 36 9 1 16 := ⟨Proofs.Tryd.underlying36, Proofs.Tryd.t9, _, by kernel_rfl, rfl, rfl, rfl, rfl⟩
theorem el40 : Elem Proofs.Tryd.prog 40 42 3 48 := ⟨Proofs.Tryd.underlying40, Proofs.Tryd.t42, _, by kernel_rfl, rfl, rfl, rfl, rfl⟩
theorem bd42 : ∀ w ps cells, Instr.fill (([(0, 1), (1, 1), (2, 1)] : List (Nat × Nat))[·]?) (Proofs.Tryd.t42.zero.getD undef).cells ps = some cells → (Instr.build 42 ps.toArray).run Proofs.Tryd.prog w = .ok (.agg cells) w := by
  intro w ps cells h
  simp only [Proofs.Tryd.t42, Option.getD] at h
  simp [Instr.build, Proofs.Tryd.runUnderlying42, Proofs.Tryd.zeroValue42, Proofs.Tryd.sizeOf5, Proofs.Tryd.sizeOf9, Proofs.Tryd.sizeOf40, h]
theorem bd44 : ∀ w ps cells, Instr.fill (([(0, 3)] : List (Nat × Nat))[·]?) (Proofs.Tryd.t44.zero.getD undef).cells ps = some cells → (Instr.build 44 ps.toArray).run Proofs.Tryd.prog w = .ok (.agg cells) w := by
  intro w ps cells h
  simp only [Proofs.Tryd.t44, Option.getD] at h
  simp [Instr.build, Proofs.Tryd.runUnderlying44, Proofs.Tryd.zeroValue44, Proofs.Tryd.sizeOf42, h]
theorem bd50 : ∀ w ps cells, Instr.fill (([(0, 1), (1, 1), (2, 1), (3, 1), (4, 1)] : List (Nat × Nat))[·]?) (Proofs.Tryd.t50.zero.getD undef).cells ps = some cells → (Instr.build 50 ps.toArray).run Proofs.Tryd.prog w = .ok (.agg cells) w := by
  intro w ps cells h
  simp only [Proofs.Tryd.t50, Option.getD] at h
  simp [Instr.build, Proofs.Tryd.runUnderlying50, Proofs.Tryd.zeroValue50, Proofs.Tryd.sizeOf9, h]
theorem bd66 : ∀ w ps cells, Instr.fill (([(0, 1), (1, 1)] : List (Nat × Nat))[·]?) (Proofs.Tryd.t66.zero.getD undef).cells ps = some cells → (Instr.build 66 ps.toArray).run Proofs.Tryd.prog w = .ok (.agg cells) w := by
  intro w ps cells h
  simp only [Proofs.Tryd.t66, Option.getD] at h
  simp [Instr.build, Proofs.Tryd.runUnderlying66, Proofs.Tryd.zeroValue66, Proofs.Tryd.sizeOf9, h]
theorem bd69 : ∀ w ps cells, Instr.fill (([(0, 1), (1, 1)] : List (Nat × Nat))[·]?) (Proofs.Tryd.t69.zero.getD undef).cells ps = some cells → (Instr.build 69 ps.toArray).run Proofs.Tryd.prog w = .ok (.agg cells) w := by
  intro w ps cells h
  simp only [Proofs.Tryd.t69, Option.getD] at h
  simp [Instr.build, Proofs.Tryd.runUnderlying69, Proofs.Tryd.zeroValue69, Proofs.Tryd.sizeOf3, Proofs.Tryd.sizeOf22, h]
theorem bd90 : ∀ w ps cells, Instr.fill (([(0, 1), (1, 1), (2, 1)] : List (Nat × Nat))[·]?) (Proofs.Tryd.t90.zero.getD undef).cells ps = some cells → (Instr.build 90 ps.toArray).run Proofs.Tryd.prog w = .ok (.agg cells) w := by
  intro w ps cells h
  simp only [Proofs.Tryd.t90, Option.getD] at h
  simp [Instr.build, Proofs.Tryd.runUnderlying90, Proofs.Tryd.zeroValue90, Proofs.Tryd.sizeOf3, Proofs.Tryd.sizeOf22, h]
theorem el91 : Elem Proofs.Tryd.prog 91 93 5 72 := ⟨Proofs.Tryd.underlying91, Proofs.Tryd.t93, _, by kernel_rfl, rfl, rfl, rfl, rfl⟩
theorem bd93 : ∀ w ps cells, Instr.fill (([(0, 1), (1, 1), (2, 1), (3, 1), (4, 1)] : List (Nat × Nat))[·]?) (Proofs.Tryd.t93.zero.getD undef).cells ps = some cells → (Instr.build 93 ps.toArray).run Proofs.Tryd.prog w = .ok (.agg cells) w := by
  intro w ps cells h
  simp only [Proofs.Tryd.t93, Option.getD] at h
  simp [Instr.build, Proofs.Tryd.runUnderlying93, Proofs.Tryd.zeroValue93, Proofs.Tryd.sizeOf4, Proofs.Tryd.sizeOf5, Proofs.Tryd.sizeOf9, Proofs.Tryd.sizeOf36, Proofs.Tryd.sizeOf91, h]
end Go.V
/-
  Rows of bytes that a call owns and cuts; blocks that are lent to a call; slices made; interfaces asked and compared.
-/
namespace Go.V
open Go.RowKit
set_option linter.unusedVariables false
set_option linter.unusedSimpArgs false
abbrev wb (xs : List UInt8) : List Value := xs.map w8
/-- a slice of bytes that stands in a block which is owned -/
def Buf (e : TypeId) (v : Value) (xs : List UInt8) (M : Own) : Prop :=
  (v = .slice none 0 0 ∧ xs = [] ∧ M = []) ∨
  ∃ b pre post cap, v = .slice (some ⟨b, pre.length, none⟩) xs.length cap ∧ M = [(b, blk (pre ++ wb xs ++ post) e)] ∧ xs.length ≤ cap ∧ cap ≤ xs.length + post.length
theorem Buf.nil (e : TypeId) : Buf e (.slice none 0 0) [] [] := .inl ⟨rfl, rfl, rfl⟩
theorem Buf.isSl {e : TypeId} {v : Value} {xs : List UInt8} {M : Own} (h : Buf e v xs M) : ∃ A c, v = .slice A xs.length c := by
  rcases h with ⟨rfl, rfl, _⟩ | ⟨b, pre, post, cap, rfl, _⟩
  · exact ⟨none, 0, rfl⟩
  · exact ⟨_, _, rfl⟩
/-- bytes of a slice that is read: where they stand -/
theorem Sl.ofBytes {J : Imm} {b cap : Nat} {pre post : List Value} {xs : List UInt8} {e : TypeId} (hb : J b = some (blk (pre ++ wb xs ++ post) e)) (hc : xs.length ≤ cap) : Sl tU8 J (.slice (some ⟨b, pre.length, none⟩) xs.length cap) xs := by
  refine ⟨_, _, rfl, hc, .inr ⟨b, pre.length, rfl, fun i x hx => ⟨[w8 x], rfl, _, _, _, hb, fun j v hv => ?_⟩⟩⟩
  have hj : j = 0 := by
    cases j with
    | zero => rfl
    | succ j => simp at hv
  subst hj
  simp at hv; subst hv
  have hi : i < xs.length := (List.getElem?_eq_some_iff.1 hx).1
  simp only [show tU8.size = 1 from rfl, Nat.mul_one, Nat.add_zero]
  rw [List.getElem?_toArray, List.append_assoc, List.getElem?_append_right (by omega), Nat.add_sub_cancel_left, List.getElem?_append_left (by simpa using hi), List.getElem?_map, hx]
  rfl
theorem Buf.sl {e : TypeId} {v : Value} {xs : List UInt8} {M : Own} {J : Imm} (h : Buf e v xs M) (hJ : ∀ b o, (b, o) ∈ M → J b = some o) : Sl tU8 J v xs := by
  rcases h with ⟨rfl, rfl, _⟩ | ⟨b, pre, post, cap, rfl, rfl, hc, _⟩
  · exact Sl.nil _ _
  · exact Sl.ofBytes (hJ b _ (List.mem_singleton.2 rfl)) hc
theorem zeroCells_u8 (k : Nat) : (Builtin.zeroCells #[Value.int .u8 0] k).toList = wb (List.replicate k 0) := by
  simp [Builtin.zeroCells, wb, Array.toList_range]
  apply List.ext_getElem
  · simp
  · intro i h1 h2
    simp [Nat.mod_one]
section
variable {P : Program} {n : Nat} {C : Cx} {k : List Item} {env : Env} {L : Own} {I : Imm} {ops : Array Oper} {i : Nat} {l : List Oper}
variable {ty : TypeId} {ps : String} {af : Array Edge} {g : Option (Nat × Bool)} {d : Nat}
theorem Buf.cut {e : TypeId} {v : Value} {xs : List UInt8} {M : Own} (h : Buf e v xs M) {A : Option Addr} {m c lo : Nat} (hv : v = .slice A m c) (hlo : lo ≤ xs.length) :
    Buf e (.slice (if c = lo then A else A.map (·.add lo)) (m - lo) (c - lo)) (xs.drop lo) M := by
  rcases h with ⟨rfl, rfl, rfl⟩ | ⟨b, pre, post, cap, rfl, rfl, hc, hc2⟩
  · cases hv
    have : lo = 0 := by simpa using hlo
    subst this
    exact .inl ⟨rfl, rfl, rfl⟩
  · cases hv
    refine .inr ?_
    by_cases he : c = lo
    · rw [if_pos he]
      have hx : xs.length = lo := by omega
      have hx2 : xs.drop lo = [] := List.drop_eq_nil_of_le (by omega)
      rw [hx2]
      refine ⟨b, pre, wb xs ++ post, c - lo, by simp [hx], by simp, by simp, by simp; omega⟩
    · rw [if_neg he]
      refine ⟨b, pre ++ wb (xs.take lo), post, c - lo, ?_, ?_, by simp; omega, by simp; omega⟩
      · simp only [List.length_append, List.length_map, List.length_take, List.length_drop, Nat.min_eq_left hlo, Option.map_some, add_off]
      · have e3 : wb xs = wb (xs.take lo) ++ wb (xs.drop lo) := by rw [wb, wb, wb, ← List.map_append, List.take_append_drop]
        rw [e3]
        simp only [List.append_assoc]
theorem run_append_buf {ts tx e : TypeId} (hE : Elem P ts e 1 1) (hz : ∃ iE, P.info? e = some iE ∧ iE.zero = some (.int .u8 0)) {W : World} {w0 : World} {I0 : Imm} {L0 : List Nat} {M N : Own} {v x : Value} {xs ys : List UInt8} (hi : Inv w0 I0 L0 I (M ++ N) W)
    (hG : Buf e v xs M) (hx : Src P 1 tx x ys.length (wb ys) W) (hbytes : 2 * (xs.length + ys.length) + 512 ≤ 281474976710656) (h63 : xs.length + ys.length ≤ 4611686018427387904) :
    ∃ v' W' M', (Builtin.append_ #[ts, tx] ty #[v, x]).run P W = .ok v' W' ∧ Buf e v' (xs ++ ys) M' ∧ Inv w0 I0 L0 I (M' ++ N) W' := by
  obtain ⟨iE, z, hinfo, hzero, hs1, hb1, hzs⟩ := hE.info
  obtain ⟨iE', hinfo', hz'⟩ := hz
  obtain rfl : iE' = iE := Option.some.inj (hinfo'.symm.trans hinfo)
  obtain rfl : z = .int .u8 0 := Option.some.inj (hzero.symm.trans hz')
  have grow : ∀ (base : Option Addr) (cap : Nat), v = .slice base xs.length cap → cap < xs.length + ys.length → (Builtin.firstCells 1 xs.length (.slice base xs.length cap)).run P W.drew = .ok (wb xs).toArray W.drew →
      ∃ v' W' M', (Builtin.append_ #[ts, tx] ty #[v, x]).run P W = .ok v' W' ∧ Buf e v' (xs ++ ys) M' ∧ Inv w0 I0 L0 I (M' ++ N) W' := by
    intro base cap hv hcap hold
    have hr := run_append_grow_src (P := P) W ts tx ty e iE' _ hE.under hinfo hzero base xs.length cap (wb xs) (by rw [hs1]; exact hold) x ys.length (wb ys) (by rw [hs1]; exact hx) hcap (by omega)
      (by rw [hb1, Nat.mul_one]; exact Nat.le_trans (nextcap_le _ _ hcap) (by omega))
    subst hv
    have hge := grownCap_ge W (xs.length + ys.length) cap e
    have hcells : (wb xs ++ wb ys).toArray ++ Builtin.zeroCells (Value.int .u8 0).cells (grownCap W (xs.length + ys.length) cap e - (xs.length + ys.length)) =
        (([] : List Value) ++ wb (xs ++ ys) ++ wb (List.replicate (grownCap W (xs.length + ys.length) cap e - (xs.length + ys.length)) 0)).toArray := by
      apply Array.ext'
      rw [Array.toList_append, show (Value.int .u8 0).cells = #[Value.int .u8 0] from rfl, zeroCells_u8]
      simp
    rw [hcells] at hr
    refine ⟨_, _, [(W.heap.size, blk (([] : List Value) ++ wb (xs ++ ys) ++ wb (List.replicate (grownCap W (xs.length + ys.length) cap e - (xs.length + ys.length)) 0)) e)], hr, .inr ⟨W.heap.size, [], _, grownCap W (xs.length + ys.length) cap e, by simp, rfl, by simpa using hge, by simp; omega⟩, ?_⟩
    have h1 : Inv w0 I0 L0 I N W := hi.weakenL (List.sublist_append_right _ _)
    exact h1.drew.alloc _
  rcases hG with ⟨rfl, rfl, rfl⟩ | ⟨b, pre, post, cap, rfl, rfl, hmc, hcs⟩
  · by_cases hq : ys = []
    · subst hq
      refine ⟨.slice none 0 0, W, [], ?_, Buf.nil e, hi⟩
      have hx' : Src P iE'.size tx x 0 [] W := by rw [hs1]; exact hx
      rcases hx.kind with ⟨e', hk⟩ | hk <;>
        simp [Builtin.append_, run_underlying hE.under, run_underlying hk, sizeOf, typeInfo, hinfo, hx'.len, hx'.cells]
    · exact grow none 0 rfl (by have : 0 < ys.length := List.length_pos_iff.2 hq; simp; exact this) (by simp [Builtin.firstCells])
  · have hW := hi.fits.own b _ (List.mem_append_left _ (List.mem_singleton.2 rfl))
    by_cases hroom : xs.length + ys.length ≤ cap
    · have hsz : (pre ++ wb xs ++ post).toArray.size = pre.length + xs.length + post.length := by simp; omega
      have hr := run_append_room_src (P := P) W ts tx ty e iE' hE.under hinfo b pre.length xs.length cap x ys.length (wb ys) (by rw [hs1]; exact hx) hroom
        (fun j hj => by rw [cell_blk hW, hs1]; simp at hj ⊢; omega) (fun j hj => by simp [World.frozen?, hW, blk])
      have hst := run_storeCells_at P b (pre.length + xs.length) e (wb ys) 0 (pre ++ wb xs ++ post).toArray W hW (by rw [hsz]; simp; omega) hx.one
      have hst2 := run_storeCells_cells (P := P) b (pre.length + xs.length) (wb ys) 0 W (fun j hj => by rw [cell_blk hW]; simp at hj ⊢; omega) (fun j hj => by simp [World.frozen?, hW, blk]) hx.one
      rw [hst] at hst2
      simp only [Nat.add_zero, hs1, Nat.mul_one] at hst2 hr
      have hcs2 : (((pre ++ wb xs ++ post).toArray.toList.take (pre.length + xs.length) ++ wb ys ++ (pre ++ wb xs ++ post).toArray.toList.drop (pre.length + xs.length + (wb ys).length)).toArray) = (pre ++ wb (xs ++ ys) ++ post.drop ys.length).toArray := by
        congr 1
        show (pre ++ wb xs ++ post).take _ ++ wb ys ++ (pre ++ wb xs ++ post).drop _ = _
        have hlx : (pre ++ wb xs).length = pre.length + xs.length := by simp
        rw [← hlx, List.take_left, List.drop_append]
        simp
      rw [hcs2] at hst2
      have hw : W.setCells b (pre.length + xs.length) (wb ys) = W.setRow b (pre ++ wb (xs ++ ys) ++ post.drop ys.length).toArray := by
        injection hst2 with _ h; exact h.symm
      rw [hw] at hr
      refine ⟨_, _, [(b, blk (pre ++ wb (xs ++ ys) ++ post.drop ys.length) e)], hr, .inr ⟨b, pre, post.drop ys.length, cap, by simp, rfl, by simpa using hroom, by simp; omega⟩, ?_⟩
      exact hi.upd rfl rfl rfl (by simp) (fun c _ hcb => setRow_other W b c _ hcb) (setRow_heap W b _ _ e _ hW)
    · refine grow (some ⟨b, pre.length, none⟩) cap rfl (by omega) ?_
      have hl := run_firstCells_some (P := P) W.drew 1 xs.length ⟨b, pre.length, none⟩ xs.length cap (wb xs) (by simp) (fun j u hu => by
        rw [add_off, World.cell?_drew, cell_blk hW]
        have hj : j < xs.length := by simpa using (List.getElem?_eq_some_iff.1 hu).1
        rw [List.getElem?_toArray, List.append_assoc, List.getElem?_append_right (by omega), Nat.add_sub_cancel_left, List.getElem?_append_left (by simpa using hj)]
        exact hu)
      exact hl
/-- what is known of a type of bytes -/
structure Bt (P : Program) (ts e : TypeId) : Prop where
  el : Elem P ts e 1 1
  zero : ∃ iE, P.info? e = some iE ∧ iE.zero = some (.int .u8 0)
theorem Eff.appBuf {s x : Operand} {ts tx e : TypeId} {M N : Own} {v xv : Value} {xs ys : List UInt8} {K : Value → Own → Imm → Prop} (hE : Bt P ts e) (hs : opnd env s = some v) (hx : opnd env x = some xv) (hL : L.Perm (M ++ N)) (hG : Buf e v xs M)
    (hsrc : ∀ W, Inv C.w0 C.I0 C.L0 I L W → Src P 1 tx xv ys.length (wb ys) W) (hbytes : 2 * (xs.length + ys.length) + 512 ≤ 281474976710656)
    (next : ∀ v' M', Buf e v' (xs ++ ys) M' → K v' (M' ++ N) I) : Eff P n C env L I ⟨some d, .call ⟨.builtin .append, #[s, x], #[ts, tx]⟩, ty, ps, af, g⟩ K :=
  Eff.valW fun a W he hi => by
    obtain ⟨v', W', M', hr, hG', hi'⟩ := run_append_buf (P := P) (ty := ty) hE.el hE.zero (hi.perm hL) hG (hsrc W hi) hbytes (by omega)
    refine ⟨v', W', M' ++ N, I, .inl ?_, hi', next v' M' hG'⟩
    simp [execOp, resolve, Go.invoke, builtin, eval_opnd he hs, eval_opnd he hx, hr]
theorem Ops.appBuf {s x : Operand} {ts tx e : TypeId} {M N : Own} {v xv : Value} {xs ys : List UInt8} (hE : Bt P ts e) (hG : Buf e v xs M) (hg : want env ops g = some true) (hd : d < n) (hs : opnd env s = some v) (hx : opnd env x = some xv) (hL : L.Perm (M ++ N))
    (hsrc : ∀ W, Inv C.w0 C.I0 C.L0 I L W → Src P 1 tx xv ys.length (wb ys) W) (hbytes : 2 * (xs.length + ys.length) + 512 ≤ 281474976710656)
    (next : ∀ v' M', Buf e v' (xs ++ ys) M' → Ops P n C ops (i + 1) l k ((d, v') :: env) (M' ++ N) I) : Ops P n C ops i (⟨some d, .call ⟨.builtin .append, #[s, x], #[ts, tx]⟩, ty, ps, af, g⟩ :: l) k env L I :=
  Ops.eff hg (dOk hd) (Eff.appBuf hE hs hx hL hG hsrc hbytes next)
theorem src_own {ts e e' : TypeId} {b c : Nat} {ys : List UInt8} {pre post : List Value} (hu : P.underlying ts = some (.slice e)) {w0 : World} {I0 : Imm} {L0 : List Nat} {W : World} (hi : Inv w0 I0 L0 I L W) (hm : (b, blk (pre ++ wb ys ++ post) e') ∈ L) :
    Src P 1 ts (.slice (some ⟨b, pre.length, none⟩) ys.length c) ys.length (wb ys) W :=
  Src.ofSlice W hu ⟨b, pre.length, none⟩ ys.length c _ (by simp) (fun j u hj => by
    have hjl : j < ys.length := by simpa using (List.getElem?_eq_some_iff.1 hj).1
    rw [add_off, cell_blk (hi.fits.own b _ hm), List.getElem?_toArray, List.append_assoc, List.getElem?_append_right (by omega), Nat.add_sub_cancel_left, List.getElem?_append_left (by simpa using hjl)]
    exact hj) (fun u hu => by
        obtain ⟨y, _, rfl⟩ := List.mem_map.1 hu
        rfl)
/-- append of a literal, whose block goes; the slice's block stands last -/
theorem Ops.appLit {s x : Operand} {ts e : TypeId} {b q c : Nat} {M N : Own} {v : Value} {xs : List UInt8} {news : List Value} (ys : List UInt8) (hE : Bt P ts e) (hG : Buf e v xs M) (hg : want env ops g = some true) (hd : d < n) (hs : opnd env s = some v) (hx : opnd env x = some (.slice (some ⟨b, 0, none⟩) q c))
    (hL : L = (b, blk news e) :: (N ++ M)) (hn : news = wb ys) (hq : ys.length = q) (hbytes : 2 * (xs.length + ys.length) + 512 ≤ 281474976710656)
    (next : ∀ v' M', Buf e v' (xs ++ ys) M' → Ops P n C ops (i + 1) l k ((d, v') :: env) (N ++ M') I) : Ops P n C ops i (⟨some d, .call ⟨.builtin .append, #[s, x], #[ts, ts]⟩, ty, ps, af, g⟩ :: l) k env L I := by
  subst hL; subst hn; subst hq
  refine Ops.appBuf (M := M) (N := (b, blk (wb ys) e) :: N) hE hG hg hd hs hx ?_ ?_ hbytes fun v' M' h => ?_
  · exact (List.Perm.cons _ List.perm_append_comm).trans List.perm_middle.symm
  · intro W hi
    have := src_own (P := P) (ts := ts) (pre := []) (post := []) (ys := ys) (b := b) (c := c) (e' := e) hE.el.under hi (by simp)
    simpa using this
  · exact Ops.dropL (List.Sublist.append_left (List.sublist_cons_self _ _) _) (Ops.perm List.perm_append_comm (next v' M' h))
/-! slices cut -/
variable {x : Operand} {ts e : TypeId}
theorem Ev.sliceLo {A : Option Addr} {m c : Nat} {lo : Operand} {kd : IntKind} {j : Nat} {size : Nat} (T : Tab P) (hu : T.und ts = some (.slice e)) (hz : T.size e = some size) (hx : opnd env x = some (.slice A m c)) (hlo : opnd env lo = some (.int kd (j : Int))) (h1 : j ≤ m) (h2 : m ≤ c) :
    Ev P n env (.slice ts x (some lo) none none) (.slice (if c = j then A else A.map (·.add (j * size))) (m - j) (c - j)) :=
  fun a W he _ _ _ _ _ => by
    have hb := run_sliceBounds (P := P) (hi := none) (lo := some (a.eval lo)) (len := m) (cap := c) (l := j) (h := m) (kd := .i64) (kd' := kd) (.inl ⟨rfl, rfl⟩) (.inr (by simp [eval_opnd he hlo])) h2 h1 W
    simp [execOp, Instr.sliceAt, Instr.slice, eval_opnd he hx, T.undOk hu, hb, T.sizeOk hz]
theorem Ev.sliceHi {A : Option Addr} {m c : Nat} {hi : Operand} {kd : IntKind} {j : Nat} {size : Nat} (T : Tab P) (hu : T.und ts = some (.slice e)) (hz : T.size e = some size) (hx : opnd env x = some (.slice A m c)) (hhi : opnd env hi = some (.int kd (j : Int))) (h1 : j ≤ c) :
    Ev P n env (.slice ts x none (some hi) none) (.slice (if c = 0 then A else A) j c) :=
  fun a W he _ _ _ _ _ => by
    have hb := run_sliceBounds (P := P) (hi := some (a.eval hi)) (lo := none) (len := m) (cap := c) (l := 0) (h := j) (kd := kd) (kd' := .i64) (.inr (by simp [eval_opnd he hhi])) (.inl ⟨rfl, rfl⟩) h1 (Nat.zero_le _) W
    have e1 : (A.map fun x => x.add 0) = A := by
      cases A with
      | none => rfl
      | some a0 => obtain ⟨b, off, sp⟩ := a0; simp [Addr.add]
    simp [execOp, Instr.sliceAt, Instr.slice, eval_opnd he hx, T.undOk hu, hb, T.sizeOk hz, e1]
theorem Ev.sliceHi' {A : Option Addr} {m c : Nat} {hi : Operand} {kd : IntKind} {j : Int} {size : Nat} (T : Tab P) (hu : T.und ts = some (.slice e)) (hz : T.size e = some size) (hx : opnd env x = some (.slice A m c)) (hhi : opnd env hi = some (.int kd j)) (h0 : 0 ≤ j) (h1 : j ≤ c) :
    Ev P n env (.slice ts x none (some hi) none) (.slice A j.toNat c) := by
  obtain ⟨q, rfl⟩ := Int.eq_ofNat_of_zero_le h0
  have := Ev.sliceHi (n := n) T hu hz hx hhi (by omega)
  simpa using this
end
end Go.V
/-
  More on numbers; bytes read as a text; memory that is only lent, at a call.
-/
namespace Go.V
open Go.RowKit
set_option linter.unusedVariables false
set_option linter.unusedSimpArgs false
section
variable {P : Program} {n : Nat} {C : Cx} {k : List Item} {env : Env} {L : Own} {I : Imm} {ops : Array Oper} {i : Nat} {l : List Oper} {S : World → Prop}
variable {ty : TypeId} {ps : String} {af : Array Edge} {g : Option (Nat × Bool)} {d : Nat}
variable {x y : Operand} {t t' : TypeId} {kd kd' : IntKind}
theorem Ev.shrI {a j : Int} (hx : opnd env x = some (.int kd a)) (hy : opnd env y = some (.int kd' j)) (h0 : 0 ≤ j) (h1 : j.toNat ≤ kd.bits) : Ev P n env (.binOp .shr t x y t') (.int kd (a.fdiv (2 ^ j.toNat))) :=
  Ev.of2 hx hy (fun _ => run_eqGuard_int ..) fun W => by
    have e : Op.shift .shr kd a kd' j = pure (.int kd (a.fdiv (2 ^ min j.toNat kd.bits))) := by unfold Op.shift; rw [if_neg (Int.not_lt.2 h0)]
    rw [Nat.min_eq_left h1] at e
    simp only [binOp, e]
    rfl
theorem foldl_push (xs : List UInt8) : ∀ s : ByteArray, (xs.map fun b => (b.toNat : Int)).foldl (fun r (n : Int) => r.push (UInt8.ofNat n.toNat)) s = ⟨s.data ++ xs.toArray⟩ := by
  induction xs with
  | nil => intro s; simp
  | cons x r ih =>
    intro s
    simp only [List.map_cons, List.foldl_cons]
    rw [ih]
    apply ByteArray.ext
    simp [ByteArray.push]
theorem run_bytesStr {src dst e : TypeId} {b off c : Nat} {xs : List UInt8} {W : World} (T : Tab P) (hs : T.und src = some (.slice e)) (ht : T.und dst = some .string) (he : T.und e = some (.int .u8))
    (hc : ∀ j u, (wb xs)[j]? = some u → W.cell? ⟨b, off + j, none⟩ = some u) : (convert src dst (.slice (some ⟨b, off, none⟩) xs.length c)).run P W = .ok (str xs) W := by
  have hl := run_loadCells_list (P := P) W ⟨b, off, none⟩ (wb xs) (fun j u hj => by rw [add_off]; exact hc j u hj)
  have e1 : (wb xs).length = xs.length := by simp
  rw [e1] at hl
  rw [run_convert_bytes_string W src dst e _ _ _ (und_of_run (T.undOk hs W)) (und_of_run (T.undOk he W)) (und_of_run (T.undOk ht W))]
  rw [run_bytesToString W ⟨b, off, none⟩ xs.length c (xs.map fun b => (b.toNat : Int)) (by rw [hl, List.map_map]; rfl), foldl_push]
  simp [str]
theorem run_bytesNil {src dst e : TypeId} {c : Nat} {W : World} (T : Tab P) (hs : T.und src = some (.slice e)) (ht : T.und dst = some .string) (he : T.und e = some (.int .u8)) : (convert src dst (.slice none 0 c)).run P W = .ok (str []) W := by
  rw [run_convert_bytes_string W src dst e _ _ _ (und_of_run (T.undOk hs W)) (und_of_run (T.undOk he W)) (und_of_run (T.undOk ht W))]
  rfl
theorem Yv.bytesBuf {src dst e e' : TypeId} {v : Value} {xs : List UInt8} {J : Imm} {M N : Own} (T : Tab P) (hG : Buf e' v xs N) (hm : ∀ x, x ∈ N → x ∈ M) (hs : T.und src = some (.slice e)) (ht : T.und dst = some .string) (he : T.und e = some (.int .u8)) (hx : opnd env x = some v) :
    Yv P n env (Holds J M) (.convert src dst x) (str xs) :=
  fun a W hen hS _ _ _ _ _ => by
    rcases hG with ⟨rfl, rfl, _⟩ | ⟨b, pre, post, cap, rfl, rfl, hc, _⟩
    · simp only [execOp, eval_opnd hen hx, Sem.run_bind, run_bytesNil T hs ht he, Result.andThen_ok]; rfl
    · have hW := hS.2 b _ (hm _ (List.mem_singleton.2 rfl))
      have := run_bytesStr (P := P) (c := cap) (b := b) (off := pre.length) (xs := xs) (W := W) T hs ht he (fun j u hj => by
        have hjl : j < xs.length := by simpa using (List.getElem?_eq_some_iff.1 hj).1
        rw [cell_blk hW, List.getElem?_toArray, List.append_assoc, List.getElem?_append_right (by omega), Nat.add_sub_cancel_left, List.getElem?_append_left (by simpa using hjl)]
        exact hj)
      simp only [execOp, eval_opnd hen hx, Sem.run_bind, this, Result.andThen_ok]; rfl
theorem Yv.bytesSl {src dst e : TypeId} {v : Value} {xs : List UInt8} {J : Imm} {M : Own} (T : Tab P) (hG : Sl tU8 J v xs) (hs : T.und src = some (.slice e)) (ht : T.und dst = some .string) (he : T.und e = some (.int .u8)) (hx : opnd env x = some v) :
    Yv P n env (Holds J M) (.convert src dst x) (str xs) :=
  fun a W hen hS _ _ _ _ _ => by
    obtain ⟨A, c, rfl, hc, hrow⟩ := hG
    have key : ∀ b off, (∀ j u, (wb xs)[j]? = some u → W.cell? ⟨b, off + j, none⟩ = some u) → A = some ⟨b, off, none⟩ → (execOp a.eval ⟨‹Option Tmp›, .convert src dst x, ‹TypeId›, ‹String›, ‹Array Edge›, ‹Option (Nat × Bool)›⟩).run P W = .ok (.value (str xs)) W := by
      rintro b off hcell rfl
      have := run_bytesStr (P := P) (c := c) (b := b) (off := off) (xs := xs) (W := W) T hs ht he hcell
      simp only [execOp, eval_opnd hen hx, Sem.run_bind, this, Result.andThen_ok]; rfl
    rcases hrow with rfl | ⟨b, off, rfl, hrow⟩
    · cases A with
      | none =>
        have := run_bytesNil (P := P) (c := c) (W := W) T hs ht he
        simp only [execOp, eval_opnd hen hx, Sem.run_bind, List.length_nil, this, Result.andThen_ok]; rfl
      | some a0 =>
        have hl := run_loadCells_list (P := P) W a0 [] (fun j u hj => by simp at hj)
        have h3 : (convert src dst (.slice (some a0) 0 c)).run P W = .ok (str []) W := by
          rw [run_convert_bytes_string W src dst e _ _ _ (und_of_run (T.undOk hs W)) (und_of_run (T.undOk he W)) (und_of_run (T.undOk ht W))]
          exact run_bytesToString W a0 0 c [] hl
        simp only [execOp, eval_opnd hen hx, Sem.run_bind, List.length_nil, h3, Result.andThen_ok]; rfl
    · refine key b off (fun j u hj => ?_) rfl
      have hjl : j < xs.length := by simpa using (List.getElem?_eq_some_iff.1 hj).1
      obtain ⟨cs, hr, hA⟩ := hrow j xs[j] (List.getElem?_eq_getElem hjl)
      obtain rfl : cs = _ := hr
      have h4 := hS.cell hA 0 _ rfl
      rw [List.getElem?_map, List.getElem?_eq_getElem hjl] at hj
      simp only [Option.map_some, Option.some.injEq] at hj
      subst hj
      simpa [tU8] using h4
end
end Go.V
/-
  Methods of interfaces in statements that draw their order; copies into a block that is written out.
-/
namespace Go.V
open Go.RowKit
set_option linter.unusedVariables false
set_option linter.unusedSimpArgs false
section
variable {P : Program} {n : Nat} {C : Cx} {k : List Item} {env : Env} {L : Own} {I : Imm} {ops : Array Oper} {i : Nat} {l : List Oper} {S : World → Prop}
variable {ty : TypeId} {ps : String} {af : Array Edge} {g : Option (Nat × Bool)} {d : Nat}
variable {x y : Operand} {t t' : TypeId} {kd kd' : IntKind}
variable {K : Value → Own → Imm → Prop}
theorem Eff.invokeM {f : FuncId} {m : String} {xs : List Operand} {ats : Array TypeId} {u rv : Value} {vs : List Value} {M N : Own} {R : Value → Imm → Own → Prop} (hs : Spec P f (rv :: vs) I M R) (hL : L.Perm (M ++ N)) (hc : ∀ args w, (callFunc f args).run P w = .ok (.enter f args) w)
    (hf : opnd env x = some (.iface t u)) (hm : ∀ w, (method (P.types.size + Made.depth) t u m).run P w = .ok (f, rv) w) (hx : opnds env xs = some vs) (next : ∀ v J M', Le I J → R v J M' → K v (M' ++ N) J) :
    Eff P n C env L I ⟨some d, .call ⟨.invoke x m, xs.toArray, ats⟩, ty, ps, af, g⟩ K :=
  Eff.callW (fun a W he => run_invoke hc he hf hm hx) hL hs next
theorem QD.invoke {D : List (Option Nat)} {Z : Env → Prop} {m : List Bool} {r : List Oper} {f : FuncId} {nm : String} {xs : List Operand} {ats : Array TypeId} {u rv v : Value} {vs : List Value} (hs : Pure P f (rv :: vs) I fun w J => w = v) (hd : d < n) (hg : wantD env D g = some true) (hc : ∀ args w, (callFunc f args).run P w = .ok (.enter f args) w)
    (hf : opnd env x = some (.iface t u)) (hm : ∀ w, (method (P.types.size + Made.depth) t u nm).run P w = .ok (f, rv) w) (hx : opnds env xs = some vs)
    (next : QD P n C D L I Z m r ((d, v) :: env)) : QD P n C D L I Z (true :: m) (⟨some d, .call ⟨.invoke x nm, xs.toArray, ats⟩, ty, ps, af, g⟩ :: r) env :=
  QD.callW hd hg (fun a W he => run_invoke hc he hf hm hx) hs.keeps next
end
end Go.V
/-
  What a row lists of package-level variables, read off the heap that a call begins with.
-/
namespace Go.V
open Go.RowKit Go.ChangeShapes
set_option linter.unusedVariables false
set_option linter.unusedSimpArgs false
/-- an input that fits a row that lists variables -/
theorem witness_laid {H : Type} {enc : TypeId × Value → H} {C : Checked} {os : Os} {f : FuncId} {fn : Func} {s : OpenSpec} {conds : List PathCond} {apart : Bool} {laid : List (String × DataW Unit)} (modest : Bool) (args : Array Value)
    (hsh : (World.laidAll C.prog os laid |>.forCall (fun _ _ => 0) ⟨#[], args, []⟩).Shaped C.prog)
    (hok : Input.okWideB C.prog ((World.laidAll C.prog os laid).forCall (fun _ _ => 0) ⟨#[], args, []⟩) f ⟨#[], args, []⟩ = true)
    (hrow : s.preRow enc C.prog fn conds apart laid ((World.laidAll C.prog os laid).forCall (fun _ _ => 0) ⟨#[], args, []⟩).memory args) :
    ∃ (w : World) (tape : Tape) (i : Input), w.os = os ∧ (w.forCall tape i).Shaped C.prog ∧ i.vars = [] ∧ Input.okWide C.prog (w.forCall tape i) .any w.heap.size f i ∧
      s.preRow enc C.prog fn conds apart laid (w.forCall tape i).memory i.args ∧ ({ modest := modest } : Assume).holds C.prog (lone (Frame.enter C.prog f i.args .normal) [] (w.forCall tape i)) :=
  ⟨World.laidAll C.prog os laid, fun _ _ => 0, ⟨#[], args, []⟩, World.laidAll_os _ _ _, hsh, (Input.okWide_of_okWideB (base := 0) hok).1, (Input.okWide_of_okWideB hok).2, hrow, by
    simp only [Assume.holds]
    exact ⟨by simp, by simp, fun _ => Modest.zero, by simp, by simp⟩⟩
end Go.V
/-
  Numbers of any kind; slices cut on both sides; bytes of a frozen block.
-/
namespace Go.V
open Go.RowKit
set_option linter.unusedVariables false
set_option linter.unusedSimpArgs false
section
variable {P : Program} {n : Nat} {C : Cx} {k : List Item} {env : Env} {L : Own} {I : Imm} {ops : Array Oper} {i : Nat} {l : List Oper} {S : World → Prop}
variable {ty : TypeId} {ps : String} {af : Array Edge} {g : Option (Nat × Bool)} {d : Nat}
variable {x y : Operand} {t t' : TypeId} {kd kd' : IntKind}
theorem Ev.addK {a b r : Int} (hx : opnd env x = some (.int kd a)) (hy : opnd env y = some (.int kd b)) (hr : kd.wrap (a + b) = r) : Ev P n env (.binOp .add t x y t') (.int kd r) :=
  Ev.of2 hx hy (fun _ => run_eqGuard_int ..) fun W => by subst hr; simp [binOp, Op.intArith]
theorem Ev.subK {a b r : Int} (hx : opnd env x = some (.int kd a)) (hy : opnd env y = some (.int kd b)) (hr : kd.wrap (a - b) = r) : Ev P n env (.binOp .sub t x y t') (.int kd r) :=
  Ev.of2 hx hy (fun _ => run_eqGuard_int ..) fun W => by subst hr; simp [binOp, Op.intArith]
theorem Ev.mulK {a b r : Int} (hx : opnd env x = some (.int kd a)) (hy : opnd env y = some (.int kd b)) (hr : kd.wrap (a * b) = r) : Ev P n env (.binOp .mul t x y t') (.int kd r) :=
  Ev.of2 hx hy (fun _ => run_eqGuard_int ..) fun W => by subst hr; simp [binOp, Op.intArith]
theorem Ev.orK {a b c : Nat} (hx : opnd env x = some (.int kd (a : Int))) (hy : opnd env y = some (.int kd (b : Int))) (ha : a < 2 ^ kd.bits) (hb : b < 2 ^ kd.bits) (hr : a ||| b = c) (hw : kd.wrap (c : Int) = c) : Ev P n env (.binOp .or t x y t') (.int kd (c : Int)) :=
  Ev.of2 hx hy (fun _ => run_eqGuard_int ..) fun W => by
    have e : Op.intBits .or kd (a : Int) (b : Int) = pure (.int kd (kd.wrap (((BitVec.ofInt kd.bits (a : Int)) ||| (BitVec.ofInt kd.bits (b : Int)) : BitVec kd.bits).toNat : Int))) := rfl
    have e2 : ((BitVec.ofInt kd.bits (a : Int)) ||| (BitVec.ofInt kd.bits (b : Int)) : BitVec kd.bits).toNat = c := by
      rw [BitVec.ofInt_natCast, BitVec.ofInt_natCast, BitVec.toNat_or, BitVec.toNat_ofNat, BitVec.toNat_ofNat, Nat.mod_eq_of_lt ha, Nat.mod_eq_of_lt hb, hr]
    rw [e2, hw] at e
    simp only [binOp, e, ne_eq, not_true_eq_false, if_false]
    rfl
theorem Ev.andK {a b c : Nat} (hx : opnd env x = some (.int kd (a : Int))) (hy : opnd env y = some (.int kd (b : Int))) (ha : a < 2 ^ kd.bits) (hb : b < 2 ^ kd.bits) (hr : a &&& b = c) (hw : kd.wrap (c : Int) = c) : Ev P n env (.binOp .and t x y t') (.int kd (c : Int)) :=
  Ev.of2 hx hy (fun _ => run_eqGuard_int ..) fun W => by
    have e : Op.intBits .and kd (a : Int) (b : Int) = pure (.int kd (kd.wrap (((BitVec.ofInt kd.bits (a : Int)) &&& (BitVec.ofInt kd.bits (b : Int)) : BitVec kd.bits).toNat : Int))) := rfl
    have e2 : ((BitVec.ofInt kd.bits (a : Int)) &&& (BitVec.ofInt kd.bits (b : Int)) : BitVec kd.bits).toNat = c := by
      rw [BitVec.ofInt_natCast, BitVec.ofInt_natCast, BitVec.toNat_and, BitVec.toNat_ofNat, BitVec.toNat_ofNat, Nat.mod_eq_of_lt ha, Nat.mod_eq_of_lt hb, hr]
    rw [e2, hw] at e
    simp only [binOp, e, ne_eq, not_true_eq_false, if_false]
    rfl
theorem Ev.shlK {a j r : Int} (hx : opnd env x = some (.int kd a)) (hy : opnd env y = some (.int kd' j)) (h0 : 0 ≤ j) (h1 : j.toNat ≤ kd.bits) (hr : kd.wrap (a * 2 ^ j.toNat) = r) : Ev P n env (.binOp .shl t x y t') (.int kd r) :=
  Ev.of2 hx hy (fun _ => run_eqGuard_int ..) fun W => by
    subst hr
    have e : Op.shift .shl kd a kd' j = pure (.int kd (kd.wrap (a * 2 ^ min j.toNat kd.bits))) := by unfold Op.shift; rw [if_neg (Int.not_lt.2 h0)]
    rw [Nat.min_eq_left h1] at e
    simp only [binOp, e]
    rfl
theorem Ev.shrK {a j r : Int} (hx : opnd env x = some (.int kd a)) (hy : opnd env y = some (.int kd' j)) (h0 : 0 ≤ j) (h1 : j.toNat ≤ kd.bits) (hr : a.fdiv (2 ^ j.toNat) = r) : Ev P n env (.binOp .shr t x y t') (.int kd r) :=
  (Ev.shrI hx hy h0 h1).as (by rw [hr])
theorem Ev.sliceLH {ts e : TypeId} {A : Option Addr} {m c p q : Nat} {lo hi : Operand} {size : Nat} (T : Tab P) (hu : T.und ts = some (.slice e)) (hz : T.size e = some size) (hx : opnd env x = some (.slice A m c)) (hlo : opnd env lo = some (.int kd (p : Int))) (hhi : opnd env hi = some (.int kd' (q : Int))) (h0 : p ≤ q) (h1 : q ≤ c) :
    Ev P n env (.slice ts x (some lo) (some hi) none) (.slice (if c = p then A else A.map (·.add (p * size))) (q - p) (c - p)) :=
  fun a W he _ _ _ _ _ => by
    have hb := run_sliceBounds (P := P) (hi := some (a.eval hi)) (lo := some (a.eval lo)) (len := m) (cap := c) (l := p) (h := q) (kd := kd') (kd' := kd) (.inr (by simp [eval_opnd he hhi])) (.inr (by simp [eval_opnd he hlo])) h1 h0 W
    simp [execOp, Instr.sliceAt, Instr.slice, eval_opnd he hx, T.undOk hu, hb, T.sizeOk hz]
end
/-- numbers -/
theorem orSh {a b : Nat} (k : Nat) (h : b < 2 ^ k) : a * 2 ^ k ||| b = a * 2 ^ k + b := by
  rw [Nat.mul_comm, ← Nat.two_pow_add_eq_or_of_lt h]
theorem wrapI32 {x : Int} (h : -2147483648 ≤ x) (h' : x ≤ 2147483647) : IntKind.i32.wrap x = x := wI32 h h'
theorem wrapN8 {k : Nat} (h : k < 256) : IntKind.u8.wrap (k : Int) = (k : Int) := wU8 (by omega) (by omega)
/-- bytes that lie in a frozen block -/
structure Rd (I : Imm) (v : Value) (xs : List UInt8) (db off c : Nat) : Prop where
  eq : v = .slice (some ⟨db, off, none⟩) xs.length c
  cap : xs.length ≤ c
  at' : ∀ i, i < xs.length → At I db (off + ((i : Int)).toNat * 1) [.int .u8 ((xs.getD i 0).toNat : Int)]
theorem Rd.mono {I J : Imm} {v : Value} {xs : List UInt8} {db off c : Nat} (h : Rd I v xs db off c) (hle : Le I J) : Rd J v xs db off c := ⟨h.eq, h.cap, fun i hi => (h.at' i hi).mono hle⟩
theorem Rd.of {I : Imm} {v : Value} {xs : List UInt8} (h : Sl tU8 I v xs) (hne : xs ≠ []) : ∃ db off c, Rd I v xs db off c := by
  obtain ⟨A, c, rfl, hc, hrow⟩ := h
  rcases hrow with rfl | ⟨b, off, rfl, hrow⟩
  · exact absurd rfl hne
  · refine ⟨b, off, c, rfl, hc, fun i hi => ?_⟩
    obtain ⟨cs, hr, hA⟩ := hrow i _ (List.getElem?_eq_getElem hi)
    obtain rfl : cs = _ := hr
    rw [List.getD_eq_getElem?_getD, List.getElem?_eq_getElem hi]
    exact hA
theorem Rd.sl {I : Imm} {v : Value} {xs : List UInt8} {db off c : Nat} (h : Rd I v xs db off c) : Sl tU8 I v xs := by
  refine ⟨_, c, h.eq, h.cap, .inr ⟨db, off, rfl, fun i x hx => ?_⟩⟩
  obtain ⟨hi, rfl⟩ := List.getElem?_eq_some_iff.1 hx
  refine ⟨_, rfl, ?_⟩
  have := h.at' i hi
  rw [List.getD_eq_getElem?_getD, List.getElem?_eq_getElem hi] at this
  exact this
/-- a part of them -/
theorem Rd.cut {I : Imm} {v : Value} {xs : List UInt8} {db off c : Nat} (h : Rd I v xs db off c) {p q : Nat} (hpq : p ≤ q) (hq : q ≤ xs.length) (hpc : p < c) :
    Rd I (.slice (if c = p then some ⟨db, off, none⟩ else (some (⟨db, off, none⟩ : Addr)).map (·.add (p * 1))) (q - p) (c - p)) ((xs.take q).drop p) db (off + p) (c - p) := by
  have hc := h.cap
  have hl : ((xs.take q).drop p).length = q - p := by simp; omega
  refine ⟨?_, by rw [hl]; omega, fun i hi => ?_⟩
  · rw [if_neg (by omega), hl]; simp [Addr.add]
  · rw [hl] at hi
    have := h.at' (p + i) (by omega)
    have e : ((xs.take q).drop p).getD i 0 = xs.getD (p + i) 0 := by
      rw [List.getD_eq_getElem?_getD, List.getD_eq_getElem?_getD, List.getElem?_drop, List.getElem?_take_of_lt (by omega)]
    rw [e]
    have e2 : off + p + ((i : Nat) : Int).toNat * 1 = off + (((p + i : Nat) : Int)).toNat * 1 := by omega
    rw [e2]; exact this
theorem dc {p : Prop} (h : p := by decide) : p := h
theorem om {p : Prop} (h : p := by first | omega | (simp only [List.length_cons, List.length_nil] ; omega) | (simp; omega)) : p := h
section
variable {n : Nat} {C : Cx} {env : Env} {L : Own} {I : Imm} {D : List (Option Nat)} {Z : Env → Prop} {m : List Bool} {r : List Oper} {ty : TypeId} {ps : String} {af : Array Edge} {g : Option (Nat × Bool)} {d : Nat}
theorem q1 {op : Op} {v : Value} (hd : d < n) (hg : wantD env D g = some true) (h : evalOp T env op = some v) (next : QD Proofs.Tryd.prog n C D L I Z m r ((d, v) :: env)) : QD Proofs.Tryd.prog n C D L I Z (true :: m) (⟨some d, op, ty, ps, af, g⟩ :: r) env :=
  QD.ev T hd hg h next
theorem qf {op : Op} {p : Prop} {i : Decidable p} (h : Ev Proofs.Tryd.prog n env op (.bool (decide p))) (hp : ¬p) (hd : d < n) (hg : wantD env D g = some true) (next : QD Proofs.Tryd.prog n C D L I Z m r ((d, .bool false) :: env)) : QD Proofs.Tryd.prog n C D L I Z (true :: m) (⟨some d, op, ty, ps, af, g⟩ :: r) env :=
  QD.e (h.as (congrArg Value.bool (decide_eq_false hp))) hd hg next
theorem qt {op : Op} {p : Prop} {i : Decidable p} (h : Ev Proofs.Tryd.prog n env op (.bool (decide p))) (hp : p) (hd : d < n) (hg : wantD env D g = some true) (next : QD Proofs.Tryd.prog n C D L I Z m r ((d, .bool true) :: env)) : QD Proofs.Tryd.prog n C D L I Z (true :: m) (⟨some d, op, ty, ps, af, g⟩ :: r) env :=
  QD.e (h.as (congrArg Value.bool (decide_eq_true hp))) hd hg next
end
end Go.V
/-
  How JSON is read, as a plain function over the bytes that are left.
-/
namespace Go.V
set_option linter.unusedVariables false
set_option linter.unusedSimpArgs false
set_option maxRecDepth 10000
/-- a value that was read -/
inductive JV where
  | mk (kind : UInt8) (plain : Bool) (text : List UInt8) (kids : List JV) (keys : List (List UInt8))
def JV.kind : JV → UInt8 | mk k _ _ _ _ => k
def JV.plain : JV → Bool | mk _ p _ _ _ => p
def JV.text : JV → List UInt8 | mk _ _ t _ _ => t
def JV.kids : JV → List JV | mk _ _ _ k _ => k
def JV.keys : JV → List (List UInt8) | mk _ _ _ _ k => k
abbrev Bs := List UInt8
def isBl (c : UInt8) : Bool := c == 32 || c == 9 || c == 10 || c == 13
def skipB (s : Bs) : Bs := s.dropWhile isBl
def wordR (w s : Bs) : Option Bs := if s.take w.length = w then some (s.drop w.length) else none
def hexV (c : UInt8) : Option Nat :=
  if 48 ≤ c.toNat ∧ c.toNat ≤ 57 then some (c.toNat - 48) else if 97 ≤ c.toNat ∧ c.toNat ≤ 102 then some (c.toNat - 87) else if 65 ≤ c.toNat ∧ c.toNat ≤ 70 then some (c.toNat - 55) else none
/-- so many digits of base 16 -/
def unitR : Nat → Nat → Bs → Option (Nat × Bs)
  | 0, x, s => some (x, s)
  | _ + 1, _, [] => none
  | k + 1, x, c :: s => match hexV c with
    | none => none
    | some d => unitR k (x * 16 + d) s
/-- behind \u -/
def escU (s : Bs) : Option (Nat × Bs) := match unitR 4 0 s with
  | none => none
  | some (x, s1) => if 55296 ≤ x ∧ x < 56320 then match wordR [92, 117] s1 with
      | none => some (x, s1)
      | some s2 => match unitR 4 0 s2 with
        | none => none
        | some (y, s3) => if 56320 ≤ y ∧ y < 57344 then some (65536 + (x - 55296) * 1024 + (y - 56320), s3) else some (x, s1)
    else some (x, s1)
/-- behind \ : what it stands for -/
def escR (c : UInt8) (s : Bs) : Option (Bs × Bs) :=
  if c = 34 ∨ c = 92 ∨ c = 47 then some ([c], s)
  else if c = 98 then some ([8], s) else if c = 102 then some ([12], s) else if c = 110 then some ([10], s) else if c = 114 then some ([13], s) else if c = 116 then some ([9], s)
  else if c = 117 then (escU s).map fun p => (encR p.1, p.2)
  else none
/-- the rest of a string -/
def textR : Nat → Bs → Bs → Option (Bs × Bs)
  | 0, _, _ => none
  | _ + 1, [], _ => none
  | n + 1, c :: s, out =>
    if c = 34 then some (out, s)
    else if c.toNat < 32 then none
    else if c = 92 then match s with
      | [] => none
      | d :: t => match escR d t with
        | none => none
        | some (x, r) => textR n r (out ++ x)
    else textR n ((c :: s).drop (runeAt (c :: s) 0).2) (out ++ encR (runeAt (c :: s) 0).1)
def strR (s : Bs) : Option (Bs × Bs) := textR (s.length + 1) s []
def isDg (c : UInt8) : Bool := decide (48 ≤ c.toNat) && decide (c.toNat ≤ 57)
def digsR (s : Bs) : Option Bs := match s with
  | [] => none
  | c :: t => if isDg c then some (t.dropWhile isDg) else none
def numR1 (s : Bs) : Bs := (wordR [45] s).getD s
def numR2 (s : Bs) : Option Bs := match wordR [48] s with
  | some r => some r
  | none => digsR s
def numR3 (s : Bs) : Option Bs := match wordR [46] s with
  | some r => digsR r
  | none => some s
def numR4 (s : Bs) : Option Bs := match wordR [101] s with
  | some r => digsR ((wordR [43] r).getD (numR1 r))
  | none => match wordR [69] s with
    | some r => digsR ((wordR [43] r).getD (numR1 r))
    | none => some s
def numR (s : Bs) : Option Bs := ((numR2 (numR1 s)).bind numR3).bind numR4
/-- elements, up to the end -/
def elemsR (val : Bs → Option (JV × Bs)) : Nat → Bs → List JV → Option (List JV × Bs)
  | 0, _, _ => none
  | n + 1, s, acc => match val s with
    | none => none
    | some (x, s1) => match skipB s1 with
      | [] => none
      | c :: s2 => if c = 93 then some (acc ++ [x], s2) else if c = 44 then elemsR val n s2 (acc ++ [x]) else none
def keyR (s : Bs) : Option (Bs × Bs) := match skipB s with
  | [] => none
  | c :: s1 => if c = 34 then match strR s1 with
      | none => none
      | some (k, s2) => match skipB s2 with
        | [] => none
        | c :: s3 => if c = 58 then some (k, s3) else none
    else none
def membsR (val : Bs → Option (JV × Bs)) : Nat → Bs → List Bs → List JV → Option (List Bs × List JV × Bs)
  | 0, _, _, _ => none
  | n + 1, s, ks, vs => match keyR s with
    | none => none
    | some (k, s1) => match val s1 with
      | none => none
      | some (x, s2) => match skipB s2 with
        | [] => none
        | c :: s3 => if c = 125 then some (ks ++ [k], vs ++ [x], s3) else if c = 44 then membsR val n s3 (ks ++ [k]) (vs ++ [x]) else none
def objR (val : Bs → Option (JV × Bs)) (t : Bs) : Option (JV × Bs) := match wordR [125] (skipB t) with
  | some r => some (.mk 123 false [] [] [], r)
  | none => (membsR val (t.length + 1) (skipB t) [] []).map fun p => (.mk 123 false [] p.2.1 p.1, p.2.2)
def listR (val : Bs → Option (JV × Bs)) (t : Bs) : Option (JV × Bs) := match wordR [93] (skipB t) with
  | some r => some (.mk 91 false [] [] [], r)
  | none => (elemsR val (t.length + 1) (skipB t) []).map fun p => (.mk 91 false [] p.1 [], p.2)
/-- bytes that are there, less those that are left -/
def eaten (s r : Bs) : Bs := s.take (s.length - r.length)
def stepR (sub : Option (Bs → Option (JV × Bs))) (s : Bs) : Option (JV × Bs) := match skipB s with
  | [] => none
  | c :: t =>
    if c = 123 then sub.bind fun v => objR v t
    else if c = 91 then sub.bind fun v => listR v t
    else if c = 34 then (strR t).map fun p => (.mk 34 ((eaten (c :: t) p.2).all fun b => !(b == 92)) p.1 [] [], p.2)
    else if c = 116 then (wordR [116, 114, 117, 101] (c :: t)).map fun r => (.mk 116 false [] [] [], r)
    else if c = 102 then (wordR [102, 97, 108, 115, 101] (c :: t)).map fun r => (.mk 102 false [] [] [], r)
    else if c = 110 then (wordR [110, 117, 108, 108] (c :: t)).map fun r => (.mk 110 false [] [] [], r)
    else (numR (c :: t)).map fun r => (.mk 48 false (eaten (c :: t) r) [] [], r)
/-- a value; so many levels more -/
def rdV : Nat → Bs → Option (JV × Bs)
  | 0, s => stepR none s
  | f + 1, s => stepR (some (rdV f)) s
def Sfx (r s : Bs) : Prop := ∃ u, s = u ++ r
theorem Sfx.refl (s : Bs) : Sfx s s := ⟨[], rfl⟩
theorem Sfx.trans {a b c : Bs} (h : Sfx a b) (k : Sfx b c) : Sfx a c := by
  obtain ⟨u, rfl⟩ := h
  obtain ⟨v, rfl⟩ := k
  exact ⟨v ++ u, by simp⟩
theorem Sfx.cons (c : UInt8) (s : Bs) : Sfx s (c :: s) := ⟨[c], rfl⟩
theorem Sfx.len {r s : Bs} (h : Sfx r s) : r.length ≤ s.length := by obtain ⟨u, rfl⟩ := h; simp
theorem Sfx.drop {r s : Bs} (h : Sfx r s) : s.drop (s.length - r.length) = r := by obtain ⟨u, rfl⟩ := h; simp
theorem Sfx.dropN (s : Bs) (k : Nat) : Sfx (s.drop k) s := ⟨s.take k, (List.take_append_drop k s).symm⟩
theorem skip_sfx (s : Bs) : Sfx (skipB s) s := ⟨s.takeWhile isBl, List.takeWhile_append_dropWhile.symm⟩
theorem word_sfx {w s r : Bs} (h : wordR w s = some r) : Sfx r s ∧ s = w ++ r := by
  unfold wordR at h
  split at h
  · rename_i e
    cases h
    exact ⟨Sfx.dropN _ _, by have := List.take_append_drop w.length s; rw [e] at this; exact this.symm⟩
  · cases h
theorem word_app (w r : Bs) : wordR w (w ++ r) = some r := by
  unfold wordR; simp
theorem word1 (c : UInt8) (t : Bs) : wordR [c] (c :: t) = some t := word_app [c] t
theorem unit_sfx : ∀ (k x : Nat) (s : Bs) {y : Nat} {r : Bs}, unitR k x s = some (y, r) → Sfx r s
  | 0, x, s, y, r, h => by simp only [unitR, Option.some.injEq, Prod.mk.injEq] at h; rw [h.2]; exact Sfx.refl _
  | k + 1, x, [], y, r, h => by simp [unitR] at h
  | k + 1, x, c :: s, y, r, h => by
    simp only [unitR] at h
    split at h
    · cases h
    · exact (unit_sfx k _ s h).trans (Sfx.cons _ _)
theorem escU_sfx {s r : Bs} {x : Nat} (h : escU s = some (x, r)) : Sfx r s := by
  have out : ∀ {y z : Nat} {a b : Bs}, (some (y, a) : Option (Nat × Bs)) = some (z, b) → a = b := fun h => (Prod.mk.inj (Option.some.inj h)).2
  unfold escU at h
  split at h
  · exact absurd h (by simp)
  · rename_i y s1 h1
    have k1 := unit_sfx _ _ _ h1
    split at h
    · split at h
      · rw [← out h]; exact k1
      · rename_i s2 h2
        have k2 := (word_sfx h2).1
        split at h
        · exact absurd h (by simp)
        · rename_i z s3 h3
          have k3 := unit_sfx _ _ _ h3
          split at h
          · rw [← out h]; exact (k3.trans k2).trans k1
          · rw [← out h]; exact k1
    · rw [← out h]; exact k1
theorem escR_sfx {c : UInt8} {s x r : Bs} (h : escR c s = some (x, r)) : Sfx r s := by
  have out : ∀ {y z : Bs} {a b : Bs}, (some (y, a) : Option (Bs × Bs)) = some (z, b) → a = b := fun h => (Prod.mk.inj (Option.some.inj h)).2
  unfold escR at h
  split at h
  · rw [← out h]; exact Sfx.refl _
  split at h
  · rw [← out h]; exact Sfx.refl _
  split at h
  · rw [← out h]; exact Sfx.refl _
  split at h
  · rw [← out h]; exact Sfx.refl _
  split at h
  · rw [← out h]; exact Sfx.refl _
  split at h
  · rw [← out h]; exact Sfx.refl _
  split at h
  · cases he : escU s with
    | none => rw [he] at h; exact absurd h (by simp)
    | some p =>
      obtain ⟨y, q⟩ := p
      rw [he] at h
      rw [← out h]; exact escU_sfx he
  · exact absurd h (by simp)
theorem text_sfx : ∀ (n : Nat) (s out : Bs) {t r : Bs}, textR n s out = some (t, r) → Sfx r s ∧ r.length < s.length
  | 0, s, out, t, r, h => by simp [textR] at h
  | n + 1, [], out, t, r, h => by simp [textR] at h
  | n + 1, c :: s, out, t, r, h => by
    simp only [textR] at h
    split at h
    · cases h; exact ⟨Sfx.cons _ _, by simp⟩
    split at h
    · cases h
    split at h
    · cases s with
      | nil => simp at h
      | cons d u =>
        simp only at h
        split at h
        · cases h
        · rename_i x r' he
          obtain ⟨k1, k2⟩ := text_sfx n _ _ h
          have k3 := escR_sfx he
          exact ⟨((k1.trans k3).trans (Sfx.cons _ _)).trans (Sfx.cons _ _), by have := k3.len; simp only [List.length_cons]; omega⟩
    · obtain ⟨k1, k2⟩ := text_sfx n _ _ h
      have := (Sfx.dropN (c :: s) (runeAt (c :: s) 0).2).len
      exact ⟨k1.trans (Sfx.dropN _ _), by omega⟩
theorem str_sfx {s t r : Bs} (h : strR s = some (t, r)) : Sfx r s ∧ r.length < s.length := text_sfx _ _ _ h
theorem digs_sfx {s r : Bs} (h : digsR s = some r) : Sfx r s ∧ r.length < s.length := by
  unfold digsR at h
  split at h
  · cases h
  · rename_i c t
    split at h
    · cases h
      have k : Sfx (t.dropWhile isDg) t := ⟨t.takeWhile isDg, List.takeWhile_append_dropWhile.symm⟩
      exact ⟨k.trans (Sfx.cons _ _), by have := k.len; simp only [List.length_cons]; omega⟩
    · cases h
theorem num1_sfx (s : Bs) : Sfx (numR1 s) s := by
  unfold numR1
  cases h : wordR [45] s with
  | none => exact Sfx.refl _
  | some r => exact (word_sfx h).1
theorem num2_sfx {s r : Bs} (h : numR2 s = some r) : Sfx r s ∧ r.length < s.length := by
  unfold numR2 at h
  split at h
  · rename_i q hq
    cases h
    obtain ⟨k1, k2⟩ := word_sfx hq
    exact ⟨k1, by rw [k2]; simp⟩
  · exact digs_sfx h
theorem num3_sfx {s r : Bs} (h : numR3 s = some r) : Sfx r s := by
  unfold numR3 at h
  split at h
  · rename_i q hq
    exact (digs_sfx h).1.trans (word_sfx hq).1
  · cases h; exact Sfx.refl _
theorem sgn_sfx (s : Bs) : Sfx ((wordR [43] s).getD (numR1 s)) s := by
  cases h : wordR [43] s with
  | none => exact num1_sfx s
  | some r => exact (word_sfx h).1
theorem num4_sfx {s r : Bs} (h : numR4 s = some r) : Sfx r s := by
  unfold numR4 at h
  split at h
  · rename_i q hq
    exact ((digs_sfx h).1.trans (sgn_sfx q)).trans (word_sfx hq).1
  · split at h
    · rename_i q hq
      exact ((digs_sfx h).1.trans (sgn_sfx q)).trans (word_sfx hq).1
    · cases h; exact Sfx.refl _
theorem num_sfx {s r : Bs} (h : numR s = some r) : Sfx r s ∧ r.length < s.length := by
  unfold numR at h
  cases h2 : numR2 (numR1 s) with
  | none => rw [h2] at h; cases h
  | some a =>
    rw [h2, Option.bind_some] at h
    cases h3 : numR3 a with
    | none => rw [h3] at h; cases h
    | some b =>
      rw [h3, Option.bind_some] at h
      obtain ⟨k1, k2⟩ := num2_sfx h2
      have k3 := num3_sfx h3
      have k4 := num4_sfx h
      have k0 := num1_sfx s
      exact ⟨((k4.trans k3).trans k1).trans k0, by have := k4.len; have := k3.len; have := k0.len; omega⟩
/-- a way to read that goes forward -/
def Fwd (val : Bs → Option (JV × Bs)) : Prop := ∀ {s v r}, val s = some (v, r) → Sfx r s ∧ r.length < s.length
theorem elems_sfx {val : Bs → Option (JV × Bs)} (hv : Fwd val) : ∀ (n : Nat) (s : Bs) (acc : List JV) {l : List JV} {r : Bs}, elemsR val n s acc = some (l, r) → Sfx r s ∧ r.length < s.length
  | 0, s, acc, l, r, h => by simp [elemsR] at h
  | n + 1, s, acc, l, r, h => by
    simp only [elemsR] at h
    split at h
    · cases h
    · rename_i x s1 h1
      obtain ⟨k1, k2⟩ := hv h1
      have k3 := skip_sfx s1
      split at h
      · cases h
      · rename_i c s2 h2
        rw [h2] at k3
        have k4 := k3.len
        simp only [List.length_cons] at k4
        have k5 := ((Sfx.cons c s2).trans k3).trans k1
        split at h
        · cases h; exact ⟨k5, by omega⟩
        · split at h
          · obtain ⟨a, b⟩ := elems_sfx hv n _ _ h
            exact ⟨a.trans k5, by omega⟩
          · cases h
theorem key_sfx {s k r : Bs} (h : keyR s = some (k, r)) : Sfx r s ∧ r.length < s.length := by
  unfold keyR at h
  have k1 := skip_sfx s
  split at h
  · cases h
  · rename_i c s1 h1
    rw [h1] at k1
    have l1 := k1.len
    split at h
    · split at h
      · cases h
      · rename_i k' s2 h2
        obtain ⟨k2, l2⟩ := str_sfx h2
        have k3 := skip_sfx s2
        split at h
        · cases h
        · rename_i c' s3 h3
          rw [h3] at k3
          have l3 := k3.len
          split at h
          · cases h
            refine ⟨((((Sfx.cons c' _).trans k3).trans k2).trans (Sfx.cons c s1)).trans k1, ?_⟩
            simp only [List.length_cons] at l1 l3; omega
          · cases h
    · cases h
theorem membs_sfx {val : Bs → Option (JV × Bs)} (hv : Fwd val) : ∀ (n : Nat) (s : Bs) (ks : List Bs) (vs : List JV) {l : List Bs} {m : List JV} {r : Bs}, membsR val n s ks vs = some (l, m, r) → Sfx r s ∧ r.length < s.length
  | 0, s, ks, vs, l, m, r, h => by simp [membsR] at h
  | n + 1, s, ks, vs, l, m, r, h => by
    simp only [membsR] at h
    split at h
    · cases h
    · rename_i k s1 h1
      obtain ⟨k1, l1⟩ := key_sfx h1
      split at h
      · cases h
      · rename_i x s2 h2
        obtain ⟨k2, l2⟩ := hv h2
        have k3 := skip_sfx s2
        split at h
        · cases h
        · rename_i c s3 h3
          rw [h3] at k3
          have l3 := k3.len
          simp only [List.length_cons] at l3
          have k5 := (((Sfx.cons c s3).trans k3).trans k2).trans k1
          split at h
          · cases h; exact ⟨k5, by omega⟩
          · split at h
            · obtain ⟨a, b⟩ := membs_sfx hv n _ _ _ h
              exact ⟨a.trans k5, by omega⟩
            · cases h
theorem obj_sfx {val : Bs → Option (JV × Bs)} (hv : Fwd val) {t r : Bs} {v : JV} (h : objR val t = some (v, r)) : Sfx r t ∧ r.length ≤ t.length := by
  unfold objR at h
  split at h
  · rename_i q hq
    cases h
    have := (word_sfx hq).1.trans (skip_sfx t)
    exact ⟨this, this.len⟩
  · cases hm : membsR val (t.length + 1) (skipB t) [] [] with
    | none => rw [hm] at h; cases h
    | some p =>
      obtain ⟨a, b, c⟩ := p
      rw [hm] at h
      cases h
      have := (membs_sfx hv _ _ _ _ hm).1.trans (skip_sfx t)
      exact ⟨this, this.len⟩
theorem list_sfx {val : Bs → Option (JV × Bs)} (hv : Fwd val) {t r : Bs} {v : JV} (h : listR val t = some (v, r)) : Sfx r t ∧ r.length ≤ t.length := by
  unfold listR at h
  split at h
  · rename_i q hq
    cases h
    have := (word_sfx hq).1.trans (skip_sfx t)
    exact ⟨this, this.len⟩
  · cases hm : elemsR val (t.length + 1) (skipB t) [] with
    | none => rw [hm] at h; cases h
    | some p =>
      obtain ⟨a, c⟩ := p
      rw [hm] at h
      cases h
      have := (elems_sfx hv _ _ _ hm).1.trans (skip_sfx t)
      exact ⟨this, this.len⟩
theorem step_sfx {sub : Option (Bs → Option (JV × Bs))} (hs : ∀ v, sub = some v → Fwd v) {s r : Bs} {v : JV} (h : stepR sub s = some (v, r)) : Sfx r s ∧ r.length < s.length := by
  unfold stepR at h
  have k0 := skip_sfx s
  split at h
  · cases h
  · rename_i c t ht
    rw [ht] at k0
    have l0 := k0.len
    simp only [List.length_cons] at l0
    have kt : ∀ r : Bs, Sfx r t → Sfx r s ∧ r.length < s.length := fun r hr => ⟨(hr.trans (Sfx.cons c t)).trans k0, by have := hr.len; omega⟩
    have kw : ∀ (w r : Bs), w ≠ [] → wordR w (c :: t) = some r → Sfx r s ∧ r.length < s.length := fun w r hw hr => by
      obtain ⟨a, b⟩ := word_sfx hr
      refine ⟨a.trans k0, ?_⟩
      have := congrArg List.length b
      have : 0 < w.length := List.length_pos_iff.2 hw
      simp only [List.length_cons, List.length_append] at *; omega
    split at h
    · cases sub with
      | none => cases h
      | some val => exact kt _ (obj_sfx (hs val rfl) h).1
    split at h
    · cases sub with
      | none => cases h
      | some val => exact kt _ (list_sfx (hs val rfl) h).1
    split at h
    · cases hq : strR t with
      | none => rw [hq] at h; cases h
      | some p => rw [hq] at h; cases h; exact kt _ (str_sfx hq).1
    split at h
    · cases hq : wordR [116, 114, 117, 101] (c :: t) with
      | none => rw [hq] at h; cases h
      | some p => rw [hq] at h; cases h; exact kw _ _ (by decide) hq
    split at h
    · cases hq : wordR [102, 97, 108, 115, 101] (c :: t) with
      | none => rw [hq] at h; cases h
      | some p => rw [hq] at h; cases h; exact kw _ _ (by decide) hq
    split at h
    · cases hq : wordR [110, 117, 108, 108] (c :: t) with
      | none => rw [hq] at h; cases h
      | some p => rw [hq] at h; cases h; exact kw _ _ (by decide) hq
    · cases hq : numR (c :: t) with
      | none => rw [hq] at h; cases h
      | some p =>
        rw [hq] at h; cases h
        obtain ⟨a, b⟩ := num_sfx hq
        simp only [List.length_cons] at b
        exact ⟨a.trans k0, by omega⟩
theorem rdV_fwd : ∀ f, Fwd (rdV f)
  | 0 => fun h => step_sfx (fun _ h => by cases h) h
  | f + 1 => fun h => step_sfx (fun _ e => by cases e; exact rdV_fwd f) h
end Go.V
/-
  UTF-8: runes there and back. Plain Lean.
-/
namespace Go.V
set_option linter.unusedVariables false
set_option linter.unusedSimpArgs false
set_option maxRecDepth 10000
/-- a code point -/
def goodR (r : Nat) : Prop := r < 55296 ∨ (57344 ≤ r ∧ r ≤ 1114111)
def encs (rs : List Nat) : List UInt8 := rs.flatMap fun (r : Nat) => encR (r : Int)
theorem encs_cons (r : Nat) (rs : List Nat) : encs (r :: rs) = encR (r : Int) ++ encs rs := rfl
theorem encs_append (a b : List Nat) : encs (a ++ b) = encs a ++ encs b := by simp [encs]
theorem valid_of {r : Nat} (h : goodR r) : Utf8.valid (r : Int) = true := by
  unfold Utf8.valid goodR at *
  simp only [Bool.or_eq_true, Bool.and_eq_true, decide_eq_true_eq]
  omega
theorem of_valid {r : Nat} (h : Utf8.valid (r : Int) = true) : goodR r := by
  unfold Utf8.valid at h
  simp only [Bool.or_eq_true, Bool.and_eq_true, decide_eq_true_eq] at h
  unfold goodR
  omega
theorem encR_good {r : Nat} (h : goodR r) : encR (r : Int) =
    if r < 128 then [UInt8.ofNat r] else if r < 2048 then [UInt8.ofNat (192 + r / 64), UInt8.ofNat (128 + r % 64)]
    else if r < 65536 then [UInt8.ofNat (224 + r / 4096), UInt8.ofNat (128 + r / 64 % 64), UInt8.ofNat (128 + r % 64)]
    else [UInt8.ofNat (240 + r / 262144), UInt8.ofNat (128 + r / 4096 % 64), UInt8.ofNat (128 + r / 64 % 64), UInt8.ofNat (128 + r % 64)] := by
  unfold encR Utf8.encode
  simp only [valid_of h, if_true, Int.toNat_natCast]
  split
  · rfl
  split
  · rfl
  split <;> rfl
theorem encR_bad {r : Int} (h : Utf8.valid r = false) : encR r = [239, 191, 189] := by
  unfold encR Utf8.encode
  simp [h, Utf8.runeError]
theorem ofNat_nat {k : Nat} (h : k < 256) : (UInt8.ofNat k).toNat = k := by
  rw [UInt8.toNat_ofNat']; omega
theorem encR_len {r : Nat} (h : goodR r) : (encR (r : Int)).length = if r < 128 then 1 else if r < 2048 then 2 else if r < 65536 then 3 else 4 := by
  rw [encR_good h]
  split
  · rfl
  split
  · rfl
  split <;> rfl
theorem encR_pos (r : Nat) : 1 ≤ (encR (r : Int)).length ∧ (encR (r : Int)).length ≤ 4 := by
  unfold encR Utf8.encode
  dsimp only
  generalize (if Utf8.valid (r : Int) = true then (r : Int).toNat else Utf8.runeError) = c
  split
  · exact ⟨Nat.le_of_ble_eq_true rfl, Nat.le_of_ble_eq_true rfl⟩
  split
  · exact ⟨Nat.le_of_ble_eq_true rfl, Nat.le_of_ble_eq_true rfl⟩
  split <;> exact ⟨Nat.le_of_ble_eq_true rfl, Nat.le_of_ble_eq_true rfl⟩
/-- a rune that is written is read -/
theorem runeAt_enc {r : Nat} (h : goodR r) (t : List UInt8) : runeAt (encR (r : Int) ++ t) 0 = (r, (encR (r : Int)).length) := by
  have hg := h
  unfold goodR at hg
  rw [encR_len h, encR_good h]
  unfold runeAt Utf8.decode
  simp only [Nat.zero_add, ba_get]
  by_cases h1 : r < 128
  · simp only [if_pos h1, List.singleton_append, List.getD_cons_zero, ofNat_nat (show r < 256 by omega)]
  by_cases h2 : r < 2048
  · have e0 : (UInt8.ofNat (192 + r / 64)).toNat = 192 + r / 64 := ofNat_nat (by omega)
    have e1 : (UInt8.ofNat (128 + r % 64)).toNat = 128 + r % 64 := ofNat_nat (by omega)
    have hs : ∀ a b : UInt8, (ba (a :: b :: t)).size = t.length + 2 := fun a b => by rw [show (ba (a :: b :: t)).size = _ from str_size _]; simp
    simp only [if_neg h1, if_pos h2, hs, List.cons_append, List.nil_append, List.getD_cons_zero, List.getD_cons_succ, e0, e1]
    rw [if_neg (by omega), if_pos (by simp only [Bool.and_eq_true, beq_iff_eq, decide_eq_true_eq]; omega), if_pos (by omega)]
    congr 1; omega
  by_cases h3 : r < 65536
  · have e0 : (UInt8.ofNat (224 + r / 4096)).toNat = 224 + r / 4096 := ofNat_nat (by omega)
    have e1 : (UInt8.ofNat (128 + r / 64 % 64)).toNat = 128 + r / 64 % 64 := ofNat_nat (by omega)
    have e2 : (UInt8.ofNat (128 + r % 64)).toNat = 128 + r % 64 := ofNat_nat (by omega)
    have hs : ∀ a b c : UInt8, (ba (a :: b :: c :: t)).size = t.length + 3 := fun a b c => by rw [show (ba (a :: b :: c :: t)).size = _ from str_size _]; simp
    have ec : (224 + r / 4096) % 16 * 4096 + (128 + r / 64 % 64) % 64 * 64 + (128 + r % 64) % 64 = r := by omega
    simp only [if_neg h1, if_neg h2, if_pos h3, hs, List.cons_append, List.nil_append, List.getD_cons_zero, List.getD_cons_succ, e0, e1, e2, ec]
    rw [if_neg (by omega), if_neg (by simp only [Bool.and_eq_true, beq_iff_eq, decide_eq_true_eq]; omega), if_pos (by simp only [Bool.and_eq_true, beq_iff_eq, decide_eq_true_eq]; omega),
      if_pos (by simp only [Bool.and_eq_true, decide_eq_true_eq]; exact ⟨by omega, valid_of h⟩)]
  · have e0 : (UInt8.ofNat (240 + r / 262144)).toNat = 240 + r / 262144 := ofNat_nat (by omega)
    have e1 : (UInt8.ofNat (128 + r / 4096 % 64)).toNat = 128 + r / 4096 % 64 := ofNat_nat (by omega)
    have e2 : (UInt8.ofNat (128 + r / 64 % 64)).toNat = 128 + r / 64 % 64 := ofNat_nat (by omega)
    have e3 : (UInt8.ofNat (128 + r % 64)).toNat = 128 + r % 64 := ofNat_nat (by omega)
    have hs : ∀ a b c d : UInt8, (ba (a :: b :: c :: d :: t)).size = t.length + 4 := fun a b c d => by rw [show (ba (a :: b :: c :: d :: t)).size = _ from str_size _]; simp
    have ec : (240 + r / 262144) % 8 * 262144 + (128 + r / 4096 % 64) % 64 * 4096 + (128 + r / 64 % 64) % 64 * 64 + (128 + r % 64) % 64 = r := by omega
    simp only [if_neg h1, if_neg h2, if_neg h3, hs, List.cons_append, List.nil_append, List.getD_cons_zero, List.getD_cons_succ, e0, e1, e2, e3, ec]
    rw [if_neg (by omega), if_neg (by simp only [Bool.and_eq_true, beq_iff_eq, decide_eq_true_eq]; omega), if_neg (by simp only [Bool.and_eq_true, beq_iff_eq, decide_eq_true_eq]; omega),
      if_pos (by simp only [Bool.and_eq_true, beq_iff_eq, decide_eq_true_eq]; omega), if_pos (by simp only [Bool.and_eq_true, decide_eq_true_eq]; exact ⟨by omega, valid_of h⟩)]
theorem u8_eq {a : UInt8} {k : Nat} (h : k = a.toNat) : UInt8.ofNat k = a := by subst h; simp
/-- what is read well is as it would be written -/
theorem dec_good {s : List UInt8} (hs : s ≠ []) (h : ¬ ((runeAt s 0).1 = 65533 ∧ (runeAt s 0).2 = 1)) :
    goodR (runeAt s 0).1 ∧ s = encR ((runeAt s 0).1 : Int) ++ s.drop (runeAt s 0).2 := by
  obtain ⟨a, t, rfl⟩ := List.exists_cons_of_ne_nil hs
  have key : ∀ (x : Nat × Nat) (ys : List UInt8), goodR x.1 → encR (x.1 : Int) = ys → a :: t = ys ++ (a :: t).drop x.2 → goodR x.1 ∧ a :: t = encR (x.1 : Int) ++ (a :: t).drop x.2 := by
    intro x ys h1 h2 h3; exact ⟨h1, by rw [h2]; exact h3⟩
  generalize hx : runeAt (a :: t) 0 = x at h ⊢
  unfold runeAt Utf8.decode at hx
  have hsz : (ba (a :: t)).size = t.length + 1 := by rw [show (ba (a :: t)).size = _ from str_size _]; simp
  simp only [Nat.zero_add, ba_get, hsz, List.getD_cons_zero] at hx
  have la := a.toNat_lt
  by_cases h1 : a.toNat < 128
  · rw [if_pos h1] at hx
    subst hx
    have g : goodR a.toNat := .inl (by omega)
    refine key _ [a] g ?_ rfl
    rw [encR_good g, if_pos h1]; simp
  rw [if_neg h1] at hx
  split at hx
  · rename_i hc
    simp only [Bool.and_eq_true, beq_iff_eq, decide_eq_true_eq] at hc
    obtain ⟨b, t, rfl⟩ := List.exists_cons_of_ne_nil (show t ≠ [] by intro e; subst e; simp at hc)
    simp only [List.getD_cons_succ, List.getD_cons_zero] at hx hc
    have lb := b.toNat_lt
    split at hx
    · rename_i h2
      subst hx
      have g : goodR (a.toNat % 32 * 64 + b.toNat % 64) := .inl (by omega)
      refine key _ [a, b] g ?_ rfl
      rw [encR_good g, if_neg (by first | omega | (dsimp only; omega)), if_pos (by first | omega | (dsimp only; omega)), u8_eq (a := a) (by first | omega | (dsimp only; omega)), u8_eq (a := b) (by first | omega | (dsimp only; omega))]
    · exact absurd (by rw [← hx]; exact ⟨rfl, rfl⟩) h
  split at hx
  · rename_i _ hc
    simp only [Bool.and_eq_true, beq_iff_eq, decide_eq_true_eq] at hc
    obtain ⟨b, t, rfl⟩ := List.exists_cons_of_ne_nil (show t ≠ [] by intro e; subst e; simp at hc)
    obtain ⟨c, t, rfl⟩ := List.exists_cons_of_ne_nil (show t ≠ [] by intro e; subst e; simp at hc)
    simp only [List.getD_cons_succ, List.getD_cons_zero] at hx hc
    have lb := b.toNat_lt
    have lc := c.toNat_lt
    split at hx
    · rename_i h2
      simp only [Bool.and_eq_true, decide_eq_true_eq] at h2
      subst hx
      have g := of_valid h2.2
      have g' := g
      unfold goodR at g'
      refine key _ [a, b, c] g ?_ rfl
      rw [encR_good g, if_neg (by first | omega | (dsimp only; omega)), if_neg (by first | omega | (dsimp only; omega)), if_pos (by first | omega | (dsimp only; omega)), u8_eq (a := a) (by first | omega | (dsimp only; omega)), u8_eq (a := b) (by first | omega | (dsimp only; omega)), u8_eq (a := c) (by first | omega | (dsimp only; omega))]
    · exact absurd (by rw [← hx]; exact ⟨rfl, rfl⟩) h
  split at hx
  · rename_i _ _ hc
    simp only [Bool.and_eq_true, beq_iff_eq, decide_eq_true_eq] at hc
    obtain ⟨b, t, rfl⟩ := List.exists_cons_of_ne_nil (show t ≠ [] by intro e; subst e; simp at hc)
    obtain ⟨c, t, rfl⟩ := List.exists_cons_of_ne_nil (show t ≠ [] by intro e; subst e; simp at hc)
    obtain ⟨d, t, rfl⟩ := List.exists_cons_of_ne_nil (show t ≠ [] by intro e; subst e; simp at hc)
    simp only [List.getD_cons_succ, List.getD_cons_zero] at hx hc
    have lb := b.toNat_lt
    have lc := c.toNat_lt
    have ld := d.toNat_lt
    split at hx
    · rename_i h2
      simp only [Bool.and_eq_true, decide_eq_true_eq] at h2
      subst hx
      have g := of_valid h2.2
      have g' := g
      unfold goodR at g'
      refine key _ [a, b, c, d] g ?_ rfl
      rw [encR_good g, if_neg (by first | omega | (dsimp only; omega)), if_neg (by first | omega | (dsimp only; omega)), if_neg (by first | omega | (dsimp only; omega)), u8_eq (a := a) (by first | omega | (dsimp only; omega)), u8_eq (a := b) (by first | omega | (dsimp only; omega)), u8_eq (a := c) (by first | omega | (dsimp only; omega)), u8_eq (a := d) (by first | omega | (dsimp only; omega))]
    · exact absurd (by rw [← hx]; exact ⟨rfl, rfl⟩) h
  · exact absurd (by rw [← hx]; exact ⟨rfl, rfl⟩) h
/-- a text of runes -/
def Runes (s : List UInt8) (rs : List Nat) : Prop := s = encs rs ∧ ∀ r ∈ rs, goodR r
theorem decL (l : List UInt8) (h : l ≠ []) : Lib.decodeL l = runeAt l 0 := by
  rfl
theorem valid_runes : ∀ (n : Nat) (s : List UInt8), s.length ≤ n → Lib.validGoD n s = true → ∃ rs, Runes s rs
  | 0, s, hn, _ => ⟨[], by have : s = [] := List.eq_nil_of_length_eq_zero (by omega)
                           subst this; rfl, by simp⟩
  | n + 1, s, hn, h => by
    simp only [Lib.validGoD] at h
    split at h
    · rename_i e; subst e; exact ⟨[], rfl, by simp⟩
    split at h
    · cases h
    · rename_i hs hb
      rw [decL s hs] at hb h
      obtain ⟨g, e⟩ := dec_good hs hb
      have hw := runeAt_width s 0
      obtain ⟨rs, h1, h2⟩ := valid_runes n _ (by simp only [List.length_drop]; omega) h
      refine ⟨(runeAt s 0).1 :: rs, ?_, ?_⟩
      · rw [encs_cons, ← h1]; exact e
      · intro r hr
        rcases List.mem_cons.1 hr with rfl | hr
        · exact g
        · exact h2 r hr
theorem runes_of_valid {s : List UInt8} (h : Lib.validD s = true) : ∃ rs, Runes s rs := valid_runes _ s (Nat.le_refl _) h
end Go.V
/-
  Texts in quotes: how they are written, and that they are read as what they were. Plain Lean.
-/
namespace Go.V
set_option linter.unusedVariables false
set_option linter.unusedSimpArgs false
set_option maxRecDepth 10000
theorem text_fuel : ∀ (n m : Nat) (s out : Bs), s.length < n → s.length < m → textR n s out = textR m s out
  | 0, m, s, out, h, _ => by omega
  | n + 1, 0, s, out, _, h => by omega
  | n + 1, m + 1, [], out, _, _ => rfl
  | n + 1, m + 1, c :: s, out, hn, hm => by
    simp only [List.length_cons] at hn hm
    simp only [textR]
    split
    · rfl
    split
    · rfl
    split
    · cases s with
      | nil => rfl
      | cons d t =>
        simp only
        split
        · rfl
        · rename_i x r he
          have := (escR_sfx he).len
          simp only [List.length_cons] at hn hm
          exact text_fuel n m _ _ (by omega) (by omega)
    · have hw := runeAt_width (c :: s) 0
      exact text_fuel n m _ _ (by simp only [List.length_drop, List.length_cons]; omega) (by simp only [List.length_drop, List.length_cons]; omega)
/-- what is read of a string's rest, behind what was read of it -/
def TR (s out : Bs) : Option (Bs × Bs) := textR (s.length + 1) s out
theorem textR_cons (n : Nat) (c : UInt8) (s out : Bs) : textR (n + 1) (c :: s) out = if c = 34 then some (out, s) else if c.toNat < 32 then none else if c = 92 then (match s with | [] => none | d :: t => match escR d t with | none => none | some (x, r) => textR n r (out ++ x))
    else textR n ((c :: s).drop (runeAt (c :: s) 0).2) (out ++ encR (runeAt (c :: s) 0).1) := by
  cases s <;> rfl
theorem escR_u (X : Bs) : escR 117 X = (escU X).map fun p => (encR p.1, p.2) := rfl
theorem strR_TR (s : Bs) : strR s = TR s [] := rfl
theorem TR_end (s out : Bs) : TR (34 :: s) out = some (out, s) := by simp [TR, textR]
theorem TR_esc {d : UInt8} {t x r : Bs} (out : Bs) (h : escR d t = some (x, r)) : TR (92 :: d :: t) out = TR r (out ++ x) := by
  have := (escR_sfx h).len
  show textR ((d :: t).length + 1 + 1) (92 :: d :: t) out = _
  rw [TR]
  simp only [textR, show ¬ ((92 : UInt8) = 34) by decide, show ¬ ((92 : UInt8).toNat < 32) by decide, if_false, if_true, h]
  exact text_fuel _ _ _ _ (by simp only [List.length_cons]; omega) (by omega)
theorem TR_raw {c : UInt8} {s : Bs} (out : Bs) (h1 : c ≠ 34) (h2 : ¬ c.toNat < 32) (h3 : c ≠ 92) : TR (c :: s) out = TR ((c :: s).drop (runeAt (c :: s) 0).2) (out ++ encR (runeAt (c :: s) 0).1) := by
  have hw := runeAt_width (c :: s) 0
  show textR (s.length + 1 + 1) (c :: s) out = _
  rw [textR_cons, if_neg h1, if_neg h2, if_neg h3]
  exact text_fuel _ _ _ _ (by simp only [List.length_drop, List.length_cons]; omega) (by omega)
/-- these bytes within quotes are read as a rune -/
def Piece (p : Bs) (r : Nat) : Prop := ∀ t out, TR (p ++ t) out = TR t (out ++ encR (r : Int))
theorem Piece.raw {r : Nat} (g : goodR r) (h1 : r ≠ 34) (h2 : ¬ r < 32) (h3 : r ≠ 92) : Piece (encR (r : Int)) r := by
  intro t out
  have hp := encR_pos r
  have hr := runeAt_enc g t
  have hb : ∀ c u, encR (r : Int) = c :: u → c ≠ 34 ∧ ¬ c.toNat < 32 ∧ c ≠ 92 := by
    intro c u e
    rw [encR_good g] at e
    have hg := g
    unfold goodR at hg
    have hn : ∀ k : Nat, UInt8.ofNat k = c → k < 256 → 32 ≤ k → k ≠ 34 → k ≠ 92 → c ≠ 34 ∧ ¬ c.toNat < 32 ∧ c ≠ 92 := by
      intro k e h0 h1 h2 h3
      subst e
      have := ofNat_nat h0
      refine ⟨fun e => ?_, by omega, fun e => ?_⟩
      · rw [e] at this; exact h2 this.symm
      · rw [e] at this; exact h3 this.symm
    split at e
    · exact hn r (List.cons.inj e).1 (by omega) (by omega) h1 h3
    split at e
    · exact hn _ (List.cons.inj e).1 (by omega) (by omega) (by omega) (by omega)
    split at e
    · exact hn _ (List.cons.inj e).1 (by omega) (by omega) (by omega) (by omega)
    · exact hn _ (List.cons.inj e).1 (by omega) (by omega) (by omega) (by omega)
  obtain ⟨c, u, e⟩ : ∃ c u, encR (r : Int) = c :: u := by
    cases h : encR (r : Int) with
    | nil => rw [h] at hp; simp at hp
    | cons c u => exact ⟨c, u, rfl⟩
  obtain ⟨b1, b2, b3⟩ := hb c u e
  have e2 : encR (r : Int) ++ t = c :: (u ++ t) := by rw [e]; rfl
  rw [e2] at hr ⊢
  rw [TR_raw out b1 b2 b3, hr, ← e2]
  simp only [List.drop_left]
/-- digits of base 16 -/
def hexD (n : Nat) : UInt8 := if n % 16 < 10 then UInt8.ofNat (48 + n % 16) else UInt8.ofNat (87 + n % 16)
def hexes (n : Nat) : Bs := [hexD (n / 4096), hexD (n / 256), hexD (n / 16), hexD n]
theorem hexV_D (n : Nat) : hexV (hexD n) = some (n % 16) := by
  unfold hexV hexD
  split
  · rw [ofNat_nat (by omega), if_pos (by omega)]; congr 1; omega
  · rw [ofNat_nat (by omega), if_neg (by omega), if_pos (by omega)]; congr 1; omega
theorem unit_hexes {n : Nat} (h : n < 65536) (t : Bs) : unitR 4 0 (hexes n ++ t) = some (n, t) := by
  simp only [hexes, List.cons_append, List.nil_append, unitR, hexV_D]
  congr 2; omega
theorem Piece.u {r : Nat} (g : goodR r) (h : r < 65536) : Piece ([92, 117] ++ hexes r) r := by
  intro t out
  have e : escR 117 (hexes r ++ t) = some (encR (r : Int), t) := by
    have : escU (hexes r ++ t) = some (r, t) := by
      unfold escU
      rw [unit_hexes h]
      simp only
      rw [if_neg]
      unfold goodR at g; omega
    rw [escR_u, this]; rfl
  simpa using TR_esc out e
theorem Piece.pair {r : Nat} (g : goodR r) (h : ¬ r < 65536) : Piece ([92, 117] ++ hexes (55296 + (r - 65536) / 1024) ++ [92, 117] ++ hexes (56320 + (r - 65536) % 1024)) r := by
  intro t out
  have hg := g
  unfold goodR at hg
  have e : escR 117 (hexes (55296 + (r - 65536) / 1024) ++ ([92, 117] ++ (hexes (56320 + (r - 65536) % 1024) ++ t))) = some (encR (r : Int), t) := by
    have : escU (hexes (55296 + (r - 65536) / 1024) ++ ([92, 117] ++ (hexes (56320 + (r - 65536) % 1024) ++ t))) = some (r, t) := by
      unfold escU
      rw [unit_hexes (by omega)]
      simp only
      rw [if_pos (by omega), word_app]
      simp only
      rw [unit_hexes (by omega)]
      simp only
      rw [if_pos (by omega), show 65536 + (55296 + (r - 65536) / 1024 - 55296) * 1024 + (56320 + (r - 65536) % 1024 - 56320) = r by omega]
    rw [escR_u, this]; rfl
  have := TR_esc out e
  simpa [List.append_assoc] using this
theorem Piece.named {d : UInt8} {x : UInt8} (hd : ∀ t, escR d t = some ([x], t)) (hx : x.toNat < 128) : Piece [92, d] x.toNat := by
  intro t out
  have := TR_esc out (hd t)
  rw [encR_ascii _ (by omega) (by omega)]
  simpa using this
/-- pieces one behind the other -/
inductive Pieces : List Bs → List Nat → Prop
  | nil : Pieces [] []
  | cons {p r ps rs} : Piece p r → Pieces ps rs → Pieces (p :: ps) (r :: rs)
theorem Pieces.read {ps : List Bs} {rs : List Nat} (h : Pieces ps rs) (t out : Bs) : TR (ps.flatten ++ 34 :: t) out = some (out ++ encs rs, t) := by
  induction h generalizing out with
  | nil => simp [TR_end, encs]
  | cons hp _ ih => rw [List.flatten_cons, List.append_assoc, hp, ih, encs_cons, List.append_assoc]
/-- how a rune is written within quotes -/
def quo1 (c : Nat) : Bs :=
  if c = 34 ∨ c = 92 then 92 :: encR (c : Int)
  else if c = 8 then [92, 98] else if c = 12 then [92, 102] else if c = 10 then [92, 110] else if c = 13 then [92, 114] else if c = 9 then [92, 116]
  else if c < 32 ∨ c = 60 ∨ c = 62 ∨ c = 38 ∨ c = 8232 ∨ c = 8233 then [92, 117] ++ hexes c
  else encR (c : Int)
def quo (rs : List Nat) : Bs := [34] ++ rs.flatMap quo1 ++ [34]
theorem quo1_piece {c : Nat} (g : goodR c) : Piece (quo1 c) c := by
  unfold quo1
  split
  · rename_i h
    rcases h with rfl | rfl
    · exact Piece.named (d := 34) (x := 34) (fun t => by simp [escR]) (by decide)
    · exact Piece.named (d := 92) (x := 92) (fun t => by simp [escR]) (by decide)
  rename_i h0
  split
  · rename_i h; subst h; exact Piece.named (d := 98) (x := 8) (fun t => by simp [escR]) (by decide)
  split
  · rename_i h; subst h; exact Piece.named (d := 102) (x := 12) (fun t => by simp [escR]) (by decide)
  split
  · rename_i h; subst h; exact Piece.named (d := 110) (x := 10) (fun t => by simp [escR]) (by decide)
  split
  · rename_i h; subst h; exact Piece.named (d := 114) (x := 13) (fun t => by simp [escR]) (by decide)
  split
  · rename_i h; subst h; exact Piece.named (d := 116) (x := 9) (fun t => by simp [escR]) (by decide)
  split
  · rename_i h; exact Piece.u g (by omega)
  · exact Piece.raw g (by omega) (by omega) (by omega)
theorem pieces_quo : ∀ {rs : List Nat}, (∀ r ∈ rs, goodR r) → Pieces (rs.map quo1) rs
  | [], _ => .nil
  | r :: rs, h => .cons (quo1_piece (h r (by simp))) (pieces_quo fun x hx => h x (by simp [hx]))
theorem quo_read {rs : List Nat} (h : ∀ r ∈ rs, goodR r) (t : Bs) : strR (rs.flatMap quo1 ++ 34 :: t) = some (encs rs, t) := by
  have := (pieces_quo h).read t []
  rw [strR_TR]
  simpa [List.flatMap] using this
end Go.V
