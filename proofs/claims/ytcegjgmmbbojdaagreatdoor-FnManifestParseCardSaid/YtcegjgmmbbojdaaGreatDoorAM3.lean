import Derived.Test.YtcegjgmmbbojdaaGreatDoorAM2
import Derived.Test.YtcegjgmmbbojdaaGreatDoorAM1
import Derived.Test.YtcegjgmmbbojdaaGreatDoorProg
import Derived.KernelRfl
import Derived.LaidEql
import Derived.Laws.MakeOwn
import Derived.Laws.BytesString
import Derived.LaidLaws
import Derived.MakeChecks
import Derived.ChangeBears2
import Derived.Lay
import Derived.Stop.Joined
import Derived.Deep.DeepHandedRow
set_option linter.unusedVariables false
set_option linter.unusedSimpArgs false
namespace Go.V
open Go.RowKit
def Ev (P : Program) (n : Nat) (env : Env) (op : Op) (v : Value) : Prop := ∀ (a : Act) (W : World), EnvOk n env a -> ∀ dst ty ps af g, (execOp a.eval ⟨dst, op, ty, ps, af, g⟩).run P W = .ok (.value v) W
abbrev w8 (a : UInt8) : Value := .int .u8 (a.toNat : Int)
theorem wrap32 (x : Int) : IntKind.u32.wrap x = x % 4294967296 := by simp [IntKind.wrap, IntKind.signed, IntKind.bits]
theorem wrap8 (x : Int) : IntKind.u8.wrap x = x % 256 := by simp [IntKind.wrap, IntKind.signed, IntKind.bits]
section
variable {P : Program} {n : Nat} {C : Cx} {k : List Item} {env : Env} {L : Own} {I : Imm} {ops : Array Oper} {i : Nat} {l : List Oper} {S : World -> Prop}
variable {ty : TypeId} {ps : String} {af : Array Edge} {g : Option (Nat × Bool)} {d : Nat}
theorem Ops.ev {op : Op} {v : Value} (h : Ev P n env op v) (hg : want env ops g = some true) (hd : d < n) (next : Ops P n C ops (i + 1) l k ((d, v) :: env) L I) : Ops P n C ops i (⟨some d, op, ty, ps, af, g⟩ :: l) k env L I :=
 Ops.val hg (dOk hd) (fun a W he _ => h a W he _ _ _ _ _) next
theorem Yld.ev {op : Op} {v : Value} (h : Ev P n env op v) (hg : want env ops g = some true) : Yld P n env ops S ⟨some d, op, ty, ps, af, g⟩ v := .inl ⟨hg, fun a W he _ => h a W he _ _ _ _ _⟩
theorem Ev.yv {op : Op} {v : Value} (h : Ev P n env op v) : Yv P n env S op v := fun a W he _ dst ty ps af g => h a W he dst ty ps af g
theorem QD.e {D : List (Option Nat)} {Z : Env -> Prop} {m : List Bool} {r : List Oper} {op : Op} {v : Value} (h : Ev P n env op v) (hd : d < n) (hg : wantD env D g = some true) (next : QD P n C D L I Z m r ((d, v) :: env)) : QD P n C D L I Z (true :: m) (⟨some d, op, ty, ps, af, g⟩ :: r) env :=
 QD.yv hd hg h.yv next
theorem Ev.as {op : Op} {v v' : Value} (h : Ev P n env op v) (e : v = v') : Ev P n env op v' := e ▸ h
variable {x y : Operand} {t t' : TypeId}
theorem Ev.of2 {op : BinOp} {v u r : Value} (hx : opnd env x = some v) (hy : opnd env y = some u) (h : ∀ W, (eqGuard op t x y v u).run P W = .ok () W) (h2 : ∀ W, (binOp op t v u).run P W = .ok r W) : Ev P n env (.binOp op t x y t') r :=
 fun a W he _ _ _ _ _ => by simp [execOp, eval_opnd he hx, eval_opnd he hy, h, h2]
section
variable {a b : UInt32}
end
section
variable {a b : UInt64}
end
theorem Ev.conv {src dst : TypeId} {ks kd : IntKind} {a r : Int} (T : Tab P) (hs : T.und src = some (.int ks)) (ht : T.und dst = some (.int kd)) (hx : opnd env x = some (.int ks a)) (hr : kd.wrap a = r) : Ev P n env (.convert src dst x) (.int kd r) :=
 fun c W he _ _ _ _ _ => by
  subst hr
  simp [execOp, eval_opnd he hx, convert, T.undOk hs, T.undOk ht, Conv.intToInt]
theorem Ev.indexP {ts e : TypeId} {ix : Operand} {kd : IntKind} {j : Int} {len b off size : Nat} (T : Tab P) (hu : T.und ts = some (.array len e)) (hz : T.size e = some size) (hx : opnd env x = some (.pointer (some ⟨b, off, none⟩))) (hi : opnd env ix = some (.int kd j))
  (h0 : 0 <= j) (h1 : j < len) : Ev P n env (.indexAddr ts x ix) (.pointer (some ⟨b, off + j.toNat * size, none⟩)) :=
 fun c W he _ _ _ _ _ => by
  simp [execOp, Instr.indexAt, Instr.sureAddr, eval_opnd he hx, eval_opnd he hi, asIntOf, T.undOk hu, T.sizeOk hz, h0, h1, add_off]
theorem Ev.indexS {ts e : TypeId} {ix : Operand} {kd : IntKind} {j : Int} {len c b off size : Nat} (T : Tab P) (hu : T.und ts = some (.slice e)) (hz : T.size e = some size) (hx : opnd env x = some (.slice (some ⟨b, off, none⟩) len c)) (hi : opnd env ix = some (.int kd j))
  (h0 : 0 <= j) (h1 : j < len) : Ev P n env (.indexAddr ts x ix) (.pointer (some ⟨b, off + j.toNat * size, none⟩)) :=
 fun c W he _ _ _ _ _ => by
  simp [execOp, Instr.indexAt, eval_opnd he hx, eval_opnd he hi, asIntOf, T.undOk hu, T.sizeOk hz, h0, h1, add_off]
theorem Ev.indexT {ts : TypeId} {ix : Operand} {kd : IntKind} {j : Int} {s : List UInt8} (T : Tab P) (hu : T.und ts = some .string) (hx : opnd env x = some (str s)) (hi : opnd env ix = some (.int kd j)) (h0 : 0 <= j) (h1 : j < s.length) :
  Ev P n env (.index ts x ix) (w8 (s.getD j.toNat 0)) :=
 fun c W he _ _ _ _ _ => by
  have hj : j.toNat < s.length := by omega
  have : (⟨s.toArray⟩ : ByteArray)[j.toNat]? = some (s.getD j.toNat 0) := by
   rw [getElem?_pos (⟨s.toArray⟩ : ByteArray) j.toNat (by rw [str_size]; exact hj)]
   simp [List.getD_eq_getElem?_getD, hj, ByteArray.getElem_eq_getElem_data]
  simp [execOp, Instr.index, eval_opnd he hx, eval_opnd he hi, asIntOf, T.undOk hu, str, h0, this]
theorem Ev.buildArr {ta e : TypeId} {len : Nat} {xs : List (Nat × Operand)} {ps' : List (Nat × Value)} {z : Value} {cs : List Value} (T : Tab P) (hu : T.und ta = some (.array len e)) (hz : T.zero ta = some z) (hs : T.size e = some 1) (hx : parts env xs = some ps')
  (hi : ps'.map Prod.fst = List.range' 0 ps'.length) (hsz : z.cells.size = ps'.length) (h1 : (ps'.all fun p => p.2.cells.size == 1) = true) (hcs : (ps'.map Prod.snd).flatMap (fun v => v.cells.toList) = cs) : Ev P n env (.build ta xs.toArray) (.agg cs.toArray) :=
 fun a W he _ _ _ _ _ => by
  have h2 := parts_spec he hx
  have hmap : (List.map (fun (x : Nat × Operand) => match x with | (i, x) => (i, a.eval x)) xs) = ps' := h2
  have h := Great.fill_whole (s := 1) (by decide) (ps'.map Prod.snd) z.cells (fun v hv => by
   obtain ⟨p, hp, rfl⟩ := List.mem_map.1 hv
   simpa using List.all_eq_true.1 h1 p hp) (by simp [hsz])
  rw [zip_enum ps' 0 (by simpa using hi), hcs] at h
  have hb : (Instr.build ta ps'.toArray).run P W = .ok (.agg cs.toArray) W := by
   simp only [Instr.build, Sem.run_bind, T.zeroOk hz, T.undOk hu, T.sizeOk hs, Result.andThen_ok, h]
   rfl
  simp only [execOp, List.map_toArray, hmap, Sem.run_bind, hb, Result.andThen_ok]
  rfl
section
variable {kd : IntKind} {a b r : Int}
theorem Ev.addI (hx : opnd env x = some (.int kd a)) (hy : opnd env y = some (.int kd b)) (hr : kd.wrap (a + b) = r) : Ev P n env (.binOp .add t x y t') (.int kd r) :=
 Ev.of2 hx hy (fun _ => run_eqGuard_int ..) fun W => by subst hr; simp [binOp, Op.intArith]
theorem Ev.subI (hx : opnd env x = some (.int kd a)) (hy : opnd env y = some (.int kd b)) (hr : kd.wrap (a - b) = r) : Ev P n env (.binOp .sub t x y t') (.int kd r) :=
 Ev.of2 hx hy (fun _ => run_eqGuard_int ..) fun W => by subst hr; simp [binOp, Op.intArith]
theorem Ev.mulI (hx : opnd env x = some (.int kd a)) (hy : opnd env y = some (.int kd b)) (hr : kd.wrap (a * b) = r) : Ev P n env (.binOp .mul t x y t') (.int kd r) :=
 Ev.of2 hx hy (fun _ => run_eqGuard_int ..) fun W => by subst hr; simp [binOp, Op.intArith]
theorem Ev.quoI (hx : opnd env x = some (.int kd a)) (hy : opnd env y = some (.int kd b)) (hb : b ≠ 0) (hr : kd.wrap (a.tdiv b) = r) : Ev P n env (.binOp .quo t x y t') (.int kd r) :=
 Ev.of2 hx hy (fun _ => run_eqGuard_int ..) fun W => by subst hr; simp [binOp, Op.intDiv, hb]
theorem Ev.remI (hx : opnd env x = some (.int kd a)) (hy : opnd env y = some (.int kd b)) (hb : b ≠ 0) (hr : a.tmod b = r) : Ev P n env (.binOp .rem t x y t') (.int kd r) :=
 Ev.of2 hx hy (fun _ => run_eqGuard_int ..) fun W => by subst hr; simp [binOp, Op.intDiv, hb]
theorem Ev.lss (hx : opnd env x = some (.int kd a)) (hy : opnd env y = some (.int kd b)) : Ev P n env (.binOp .lss t x y t') (.bool (decide (a < b))) := Ev.of2 hx hy (fun _ => run_eqGuard_int ..) fun W => by simp [binOp, Op.intCmp]
theorem Ev.leq (hx : opnd env x = some (.int kd a)) (hy : opnd env y = some (.int kd b)) : Ev P n env (.binOp .leq t x y t') (.bool (decide (a <= b))) := Ev.of2 hx hy (fun _ => run_eqGuard_int ..) fun W => by simp [binOp, Op.intCmp]
theorem Ev.gtr (hx : opnd env x = some (.int kd a)) (hy : opnd env y = some (.int kd b)) : Ev P n env (.binOp .gtr t x y t') (.bool (decide (b < a))) := Ev.of2 hx hy (fun _ => run_eqGuard_int ..) fun W => by simp [binOp, Op.intCmp]
theorem Ev.geq (hx : opnd env x = some (.int kd a)) (hy : opnd env y = some (.int kd b)) : Ev P n env (.binOp .geq t x y t') (.bool (decide (b <= a))) := Ev.of2 hx hy (fun _ => run_eqGuard_int ..) fun W => by simp [binOp, Op.intCmp]
theorem Ev.eqlI (hx : opnd env x = some (.int kd a)) (hy : opnd env y = some (.int kd b)) : Ev P n env (.binOp .eql t x y t') (.bool (decide (a = b))) := Ev.of2 hx hy (fun _ => run_eqGuard_int ..) fun W => by simp [binOp, Op.intCmp]; rfl
theorem Ev.neqI (hx : opnd env x = some (.int kd a)) (hy : opnd env y = some (.int kd b)) : Ev P n env (.binOp .neq t x y t') (.bool (!decide (a = b))) := Ev.of2 hx hy (fun _ => run_eqGuard_int ..) fun W => by simp [binOp, Op.intCmp]; rfl
theorem Ev.min2 {ts : Array TypeId} (hx : opnd env x = some (.int kd a)) (hy : opnd env y = some (.int kd b)) : Ev P n env (.call ⟨.builtin .min, #[x, y], ts⟩) (.int kd (if b < a then b else a)) :=
 fun c W he dst ty ps af g => by
  simp [execOp, resolve, Go.invoke, builtin, eval_opnd he hx, eval_opnd he hy, Builtin.min_, Builtin.min2]
end
section
variable {s u : List UInt8}
theorem Ev.lenS {ts : TypeId} (T : Tab P) (hu : T.und ts = some .string) (hx : opnd env x = some (str s)) : Ev P n env (.call ⟨.builtin .len, #[x], #[ts]⟩) (.int .i64 s.length) :=
 fun a W he _ _ _ _ _ => by simp [execOp, resolve, invoke, builtin, Builtin.len_, eval_opnd he hx, T.undOk hu, str, goInt, str_size]
theorem Ev.catS (hx : opnd env x = some (str s)) (hy : opnd env y = some (str u)) (hlen : s.length + u.length <= 9223372036854775807) : Ev P n env (.binOp .add t x y t') (str (s ++ u)) :=
 Ev.of2 hx hy (fun _ => run_eqGuard_string ..) fun W => by simp [str, binOp, Op.stringOp, str_size, str_append]; omega
theorem Ev.eqlS (hx : opnd env x = some (str s)) (hy : opnd env y = some (str u)) : Ev P n env (.binOp .eql t x y t') (.bool (decide (s = u))) :=
 Ev.of2 hx hy (fun _ => run_eqGuard_string ..) fun W => by
  have : (s == u) = decide (s = u) := by rw [Bool.eq_iff_iff]; simp
  simp [str, binOp, Op.stringOp, str_toList, this]
theorem Ev.neqS (hx : opnd env x = some (str s)) (hy : opnd env y = some (str u)) : Ev P n env (.binOp .neq t x y t') (.bool (!decide (s = u))) :=
 Ev.of2 hx hy (fun _ => run_eqGuard_string ..) fun W => by
  have : (s == u) = decide (s = u) := by rw [Bool.eq_iff_iff]; simp
  simp [str, binOp, Op.stringOp, str_toList, this]
theorem Ev.cutS {ts : TypeId} {lo hi : Operand} {kd kd' : IntKind} {j q : Int} (T : Tab P) (hu : T.und ts = some .string) (hx : opnd env x = some (str s)) (hlo : opnd env lo = some (.int kd j)) (hhi : opnd env hi = some (.int kd' q)) (h0 : 0 <= j) (h1 : j <= q) (h2 : q <= s.length) :
  Ev P n env (.slice ts x (some lo) (some hi) none) (str ((s.take q.toNat).drop j.toNat)) :=
 fun a W he _ _ _ _ _ => by
  have hm := run_sliceBound (P := P) (v := .int kd' q) (y := s.length) (code := .sliceAlen) rfl (by omega) (by omega) W
  have hj := run_sliceBound (P := P) (v := .int kd j) (y := q.toNat) (code := .sliceB) rfl h0 (by omega) W
  simp [execOp, Instr.sliceAt, Instr.slice, Instr.sliceBounds, eval_opnd he hx, eval_opnd he hlo, eval_opnd he hhi, T.undOk hu, str, str_size, hm, hj, str_extract]
theorem Ev.cutSLo {ts : TypeId} {lo : Operand} {kd : IntKind} {j : Int} (T : Tab P) (hu : T.und ts = some .string) (hx : opnd env x = some (str s)) (hlo : opnd env lo = some (.int kd j)) (h0 : 0 <= j) (h1 : j <= s.length) :
  Ev P n env (.slice ts x (some lo) none none) (str (s.drop j.toNat)) :=
 fun a W he _ _ _ _ _ => by
  have hj := run_sliceBound (P := P) (v := .int kd j) (y := s.length) (code := .sliceB) rfl h0 (by omega) W
  have ht : s.take s.length = s := List.take_length
  simp [execOp, Instr.sliceAt, Instr.slice, Instr.sliceBounds, eval_opnd he hx, eval_opnd he hlo, T.undOk hu, str, str_size, hj, str_extract, ht]
theorem Ev.cutSHi {ts : TypeId} {hi : Operand} {kd : IntKind} {q : Int} (T : Tab P) (hu : T.und ts = some .string) (hx : opnd env x = some (str s)) (hhi : opnd env hi = some (.int kd q)) (h0 : 0 <= q) (h1 : q <= s.length) :
  Ev P n env (.slice ts x none (some hi) none) (str (s.take q.toNat)) :=
 fun a W he _ _ _ _ _ => by
  have hm := run_sliceBound (P := P) (v := .int kd q) (y := s.length) (code := .sliceAlen) rfl (by omega) (by omega) W
  simp [execOp, Instr.sliceAt, Instr.slice, Instr.sliceBounds, eval_opnd he hx, eval_opnd he hhi, T.undOk hu, str, str_size, hm, str_extract]
end
theorem Ev.eqlNil {u : TypeDesc} {v z : Value} {r : Bool} (T : Tab P) (hu : T.und t = some u) (hz : nilOf u = some z) (hx : opnd env x = some v) (hv : isNilV v = some r) (hf : fitsNil u v = true) : Ev P n env (.binOp .eql t x (.const z) t') (.bool r) :=
 fun a W he _ _ _ _ _ => by
  have h1 := run_eqGuard_nil (op := .eql) (t := t) (x := x) (v := v) (z := z) (c := z) (P := P) hz W
  have h2 := run_equal_nil (P := P) (T.undOk hu) hz hv hf W
  have h3 : binOp .eql t v z = (Op.equal t v z >>= fun b => pure (.bool b)) := by
   cases v <;> simp [isNilV] at hv <;> rfl
  have hz2 : a.eval (.const z) = z := rfl
  simp only [execOp, eval_opnd he hx, hz2, Sem.run_bind, h1, Result.andThen_ok, h3, h2]
  rfl
theorem Ev.neqNil {u : TypeDesc} {v z : Value} {r : Bool} (T : Tab P) (hu : T.und t = some u) (hz : nilOf u = some z) (hx : opnd env x = some v) (hv : isNilV v = some r) (hf : fitsNil u v = true) : Ev P n env (.binOp .neq t x (.const z) t') (.bool (!r)) :=
 fun a W he _ _ _ _ _ => by
  have h1 := run_eqGuard_nil (op := .neq) (t := t) (x := x) (v := v) (z := z) (c := z) (P := P) hz W
  have h2 := run_equal_nil (P := P) (T.undOk hu) hz hv hf W
  have h3 : binOp .neq t v z = (Op.equal t v z >>= fun b => pure (.bool (!b))) := by
   cases v <;> simp [isNilV] at hv <;> rfl
  have hz2 : a.eval (.const z) = z := rfl
  simp only [execOp, eval_opnd he hx, hz2, Sem.run_bind, h1, Result.andThen_ok, h3, h2]
  rfl
theorem Ev.buildS {xs : List (Nat × Operand)} {vs : List (Nat × Value)} {pl : List (Nat × Nat)} {z : Array Value} {cs : List Value}
  (hb : ∀ w ps cells, Instr.fill (pl[·]?) z ps = some cells -> (Instr.build t ps.toArray).run P w = .ok (.agg cells) w) (hx : parts env xs = some vs) (hf : fillL pl z.toList vs = some cs) : Ev P n env (.build t xs.toArray) (.agg cs.toArray) :=
 fun a W he _ _ _ _ _ => by
  have h := hb W vs cs.toArray (by simpa using fillL_ok pl vs z.toList cs hf)
  rw [<- parts_spec he hx] at h
  simp only [execOp, List.map_toArray, Sem.run_bind]
  have hm : (List.map (fun (x : Nat × Operand) => match x with | (i, x) => (i, a.eval x)) xs) = xs.map (fun (p : Nat × Operand) => (p.1, a.eval p.2)) := rfl
  rw [hm, h]; rfl
end
end Go.V
namespace Go.V
open Go.Proofs.Tryz
set_option maxRecDepth 100000
noncomputable def undL : List TypeDesc := [t0.desc, t1.desc, t2.desc, t3.desc, t4.desc, t5.desc, t5.desc, t7.desc, t7.desc, t9.desc, t9.desc, t9.desc, t12.desc, t13.desc, t13.desc, t15.desc, t16.desc, t17.desc, t18.desc, t18.desc, t20.desc, t21.desc, t22.desc, t22.desc, t24.desc, t25.desc, t26.desc, t27.desc, t27.desc, t29.desc, t30.desc, t30.desc, t32.desc, t33.desc, t34.desc, t35.desc, t36.desc, t37.desc, t37.desc, t39.desc, t40.desc, t41.desc, t42.desc, t43.desc, t44.desc, t45.desc, t46.desc, t47.desc, t47.desc, t49.desc, t50.desc, t51.desc, t51.desc, t53.desc, t54.desc, t55.desc, t55.desc, t57.desc, t58.desc, t59.desc, t60.desc, t61.desc, t62.desc, t63.desc, t63.desc, t65.desc, t66.desc, t67.desc, t68.desc, t69.desc, t9.desc, t71.desc, t72.desc, t73.desc, t74.desc, t74.desc, t76.desc, t77.desc, t78.desc, t79.desc, t22.desc, t81.desc, t82.desc, t82.desc, t84.desc, t84.desc, t86.desc, t87.desc, t88.desc, t89.desc, t90.desc, t91.desc, t91.desc, t93.desc, t94.desc, t95.desc, t96.desc, t97.desc, t98.desc, t99.desc, t100.desc, t100.desc, t102.desc, t103.desc, t103.desc, t105.desc, t106.desc, t107.desc, t108.desc, t109.desc, t110.desc, t111.desc, t112.desc, t113.desc, t114.desc, t114.desc, t116.desc, t117.desc, t118.desc, t119.desc, t120.desc, t120.desc, t122.desc, t123.desc, t124.desc, t125.desc, t125.desc, t127.desc, t128.desc, t128.desc, t130.desc, t131.desc, t9.desc, t133.desc, t134.desc, t135.desc, t136.desc, t137.desc, t137.desc, t139.desc, t140.desc, t141.desc, t142.desc, t143.desc, t144.desc, t145.desc, t146.desc, t147.desc, t148.desc, t149.desc, t150.desc, t151.desc, t152.desc, t153.desc, t154.desc, t155.desc, t155.desc, t157.desc, t158.desc, t158.desc, t160.desc, t5.desc, t5.desc, t163.desc, t164.desc, t21.desc, t21.desc, t167.desc, t167.desc, t169.desc, t170.desc, t171.desc, t172.desc, t173.desc, t174.desc, t175.desc, t176.desc, t177.desc, t178.desc, t179.desc, t180.desc, t181.desc, t182.desc, t183.desc, t184.desc, t185.desc, t186.desc, t187.desc, t188.desc, t189.desc, t190.desc, t191.desc, t192.desc, t193.desc, t194.desc, t195.desc, t196.desc, t197.desc, t198.desc, t199.desc, t200.desc, t201.desc, t202.desc, t3.desc, t204.desc, t205.desc, t206.desc, t207.desc, t208.desc, t209.desc, t210.desc, t211.desc, t212.desc, t213.desc, t214.desc, t215.desc, t216.desc, t216.desc, t218.desc, t219.desc, t220.desc, t221.desc, t222.desc, t222.desc, t224.desc, t225.desc, t226.desc, t227.desc, t227.desc, t229.desc, t230.desc, t231.desc, t232.desc, t233.desc, t234.desc, t235.desc, t235.desc, t237.desc, t238.desc, t239.desc, t239.desc, t241.desc, t242.desc, t243.desc, t244.desc, t245.desc, t246.desc, t247.desc, t248.desc, t249.desc, t250.desc, t251.desc, t252.desc, t253.desc, t254.desc, t255.desc, t256.desc, t257.desc, t258.desc, t259.desc, t260.desc, t261.desc, t262.desc, t263.desc, t264.desc, t264.desc, t266.desc]
noncomputable def tiL : List TypeInfo := [t0, t1, t2, t3, t4, t5, t6, t7, t8, t9, t10, t11, t12, t13, t14, t15, t16, t17, t18, t19, t20, t21, t22, t23, t24, t25, t26, t27, t28, t29, t30, t31, t32, t33, t34, t35, t36, t37, t38, t39, t40, t41, t42, t43, t44, t45, t46, t47, t48, t49, t50, t51, t52, t53, t54, t55, t56, t57, t58, t59, t60, t61, t62, t63, t64, t65, t66, t67, t68, t69, t70, t71, t72, t73, t74, t75, t76, t77, t78, t79, t80, t81, t82, t83, t84, t85, t86, t87, t88, t89, t90, t91, t92, t93, t94, t95, t96, t97, t98, t99, t100, t101, t102, t103, t104, t105, t106, t107, t108, t109, t110, t111, t112, t113, t114, t115, t116, t117, t118, t119, t120, t121, t122, t123, t124, t125, t126, t127, t128, t129, t130, t131, t132, t133, t134, t135, t136, t137, t138, t139, t140, t141, t142, t143, t144, t145, t146, t147, t148, t149, t150, t151, t152, t153, t154, t155, t156, t157, t158, t159, t160, t161, t162, t163, t164, t165, t166, t167, t168, t169, t170, t171, t172, t173, t174, t175, t176, t177, t178, t179, t180, t181, t182, t183, t184, t185, t186, t187, t188, t189, t190, t191, t192, t193, t194, t195, t196, t197, t198, t199, t200, t201, t202, t203, t204, t205, t206, t207, t208, t209, t210, t211, t212, t213, t214, t215, t216, t217, t218, t219, t220, t221, t222, t223, t224, t225, t226, t227, t228, t229, t230, t231, t232, t233, t234, t235, t236, t237, t238, t239, t240, t241, t242, t243, t244, t245, t246, t247, t248, t249, t250, t251, t252, t253, t254, t255, t256, t257, t258, t259, t260, t261, t262, t263, t264, t265, t266]
def AllU (P : Program) : Nat -> List TypeDesc -> Prop
 | _, [] => True
 | i, u :: r => (∀ w, (underlying i).run P w = .ok u w) /\ AllU P (i + 1) r
def AllI (P : Program) : Nat -> List TypeInfo -> Prop
 | _, [] => True
 | i, u :: r => (∀ w, (typeInfo i).run P w = .ok u w) /\ AllI P (i + 1) r
theorem AllU.get {P : Program} : ∀ {l : List TypeDesc} {i t : Nat} {u : TypeDesc}, AllU P i l -> l[t]? = some u -> ∀ w, (underlying (i + t)).run P w = .ok u w
 | [], i, t, u, _, h => by simp at h
 | x :: r, i, 0, u, h, e => by simp at e; subst e; exact h.1
 | x :: r, i, t + 1, u, h, e => by
  have := AllU.get h.2 (t := t) (by simpa using e)
  rwa [show i + 1 + t = i + (t + 1) by omega] at this
theorem AllI.get {P : Program} : ∀ {l : List TypeInfo} {i t : Nat} {u : TypeInfo}, AllI P i l -> l[t]? = some u -> ∀ w, (typeInfo (i + t)).run P w = .ok u w
 | [], i, t, u, _, h => by simp at h
 | x :: r, i, 0, u, h, e => by simp at e; subst e; exact h.1
 | x :: r, i, t + 1, u, h, e => by
  have := AllI.get h.2 (t := t) (by simpa using e)
  rwa [show i + 1 + t = i + (t + 1) by omega] at this
theorem undL_all : AllU prog 0 undL := ⟨runUnderlying0, runUnderlying1, runUnderlying2, runUnderlying3, runUnderlying4, runUnderlying5, runUnderlying6, runUnderlying7, runUnderlying8, runUnderlying9, runUnderlying10, runUnderlying11, runUnderlying12, runUnderlying13, runUnderlying14, runUnderlying15, runUnderlying16, runUnderlying17, runUnderlying18, runUnderlying19, runUnderlying20, runUnderlying21, runUnderlying22, runUnderlying23, runUnderlying24, runUnderlying25, runUnderlying26, runUnderlying27, runUnderlying28, runUnderlying29, runUnderlying30, runUnderlying31, runUnderlying32, runUnderlying33, runUnderlying34, runUnderlying35, runUnderlying36, runUnderlying37, runUnderlying38, runUnderlying39, runUnderlying40, runUnderlying41, runUnderlying42, runUnderlying43, runUnderlying44, runUnderlying45, runUnderlying46, runUnderlying47, runUnderlying48, runUnderlying49, runUnderlying50, runUnderlying51, runUnderlying52, runUnderlying53, runUnderlying54, runUnderlying55, runUnderlying56, runUnderlying57, runUnderlying58, runUnderlying59, runUnderlying60, runUnderlying61, runUnderlying62, runUnderlying63, runUnderlying64, runUnderlying65, runUnderlying66, runUnderlying67, runUnderlying68, runUnderlying69, runUnderlying70, runUnderlying71, runUnderlying72, runUnderlying73, runUnderlying74, runUnderlying75, runUnderlying76, runUnderlying77, runUnderlying78, runUnderlying79, runUnderlying80, runUnderlying81, runUnderlying82, runUnderlying83, runUnderlying84, runUnderlying85, runUnderlying86, runUnderlying87, runUnderlying88, runUnderlying89, runUnderlying90, runUnderlying91, runUnderlying92, runUnderlying93, runUnderlying94, runUnderlying95, runUnderlying96, runUnderlying97, runUnderlying98, runUnderlying99, runUnderlying100, runUnderlying101, runUnderlying102, runUnderlying103, runUnderlying104, runUnderlying105, runUnderlying106, runUnderlying107, runUnderlying108, runUnderlying109, runUnderlying110, runUnderlying111, runUnderlying112, runUnderlying113, runUnderlying114, runUnderlying115, runUnderlying116, runUnderlying117, runUnderlying118, runUnderlying119, runUnderlying120, runUnderlying121, runUnderlying122, runUnderlying123, runUnderlying124, runUnderlying125, runUnderlying126, runUnderlying127, runUnderlying128, runUnderlying129, runUnderlying130, runUnderlying131, runUnderlying132, runUnderlying133, runUnderlying134, runUnderlying135, runUnderlying136, runUnderlying137, runUnderlying138, runUnderlying139, runUnderlying140, runUnderlying141, runUnderlying142, runUnderlying143, runUnderlying144, runUnderlying145, runUnderlying146, runUnderlying147, runUnderlying148, runUnderlying149, runUnderlying150, runUnderlying151, runUnderlying152, runUnderlying153, runUnderlying154, runUnderlying155, runUnderlying156, runUnderlying157, runUnderlying158, runUnderlying159, runUnderlying160, runUnderlying161, runUnderlying162, runUnderlying163, runUnderlying164, runUnderlying165, runUnderlying166, runUnderlying167, runUnderlying168, runUnderlying169, runUnderlying170, runUnderlying171, runUnderlying172, runUnderlying173, runUnderlying174, runUnderlying175, runUnderlying176, runUnderlying177, runUnderlying178, runUnderlying179, runUnderlying180, runUnderlying181, runUnderlying182, runUnderlying183, runUnderlying184, runUnderlying185, runUnderlying186, runUnderlying187, runUnderlying188, runUnderlying189, runUnderlying190, runUnderlying191, runUnderlying192, runUnderlying193, runUnderlying194, runUnderlying195, runUnderlying196, runUnderlying197, runUnderlying198, runUnderlying199, runUnderlying200, runUnderlying201, runUnderlying202, runUnderlying203, runUnderlying204, runUnderlying205, runUnderlying206, runUnderlying207, runUnderlying208, runUnderlying209, runUnderlying210, runUnderlying211, runUnderlying212, runUnderlying213, runUnderlying214, runUnderlying215, runUnderlying216, runUnderlying217, runUnderlying218, runUnderlying219, runUnderlying220, runUnderlying221, runUnderlying222, runUnderlying223, runUnderlying224, runUnderlying225, runUnderlying226, runUnderlying227, runUnderlying228, runUnderlying229, runUnderlying230, runUnderlying231, runUnderlying232, runUnderlying233, runUnderlying234, runUnderlying235, runUnderlying236, runUnderlying237, runUnderlying238, runUnderlying239, runUnderlying240, runUnderlying241, runUnderlying242, runUnderlying243, runUnderlying244, runUnderlying245, runUnderlying246, runUnderlying247, runUnderlying248, runUnderlying249, runUnderlying250, runUnderlying251, runUnderlying252, runUnderlying253, runUnderlying254, runUnderlying255, runUnderlying256, runUnderlying257, runUnderlying258, runUnderlying259, runUnderlying260, runUnderlying261, runUnderlying262, runUnderlying263, runUnderlying264, runUnderlying265, runUnderlying266, trivial⟩
theorem tiL_all : AllI prog 0 tiL := ⟨typeInfo0, typeInfo1, typeInfo2, typeInfo3, typeInfo4, typeInfo5, typeInfo6, typeInfo7, typeInfo8, typeInfo9, typeInfo10, typeInfo11, typeInfo12, typeInfo13, typeInfo14, typeInfo15, typeInfo16, typeInfo17, typeInfo18, typeInfo19, typeInfo20, typeInfo21, typeInfo22, typeInfo23, typeInfo24, typeInfo25, typeInfo26, typeInfo27, typeInfo28, typeInfo29, typeInfo30, typeInfo31, typeInfo32, typeInfo33, typeInfo34, typeInfo35, typeInfo36, typeInfo37, typeInfo38, typeInfo39, typeInfo40, typeInfo41, typeInfo42, typeInfo43, typeInfo44, typeInfo45, typeInfo46, typeInfo47, typeInfo48, typeInfo49, typeInfo50, typeInfo51, typeInfo52, typeInfo53, typeInfo54, typeInfo55, typeInfo56, typeInfo57, typeInfo58, typeInfo59, typeInfo60, typeInfo61, typeInfo62, typeInfo63, typeInfo64, typeInfo65, typeInfo66, typeInfo67, typeInfo68, typeInfo69, typeInfo70, typeInfo71, typeInfo72, typeInfo73, typeInfo74, typeInfo75, typeInfo76, typeInfo77, typeInfo78, typeInfo79, typeInfo80, typeInfo81, typeInfo82, typeInfo83, typeInfo84, typeInfo85, typeInfo86, typeInfo87, typeInfo88, typeInfo89, typeInfo90, typeInfo91, typeInfo92, typeInfo93, typeInfo94, typeInfo95, typeInfo96, typeInfo97, typeInfo98, typeInfo99, typeInfo100, typeInfo101, typeInfo102, typeInfo103, typeInfo104, typeInfo105, typeInfo106, typeInfo107, typeInfo108, typeInfo109, typeInfo110, typeInfo111, typeInfo112, typeInfo113, typeInfo114, typeInfo115, typeInfo116, typeInfo117, typeInfo118, typeInfo119, typeInfo120, typeInfo121, typeInfo122, typeInfo123, typeInfo124, typeInfo125, typeInfo126, typeInfo127, typeInfo128, typeInfo129, typeInfo130, typeInfo131, typeInfo132, typeInfo133, typeInfo134, typeInfo135, typeInfo136, typeInfo137, typeInfo138, typeInfo139, typeInfo140, typeInfo141, typeInfo142, typeInfo143, typeInfo144, typeInfo145, typeInfo146, typeInfo147, typeInfo148, typeInfo149, typeInfo150, typeInfo151, typeInfo152, typeInfo153, typeInfo154, typeInfo155, typeInfo156, typeInfo157, typeInfo158, typeInfo159, typeInfo160, typeInfo161, typeInfo162, typeInfo163, typeInfo164, typeInfo165, typeInfo166, typeInfo167, typeInfo168, typeInfo169, typeInfo170, typeInfo171, typeInfo172, typeInfo173, typeInfo174, typeInfo175, typeInfo176, typeInfo177, typeInfo178, typeInfo179, typeInfo180, typeInfo181, typeInfo182, typeInfo183, typeInfo184, typeInfo185, typeInfo186, typeInfo187, typeInfo188, typeInfo189, typeInfo190, typeInfo191, typeInfo192, typeInfo193, typeInfo194, typeInfo195, typeInfo196, typeInfo197, typeInfo198, typeInfo199, typeInfo200, typeInfo201, typeInfo202, typeInfo203, typeInfo204, typeInfo205, typeInfo206, typeInfo207, typeInfo208, typeInfo209, typeInfo210, typeInfo211, typeInfo212, typeInfo213, typeInfo214, typeInfo215, typeInfo216, typeInfo217, typeInfo218, typeInfo219, typeInfo220, typeInfo221, typeInfo222, typeInfo223, typeInfo224, typeInfo225, typeInfo226, typeInfo227, typeInfo228, typeInfo229, typeInfo230, typeInfo231, typeInfo232, typeInfo233, typeInfo234, typeInfo235, typeInfo236, typeInfo237, typeInfo238, typeInfo239, typeInfo240, typeInfo241, typeInfo242, typeInfo243, typeInfo244, typeInfo245, typeInfo246, typeInfo247, typeInfo248, typeInfo249, typeInfo250, typeInfo251, typeInfo252, typeInfo253, typeInfo254, typeInfo255, typeInfo256, typeInfo257, typeInfo258, typeInfo259, typeInfo260, typeInfo261, typeInfo262, typeInfo263, typeInfo264, typeInfo265, typeInfo266, trivial⟩
noncomputable def und (t : Nat) : Option TypeDesc := undL[t]?
noncomputable def tinfo (t : Nat) : Option TypeInfo := tiL[t]?
theorem und_ok {t : Nat} {u : TypeDesc} (h : und t = some u) : ∀ w, (underlying t).run prog w = .ok u w := by
 have := undL_all.get h; simpa using this
theorem tinfo_ok {t : Nat} {u : TypeInfo} (h : tinfo t = some u) : ∀ w, (typeInfo t).run prog w = .ok u w := by
 have := tiL_all.get h; simpa using this
def aggOf : TypeDesc -> Bool
 | .struct _ => true
 | .array _ _ => true
 | _ => false
theorem isAgg_of {P : Program} {t : TypeId} {u : TypeDesc} (h : ∀ w, (underlying t).run P w = .ok u w) : ∀ w, (isAgg t).run P w = .ok (aggOf u) w := by
 intro w; simp only [isAgg, Sem.run_bind, h, Result.andThen_ok]; cases u <;> rfl
noncomputable def T : Tab prog where
 und := und
 size t := (tinfo t).map (·.size)
 agg t := (und t).map aggOf
 zero t := (tinfo t).bind (·.zero)
 undOk := und_ok
 sizeOk {t m} h w := by
  cases hi : tinfo t with
  | none => simp [hi] at h
  | some u => simp [hi] at h; simp [sizeOf, tinfo_ok hi, h]
 aggOk {t b} h w := by
  cases hi : und t with
  | none => simp [hi] at h
  | some u => simp [hi] at h; rw [isAgg_of (und_ok hi), h]
 zeroOk {t z} h w := by
  cases hi : tinfo t with
  | none => simp [hi] at h
  | some u => simp [hi] at h; simp [zeroValue, tinfo_ok hi, h]
theorem bd23 : ∀ w ps cells, Instr.fill (([(0, 1), (1, 1)] : List (Nat × Nat))[·]?) (t23.zero.getD undef).cells ps = some cells -> (Instr.build 23 ps.toArray).run prog w = .ok (.agg cells) w := by
 intro w ps cells h
 simp only [t23, Option.getD] at h
 simp [Instr.build, runUnderlying23, zeroValue23, sizeOf9, h]
theorem el24 : Elem prog 24 9 1 16 := ⟨underlying24, t9, _, by kernel_rfl, rfl, rfl, rfl, rfl⟩
theorem el25 : Elem prog 25 48 2 32 := ⟨underlying25, t48, _, by kernel_rfl, rfl, rfl, rfl, rfl⟩
theorem bd28 : ∀ w ps cells, Instr.fill (([(0, 1), (1, 1), (2, 2), (4, 1), (5, 1), (6, 1), (7, 1), (8, 1)] : List (Nat × Nat))[·]?) (t28.zero.getD undef).cells ps = some cells -> (Instr.build 28 ps.toArray).run prog w = .ok (.agg cells) w := by
 intro w ps cells h
 simp only [t28, Option.getD] at h
 simp [Instr.build, runUnderlying28, zeroValue28, sizeOf2, sizeOf9, sizeOf23, sizeOf24, sizeOf25, sizeOf26, h]
theorem el29 : Elem prog 29 28 9 160 := ⟨underlying29, t28, _, by kernel_rfl, rfl, rfl, rfl, rfl⟩
theorem bd31 : ∀ w ps cells, Instr.fill (([(0, 1), (1, 1), (2, 1), (3, 9), (12, 1), (13, 1), (14, 1), (15, 1)] : List (Nat × Nat))[·]?) (t31.zero.getD undef).cells ps = some cells -> (Instr.build 31 ps.toArray).run prog w = .ok (.agg cells) w := by
 intro w ps cells h
 simp only [t31, Option.getD] at h
 simp [Instr.build, runUnderlying31, zeroValue31, sizeOf2, sizeOf4, sizeOf9, sizeOf25, sizeOf28, sizeOf29, h]
theorem el32 : Elem prog 32 5 1 1 := ⟨underlying32, t5, _, by kernel_rfl, rfl, rfl, rfl, rfl⟩
theorem el36 : Elem prog 36 38 3 48 := ⟨underlying36, t38, _, by kernel_rfl, rfl, rfl, rfl, rfl⟩
theorem bd38 : ∀ w ps cells, Instr.fill (([(0, 1), (1, 1), (2, 1)] : List (Nat × Nat))[·]?) (t38.zero.getD undef).cells ps = some cells -> (Instr.build 38 ps.toArray).run prog w = .ok (.agg cells) w := by
 intro w ps cells h
 simp only [t38, Option.getD] at h
 simp [Instr.build, runUnderlying38, zeroValue38, sizeOf5, sizeOf9, sizeOf36, h]
theorem bd48 : ∀ w ps cells, Instr.fill (([(0, 1), (1, 1)] : List (Nat × Nat))[·]?) (t48.zero.getD undef).cells ps = some cells -> (Instr.build 48 ps.toArray).run prog w = .ok (.agg cells) w := by
 intro w ps cells h
 simp only [t48, Option.getD] at h
 simp [Instr.build, runUnderlying48, zeroValue48, sizeOf9, h]
theorem bd52 : ∀ w ps cells, Instr.fill (([(0, 1), (1, 1)] : List (Nat × Nat))[·]?) (t52.zero.getD undef).cells ps = some cells -> (Instr.build 52 ps.toArray).run prog w = .ok (.agg cells) w := by
 intro w ps cells h
 simp only [t52, Option.getD] at h
 simp [Instr.build, runUnderlying52, zeroValue52, sizeOf3, sizeOf32, h]
theorem bd56 : ∀ w ps cells, Instr.fill (([(0, 3)] : List (Nat × Nat))[·]?) (t56.zero.getD undef).cells ps = some cells -> (Instr.build 56 ps.toArray).run prog w = .ok (.agg cells) w := by
 intro w ps cells h
 simp only [t56, Option.getD] at h
 simp [Instr.build, runUnderlying56, zeroValue56, sizeOf38, h]
theorem el71 : Elem prog 71 83 9 136 := ⟨underlying71, t83, _, by kernel_rfl, rfl, rfl, rfl, rfl⟩
theorem bd75 : ∀ w ps cells, Instr.fill (([(0, 1), (1, 1), (2, 1), (3, 1), (4, 1), (5, 1)] : List (Nat × Nat))[·]?) (t75.zero.getD undef).cells ps = some cells -> (Instr.build 75 ps.toArray).run prog w = .ok (.agg cells) w := by
 intro w ps cells h
 simp only [t75, Option.getD] at h
 simp [Instr.build, runUnderlying75, zeroValue75, sizeOf2, sizeOf9, sizeOf70, sizeOf71, sizeOf72, sizeOf73, h]
theorem bd83 : ∀ w ps cells, Instr.fill (([(0, 1), (1, 1), (2, 2), (4, 1), (5, 1), (6, 1), (7, 1), (8, 1)] : List (Nat × Nat))[·]?) (t83.zero.getD undef).cells ps = some cells -> (Instr.build 83 ps.toArray).run prog w = .ok (.agg cells) w := by
 intro w ps cells h
 simp only [t83, Option.getD] at h
 simp [Instr.build, runUnderlying83, zeroValue83, sizeOf2, sizeOf9, sizeOf24, sizeOf32, sizeOf70, sizeOf72, sizeOf80, sizeOf81, h]
theorem bd85 : ∀ w ps cells, Instr.fill (([(0, 1), (1, 1), (2, 9), (11, 1), (12, 1), (13, 1), (14, 1)] : List (Nat × Nat))[·]?) (t85.zero.getD undef).cells ps = some cells -> (Instr.build 85 ps.toArray).run prog w = .ok (.agg cells) w := by
 intro w ps cells h
 simp only [t85, Option.getD] at h
 simp [Instr.build, runUnderlying85, zeroValue85, sizeOf2, sizeOf9, sizeOf70, sizeOf71, sizeOf72, sizeOf73, sizeOf83, h]
theorem bd92 : ∀ w ps cells, Instr.fill (([(0, 1), (1, 1), (2, 1), (3, 1), (4, 1), (5, 1)] : List (Nat × Nat))[·]?) (t92.zero.getD undef).cells ps = some cells -> (Instr.build 92 ps.toArray).run prog w = .ok (.agg cells) w := by
 intro w ps cells h
 simp only [t92, Option.getD] at h
 simp [Instr.build, runUnderlying92, zeroValue92, sizeOf9, sizeOf24, h]
theorem bd104 : ∀ w ps cells, Instr.fill (([(0, 1), (1, 1), (2, 1)] : List (Nat × Nat))[·]?) (t104.zero.getD undef).cells ps = some cells -> (Instr.build 104 ps.toArray).run prog w = .ok (.agg cells) w := by
 intro w ps cells h
 simp only [t104, Option.getD] at h
 simp [Instr.build, runUnderlying104, zeroValue104, sizeOf2, sizeOf3, sizeOf9, h]
theorem bd126 : ∀ w ps cells, Instr.fill (([(0, 1), (1, 1), (2, 1)] : List (Nat × Nat))[·]?) (t126.zero.getD undef).cells ps = some cells -> (Instr.build 126 ps.toArray).run prog w = .ok (.agg cells) w := by
 intro w ps cells h
 simp only [t126, Option.getD] at h
 simp [Instr.build, runUnderlying126, zeroValue126, sizeOf3, sizeOf32, h]
theorem el127 : Elem prog 127 129 5 72 := ⟨underlying127, t129, _, by kernel_rfl, rfl, rfl, rfl, rfl⟩
theorem bd129 : ∀ w ps cells, Instr.fill (([(0, 1), (1, 1), (2, 1), (3, 1), (4, 1)] : List (Nat × Nat))[·]?) (t129.zero.getD undef).cells ps = some cells -> (Instr.build 129 ps.toArray).run prog w = .ok (.agg cells) w := by
 intro w ps cells h
 simp only [t129, Option.getD] at h
 simp [Instr.build, runUnderlying129, zeroValue129, sizeOf4, sizeOf5, sizeOf9, sizeOf24, sizeOf127, h]
theorem bd138 : ∀ w ps cells, Instr.fill (([(0, 1), (1, 1), (2, 1), (3, 1), (4, 1), (5, 1)] : List (Nat × Nat))[·]?) (t138.zero.getD undef).cells ps = some cells -> (Instr.build 138 ps.toArray).run prog w = .ok (.agg cells) w := by
 intro w ps cells h
 simp only [t138, Option.getD] at h
 simp [Instr.build, runUnderlying138, zeroValue138, sizeOf9, sizeOf24, h]
theorem el142 : Elem prog 142 32 1 24 := ⟨underlying142, t32, _, by kernel_rfl, rfl, rfl, rfl, rfl⟩
end Go.V
namespace Go.V
open Go.RowKit
abbrev wb (xs : List UInt8) : List Value := xs.map w8
def Buf (e : TypeId) (v : Value) (xs : List UInt8) (M : Own) : Prop :=
 (v = .slice none 0 0 /\ xs = [] /\ M = []) \/
 ∃ b pre post cap, v = .slice (some ⟨b, pre.length, none⟩) xs.length cap /\ M = [(b, blk (pre ++ wb xs ++ post) e)] /\ xs.length <= cap /\ cap <= xs.length + post.length
theorem Buf.nil (e : TypeId) : Buf e (.slice none 0 0) [] [] := .inl ⟨rfl, rfl, rfl⟩
theorem Buf.isSl {e : TypeId} {v : Value} {xs : List UInt8} {M : Own} (h : Buf e v xs M) : ∃ A c, v = .slice A xs.length c := by
 rcases h with ⟨rfl, rfl, _⟩ | ⟨b, pre, post, cap, rfl, _⟩
 ·exact ⟨none, 0, rfl⟩
 ·exact ⟨_, _, rfl⟩
theorem Sl.ofBytes {J : Imm} {b cap : Nat} {pre post : List Value} {xs : List UInt8} {e : TypeId} (hb : J b = some (blk (pre ++ wb xs ++ post) e)) (hc : xs.length <= cap) : Sl tU8 J (.slice (some ⟨b, pre.length, none⟩) xs.length cap) xs := by
 refine ⟨_, _, rfl, hc, .inr ⟨b, pre.length, rfl, fun i x hx => ⟨[w8 x], rfl, _, _, _, hb, fun j v hv => ?_⟩⟩⟩
 have hj : j = 0 := by
  cases j with
  | zero => rfl
  | succ j => simp at hv
 subst hj
 simp at hv; subst hv
 have hi : i < xs.length := (List.getElem?_eq_some_iff.1 hx).1
 simp only [show tU8.size = 1 from rfl, Nat.mul_one, Nat.add_zero]
 rw [List.getElem?_toArray, List.append_assoc, List.getElem?_append_right (by omega), Nat.add_sub_cancel_left, List.getElem?_append_left (by simpa using hi), List.getElem?_map, hx]
 rfl
theorem Buf.sl {e : TypeId} {v : Value} {xs : List UInt8} {M : Own} {J : Imm} (h : Buf e v xs M) (hJ : ∀ b o, (b, o) ∈ M -> J b = some o) : Sl tU8 J v xs := by
 rcases h with ⟨rfl, rfl, _⟩ | ⟨b, pre, post, cap, rfl, rfl, hc, _⟩
 ·exact Sl.nil _ _
 ·exact Sl.ofBytes (hJ b _ (List.mem_singleton.2 rfl)) hc
theorem zeroCells_u8 (k : Nat) : (Builtin.zeroCells #[Value.int .u8 0] k).toList = wb (List.replicate k 0) := by
 simp [Builtin.zeroCells, wb, Array.toList_range]
 apply List.ext_getElem
 ·simp
 ·intro i h1 h2
  simp [Nat.mod_one]
section
variable {P : Program} {n : Nat} {C : Cx} {k : List Item} {env : Env} {L : Own} {I : Imm} {ops : Array Oper} {i : Nat} {l : List Oper}
variable {ty : TypeId} {ps : String} {af : Array Edge} {g : Option (Nat × Bool)} {d : Nat}
theorem run_append_buf {ts tx e : TypeId} (hE : Elem P ts e 1 1) (hz : ∃ iE, P.info? e = some iE /\ iE.zero = some (.int .u8 0)) {W : World} {w0 : World} {I0 : Imm} {L0 : List Nat} {M N : Own} {v x : Value} {xs ys : List UInt8} (hi : Inv w0 I0 L0 I (M ++ N) W)
  (hG : Buf e v xs M) (hx : Src P 1 tx x ys.length (wb ys) W) (hbytes : 2 * (xs.length + ys.length) + 512 <= 281474976710656) (h63 : xs.length + ys.length <= 4611686018427387904) :
  ∃ v' W' M', (Builtin.append_ #[ts, tx] ty #[v, x]).run P W = .ok v' W' /\ Buf e v' (xs ++ ys) M' /\ Inv w0 I0 L0 I (M' ++ N) W' := by
 obtain ⟨iE, z, hinfo, hzero, hs1, hb1, hzs⟩ := hE.info
 obtain ⟨iE', hinfo', hz'⟩ := hz
 obtain rfl : iE' = iE := Option.some.inj (hinfo'.symm.trans hinfo)
 obtain rfl : z = .int .u8 0 := Option.some.inj (hzero.symm.trans hz')
 have grow : ∀ (base : Option Addr) (cap : Nat), v = .slice base xs.length cap -> cap < xs.length + ys.length -> (Builtin.firstCells 1 xs.length (.slice base xs.length cap)).run P W.drew = .ok (wb xs).toArray W.drew ->
   ∃ v' W' M', (Builtin.append_ #[ts, tx] ty #[v, x]).run P W = .ok v' W' /\ Buf e v' (xs ++ ys) M' /\ Inv w0 I0 L0 I (M' ++ N) W' := by
  intro base cap hv hcap hold
  have hr := run_append_grow_src (P := P) W ts tx ty e iE' _ hE.under hinfo hzero base xs.length cap (wb xs) (by rw [hs1]; exact hold) x ys.length (wb ys) (by rw [hs1]; exact hx) hcap (by omega)
   (by rw [hb1, Nat.mul_one]; exact Nat.le_trans (nextcap_le _ _ hcap) (by omega))
  subst hv
  have hge := grownCap_ge W (xs.length + ys.length) cap e
  have hcells : (wb xs ++ wb ys).toArray ++ Builtin.zeroCells (Value.int .u8 0).cells (grownCap W (xs.length + ys.length) cap e - (xs.length + ys.length)) =
    (([] : List Value) ++ wb (xs ++ ys) ++ wb (List.replicate (grownCap W (xs.length + ys.length) cap e - (xs.length + ys.length)) 0)).toArray := by
   apply Array.ext'
   rw [Array.toList_append, show (Value.int .u8 0).cells = #[Value.int .u8 0] from rfl, zeroCells_u8]
   simp
  rw [hcells] at hr
  refine ⟨_, _, [(W.heap.size, blk (([] : List Value) ++ wb (xs ++ ys) ++ wb (List.replicate (grownCap W (xs.length + ys.length) cap e - (xs.length + ys.length)) 0)) e)], hr, .inr ⟨W.heap.size, [], _, grownCap W (xs.length + ys.length) cap e, by simp, rfl, by simpa using hge, by simp; omega⟩, ?_⟩
  have h1 : Inv w0 I0 L0 I N W := hi.weakenL (List.sublist_append_right _ _)
  exact h1.drew.alloc _
 rcases hG with ⟨rfl, rfl, rfl⟩ | ⟨b, pre, post, cap, rfl, rfl, hmc, hcs⟩
 ·by_cases hq : ys = []
  ·subst hq
   refine ⟨.slice none 0 0, W, [], ?_, Buf.nil e, hi⟩
   have hx' : Src P iE'.size tx x 0 [] W := by rw [hs1]; exact hx
   rcases hx.kind with ⟨e', hk⟩ | hk <;>
    simp [Builtin.append_, run_underlying hE.under, run_underlying hk, sizeOf, typeInfo, hinfo, hx'.len, hx'.cells]
  ·exact grow none 0 rfl (by have : 0 < ys.length := List.length_pos_iff.2 hq; simp; exact this) (by simp [Builtin.firstCells])
 ·have hW := hi.fits.own b _ (List.mem_append_left _ (List.mem_singleton.2 rfl))
  by_cases hroom : xs.length + ys.length <= cap
  ·have hsz : (pre ++ wb xs ++ post).toArray.size = pre.length + xs.length + post.length := by simp; omega
   have hr := run_append_room_src (P := P) W ts tx ty e iE' hE.under hinfo b pre.length xs.length cap x ys.length (wb ys) (by rw [hs1]; exact hx) hroom
    (fun j hj => by rw [cell_blk hW, hs1]; simp at hj ⊢; omega) (fun j hj => by simp [World.frozen?, hW, blk])
   have hst := run_storeCells_at P b (pre.length + xs.length) e (wb ys) 0 (pre ++ wb xs ++ post).toArray W hW (by rw [hsz]; simp; omega) hx.one
   have hst2 := run_storeCells_cells (P := P) b (pre.length + xs.length) (wb ys) 0 W (fun j hj => by rw [cell_blk hW]; simp at hj ⊢; omega) (fun j hj => by simp [World.frozen?, hW, blk]) hx.one
   rw [hst] at hst2
   simp only [Nat.add_zero, hs1, Nat.mul_one] at hst2 hr
   have hcs2 : (((pre ++ wb xs ++ post).toArray.toList.take (pre.length + xs.length) ++ wb ys ++ (pre ++ wb xs ++ post).toArray.toList.drop (pre.length + xs.length + (wb ys).length)).toArray) = (pre ++ wb (xs ++ ys) ++ post.drop ys.length).toArray := by
    congr 1
    show (pre ++ wb xs ++ post).take _ ++ wb ys ++ (pre ++ wb xs ++ post).drop _ = _
    have hlx : (pre ++ wb xs).length = pre.length + xs.length := by simp
    rw [<- hlx, List.take_left, List.drop_append]
    simp
   rw [hcs2] at hst2
   have hw : W.setCells b (pre.length + xs.length) (wb ys) = W.setRow b (pre ++ wb (xs ++ ys) ++ post.drop ys.length).toArray := by
    injection hst2 with _ h; exact h.symm
   rw [hw] at hr
   refine ⟨_, _, [(b, blk (pre ++ wb (xs ++ ys) ++ post.drop ys.length) e)], hr, .inr ⟨b, pre, post.drop ys.length, cap, by simp, rfl, by simpa using hroom, by simp; omega⟩, ?_⟩
   exact hi.upd rfl rfl rfl (by simp) (fun c _ hcb => setRow_other W b c _ hcb) (setRow_heap W b _ _ e _ hW)
  ·refine grow (some ⟨b, pre.length, none⟩) cap rfl (by omega) ?_
   have hl := run_firstCells_some (P := P) W.drew 1 xs.length ⟨b, pre.length, none⟩ xs.length cap (wb xs) (by simp) (fun j u hu => by
    rw [add_off, World.cell?_drew, cell_blk hW]
    have hj : j < xs.length := by simpa using (List.getElem?_eq_some_iff.1 hu).1
    rw [List.getElem?_toArray, List.append_assoc, List.getElem?_append_right (by omega), Nat.add_sub_cancel_left, List.getElem?_append_left (by simpa using hj)]
    exact hu)
   exact hl
structure Bt (P : Program) (ts e : TypeId) : Prop where
 el : Elem P ts e 1 1
 zero : ∃ iE, P.info? e = some iE /\ iE.zero = some (.int .u8 0)
theorem Eff.appBuf {s x : Operand} {ts tx e : TypeId} {M N : Own} {v xv : Value} {xs ys : List UInt8} {K : Value -> Own -> Imm -> Prop} (hE : Bt P ts e) (hs : opnd env s = some v) (hx : opnd env x = some xv) (hL : L.Perm (M ++ N)) (hG : Buf e v xs M)
  (hsrc : ∀ W, Inv C.w0 C.I0 C.L0 I L W -> Src P 1 tx xv ys.length (wb ys) W) (hbytes : 2 * (xs.length + ys.length) + 512 <= 281474976710656)
  (next : ∀ v' M', Buf e v' (xs ++ ys) M' -> K v' (M' ++ N) I) : Eff P n C env L I ⟨some d, .call ⟨.builtin .append, #[s, x], #[ts, tx]⟩, ty, ps, af, g⟩ K :=
 Eff.valW fun a W he hi => by
  obtain ⟨v', W', M', hr, hG', hi'⟩ := run_append_buf (P := P) (ty := ty) hE.el hE.zero (hi.perm hL) hG (hsrc W hi) hbytes (by omega)
  refine ⟨v', W', M' ++ N, I, .inl ?_, hi', next v' M' hG'⟩
  simp [execOp, resolve, Go.invoke, builtin, eval_opnd he hs, eval_opnd he hx, hr]
theorem Ops.appBuf {s x : Operand} {ts tx e : TypeId} {M N : Own} {v xv : Value} {xs ys : List UInt8} (hE : Bt P ts e) (hG : Buf e v xs M) (hg : want env ops g = some true) (hd : d < n) (hs : opnd env s = some v) (hx : opnd env x = some xv) (hL : L.Perm (M ++ N))
  (hsrc : ∀ W, Inv C.w0 C.I0 C.L0 I L W -> Src P 1 tx xv ys.length (wb ys) W) (hbytes : 2 * (xs.length + ys.length) + 512 <= 281474976710656)
  (next : ∀ v' M', Buf e v' (xs ++ ys) M' -> Ops P n C ops (i + 1) l k ((d, v') :: env) (M' ++ N) I) : Ops P n C ops i (⟨some d, .call ⟨.builtin .append, #[s, x], #[ts, tx]⟩, ty, ps, af, g⟩ :: l) k env L I :=
 Ops.eff hg (dOk hd) (Eff.appBuf hE hs hx hL hG hsrc hbytes next)
theorem src_sl {ts e : TypeId} {w : Value} {ys : List UInt8} (hu : P.underlying ts = some (.slice e)) (hS : Sl tU8 I w ys) {w0 : World} {I0 : Imm} {L0 : List Nat} {W : World} (hi : Inv w0 I0 L0 I L W) : Src P 1 ts w ys.length (wb ys) W := by
 obtain ⟨A, c, rfl, hc, hrow⟩ := hS
 rcases hrow with rfl | ⟨b, off, rfl, hrow⟩
 ·cases A with
  | none => exact Src.ofNil W hu c
  | some a => exact Src.ofSlice W hu a 0 c [] (by simp) (fun j u hu => by simp at hu) (fun u hu => by cases hu)
 ·obtain ⟨news, hC, hA⟩ := hrow.cells
  have e1 := hC.bytes_eq
  subst e1
  rcases hA with rfl | hA
  ·exact Src.ofSlice W hu ⟨b, off, none⟩ 0 c [] (by simp) (fun j u hu => by simp at hu) (fun u hu => by cases hu)
  ·exact Src.ofSlice W hu ⟨b, off, none⟩ ys.length c _ (by simp) (fun j u hu => by rw [add_off]; exact hA.cell hi j u hu) (fun u hu => by
    obtain ⟨y, _, rfl⟩ := List.mem_map.1 hu
    rfl)
theorem src_own {ts e e' : TypeId} {b c : Nat} {ys : List UInt8} {pre post : List Value} (hu : P.underlying ts = some (.slice e)) {w0 : World} {I0 : Imm} {L0 : List Nat} {W : World} (hi : Inv w0 I0 L0 I L W) (hm : (b, blk (pre ++ wb ys ++ post) e') ∈ L) :
  Src P 1 ts (.slice (some ⟨b, pre.length, none⟩) ys.length c) ys.length (wb ys) W :=
 Src.ofSlice W hu ⟨b, pre.length, none⟩ ys.length c _ (by simp) (fun j u hj => by
  have hjl : j < ys.length := by simpa using (List.getElem?_eq_some_iff.1 hj).1
  rw [add_off, cell_blk (hi.fits.own b _ hm), List.getElem?_toArray, List.append_assoc, List.getElem?_append_right (by omega), Nat.add_sub_cancel_left, List.getElem?_append_left (by simpa using hjl)]
  exact hj) (fun u hu => by
    obtain ⟨y, _, rfl⟩ := List.mem_map.1 hu
    rfl)
theorem Ops.appLit {s x : Operand} {ts e : TypeId} {b q c : Nat} {M N : Own} {v : Value} {xs : List UInt8} {news : List Value} (ys : List UInt8) (hE : Bt P ts e) (hG : Buf e v xs M) (hg : want env ops g = some true) (hd : d < n) (hs : opnd env s = some v) (hx : opnd env x = some (.slice (some ⟨b, 0, none⟩) q c))
  (hL : L = (b, blk news e) :: (N ++ M)) (hn : news = wb ys) (hq : ys.length = q) (hbytes : 2 * (xs.length + ys.length) + 512 <= 281474976710656)
  (next : ∀ v' M', Buf e v' (xs ++ ys) M' -> Ops P n C ops (i + 1) l k ((d, v') :: env) (N ++ M') I) : Ops P n C ops i (⟨some d, .call ⟨.builtin .append, #[s, x], #[ts, ts]⟩, ty, ps, af, g⟩ :: l) k env L I := by
 subst hL; subst hn; subst hq
 refine Ops.appBuf (M := M) (N := (b, blk (wb ys) e) :: N) hE hG hg hd hs hx ?_ ?_ hbytes fun v' M' h => ?_
 ·exact (List.Perm.cons _ List.perm_append_comm).trans List.perm_middle.symm
 ·intro W hi
  have := src_own (P := P) (ts := ts) (pre := []) (post := []) (ys := ys) (b := b) (c := c) (e' := e) hE.el.under hi (by simp)
  simpa using this
 ·exact Ops.dropL (List.Sublist.append_left (List.sublist_cons_self _ _) _) (Ops.perm List.perm_append_comm (next v' M' h))
theorem Ops.appSlB {s x : Operand} {ts e : TypeId} {M N : Own} {v w : Value} {xs ys : List UInt8} (hE : Bt P ts e) (hG : Buf e v xs M) (hS : Sl tU8 I w ys) (hg : want env ops g = some true) (hd : d < n) (hs : opnd env s = some v) (hx : opnd env x = some w)
  (hL : L = N ++ M) (hbytes : 2 * (xs.length + ys.length) + 512 <= 281474976710656)
  (next : ∀ v' M', Buf e v' (xs ++ ys) M' -> Ops P n C ops (i + 1) l k ((d, v') :: env) (N ++ M') I) : Ops P n C ops i (⟨some d, .call ⟨.builtin .append, #[s, x], #[ts, ts]⟩, ty, ps, af, g⟩ :: l) k env L I := by
 subst hL
 exact Ops.appBuf hE hG hg hd hs hx List.perm_append_comm (fun W hi => src_sl hE.el.under hS hi) hbytes fun v' M' h => Ops.perm List.perm_append_comm (next v' M' h)
variable {x : Operand} {ts e : TypeId}
theorem Ev.sliceLo {A : Option Addr} {m c : Nat} {lo : Operand} {kd : IntKind} {j : Nat} {size : Nat} (T : Tab P) (hu : T.und ts = some (.slice e)) (hz : T.size e = some size) (hx : opnd env x = some (.slice A m c)) (hlo : opnd env lo = some (.int kd (j : Int))) (h1 : j <= m) (h2 : m <= c) :
  Ev P n env (.slice ts x (some lo) none none) (.slice (if c = j then A else A.map (·.add (j * size))) (m - j) (c - j)) :=
 fun a W he _ _ _ _ _ => by
  have hb := run_sliceBounds (P := P) (hi := none) (lo := some (a.eval lo)) (len := m) (cap := c) (l := j) (h := m) (kd := .i64) (kd' := kd) (.inl ⟨rfl, rfl⟩) (.inr (by simp [eval_opnd he hlo])) h2 h1 W
  simp [execOp, Instr.sliceAt, Instr.slice, eval_opnd he hx, T.undOk hu, hb, T.sizeOk hz]
theorem Ev.sliceHi {A : Option Addr} {m c : Nat} {hi : Operand} {kd : IntKind} {j : Nat} {size : Nat} (T : Tab P) (hu : T.und ts = some (.slice e)) (hz : T.size e = some size) (hx : opnd env x = some (.slice A m c)) (hhi : opnd env hi = some (.int kd (j : Int))) (h1 : j <= c) :
  Ev P n env (.slice ts x none (some hi) none) (.slice (if c = 0 then A else A) j c) :=
 fun a W he _ _ _ _ _ => by
  have hb := run_sliceBounds (P := P) (hi := some (a.eval hi)) (lo := none) (len := m) (cap := c) (l := 0) (h := j) (kd := kd) (kd' := .i64) (.inr (by simp [eval_opnd he hhi])) (.inl ⟨rfl, rfl⟩) h1 (Nat.zero_le _) W
  have e1 : (A.map fun x => x.add 0) = A := by
   cases A with
   | none => rfl
   | some a0 => obtain ⟨b, off, sp⟩ := a0; simp [Addr.add]
  simp [execOp, Instr.sliceAt, Instr.slice, eval_opnd he hx, T.undOk hu, hb, T.sizeOk hz, e1]
theorem Ev.sliceHi' {A : Option Addr} {m c : Nat} {hi : Operand} {kd : IntKind} {j : Int} {size : Nat} (T : Tab P) (hu : T.und ts = some (.slice e)) (hz : T.size e = some size) (hx : opnd env x = some (.slice A m c)) (hhi : opnd env hi = some (.int kd j)) (h0 : 0 <= j) (h1 : j <= c) :
  Ev P n env (.slice ts x none (some hi) none) (.slice A j.toNat c) := by
 obtain ⟨q, rfl⟩ := Int.eq_ofNat_of_zero_le h0
 have := Ev.sliceHi (n := n) T hu hz hx hhi (by omega)
 simpa using this
theorem madeCells_u8 (c : Nat) : madeCells (Value.int .u8 0).cells c = (wb (List.replicate c 0)).toArray := by
 apply Array.ext'
 simp [madeCells, Value.cells, Array.toList_range]
 apply List.ext_getElem
 ·simp
 ·intro i h1 h2
  simp [Nat.mod_one]
theorem Ops.makeBuf {x y : Operand} {kl kc : IntKind} {a c : Nat} (hE : Bt P ts e) (hg : want env ops g = some true) (hd : d < n) (hx : opnd env x = some (.int kl (a : Int))) (hy : opnd env y = some (.int kc (c : Int))) (hac : a <= c) (hc : c <= 281474976710656)
  (next : ∀ b, Buf e (.slice (some ⟨b, 0, none⟩) a c) (List.replicate a 0) [(b, blk (wb (List.replicate c 0)) e)] -> Ops P n C ops (i + 1) l k ((d, .slice (some ⟨b, 0, none⟩) a c) :: env) ((b, blk (wb (List.replicate c 0)) e) :: L) I) :
  Ops P n C ops i (⟨some d, .makeSlice ts x y, ty, ps, af, g⟩ :: l) k env L I :=
 Ops.valW hg (dOk hd) fun a0 W he hi => by
  obtain ⟨iE, z, hinfo, hzero, hs1, hb1, hzs⟩ := hE.el.info
  obtain ⟨iE', hinfo', hz'⟩ := hE.zero
  obtain rfl : iE' = iE := Option.some.inj (hinfo'.symm.trans hinfo)
  obtain rfl : z = .int .u8 0 := Option.some.inj (hzero.symm.trans hz')
  have hr := run_make (P := P) W ts e iE' _ hE.el.under hinfo hzero kl kc (a : Int) (c : Int) (by omega) (by omega) (by rw [hb1]; omega) (by omega)
  rw [hs1, Nat.mul_one, Int.toNat_natCast, Int.toNat_natCast, madeCells_u8] at hr
  refine ⟨.slice (some ⟨W.heap.size, 0, none⟩) a c, _, (W.heap.size, blk (wb (List.replicate c 0)) e) :: L, I, .inl ?_, hi.alloc _, next _ (.inr ⟨W.heap.size, [], wb (List.replicate (c - a) 0), c, by simp, ?_, by simpa using hac, by simp; omega⟩)⟩
  ·simp only [execOp, eval_opnd he hx, eval_opnd he hy, Sem.run_bind, hr, Result.andThen_ok]; rfl
  ·simp only [List.nil_append, <- List.map_append, List.replicate_append_replicate]
   rw [show a + (c - a) = c by omega]
end
end Go.V
namespace Go.V
open Go.RowKit
section
variable {P : Program} {n : Nat} {C : Cx} {k : List Item} {env : Env} {L : Own} {I : Imm} {ops : Array Oper} {i : Nat} {l : List Oper} {S : World -> Prop}
variable {ty : TypeId} {ps : String} {af : Array Edge} {g : Option (Nat × Bool)} {d : Nat}
variable {x y : Operand} {t t' : TypeId} {kd kd' : IntKind}
theorem Ev.shrI {a j : Int} (hx : opnd env x = some (.int kd a)) (hy : opnd env y = some (.int kd' j)) (h0 : 0 <= j) (h1 : j.toNat <= kd.bits) : Ev P n env (.binOp .shr t x y t') (.int kd (a.fdiv (2 ^ j.toNat))) :=
 Ev.of2 hx hy (fun _ => run_eqGuard_int ..) fun W => by
  have e : Op.shift .shr kd a kd' j = pure (.int kd (a.fdiv (2 ^ min j.toNat kd.bits))) := by unfold Op.shift; rw [if_neg (Int.not_lt.2 h0)]
  rw [Nat.min_eq_left h1] at e
  simp only [binOp, e]
  rfl
theorem foldl_push (xs : List UInt8) : ∀ s : ByteArray, (xs.map fun b => (b.toNat : Int)).foldl (fun r (n : Int) => r.push (UInt8.ofNat n.toNat)) s = ⟨s.data ++ xs.toArray⟩ := by
 induction xs with
 | nil => intro s; simp
 | cons x r ih =>
  intro s
  simp only [List.map_cons, List.foldl_cons]
  rw [ih]
  apply ByteArray.ext
  simp [ByteArray.push]
theorem run_bytesStr {src dst e : TypeId} {b off c : Nat} {xs : List UInt8} {W : World} (T : Tab P) (hs : T.und src = some (.slice e)) (ht : T.und dst = some .string) (he : T.und e = some (.int .u8))
  (hc : ∀ j u, (wb xs)[j]? = some u -> W.cell? ⟨b, off + j, none⟩ = some u) : (convert src dst (.slice (some ⟨b, off, none⟩) xs.length c)).run P W = .ok (str xs) W := by
 have hl := run_loadCells_list (P := P) W ⟨b, off, none⟩ (wb xs) (fun j u hj => by rw [add_off]; exact hc j u hj)
 have e1 : (wb xs).length = xs.length := by simp
 rw [e1] at hl
 rw [run_convert_bytes_string W src dst e _ _ _ (und_of_run (T.undOk hs W)) (und_of_run (T.undOk he W)) (und_of_run (T.undOk ht W))]
 rw [run_bytesToString W ⟨b, off, none⟩ xs.length c (xs.map fun b => (b.toNat : Int)) (by rw [hl, List.map_map]; rfl), foldl_push]
 simp [str]
theorem run_bytesNil {src dst e : TypeId} {c : Nat} {W : World} (T : Tab P) (hs : T.und src = some (.slice e)) (ht : T.und dst = some .string) (he : T.und e = some (.int .u8)) : (convert src dst (.slice none 0 c)).run P W = .ok (str []) W := by
 rw [run_convert_bytes_string W src dst e _ _ _ (und_of_run (T.undOk hs W)) (und_of_run (T.undOk he W)) (und_of_run (T.undOk ht W))]
 rfl
theorem Yv.bytesBuf {src dst e e' : TypeId} {v : Value} {xs : List UInt8} {J : Imm} {M N : Own} (T : Tab P) (hG : Buf e' v xs N) (hm : ∀ x, x ∈ N -> x ∈ M) (hs : T.und src = some (.slice e)) (ht : T.und dst = some .string) (he : T.und e = some (.int .u8)) (hx : opnd env x = some v) :
  Yv P n env (Holds J M) (.convert src dst x) (str xs) :=
 fun a W hen hS _ _ _ _ _ => by
  rcases hG with ⟨rfl, rfl, _⟩ | ⟨b, pre, post, cap, rfl, rfl, hc, _⟩
  ·simp only [execOp, eval_opnd hen hx, Sem.run_bind, run_bytesNil T hs ht he, Result.andThen_ok]; rfl
  ·have hW := hS.2 b _ (hm _ (List.mem_singleton.2 rfl))
   have := run_bytesStr (P := P) (c := cap) (b := b) (off := pre.length) (xs := xs) (W := W) T hs ht he (fun j u hj => by
    have hjl : j < xs.length := by simpa using (List.getElem?_eq_some_iff.1 hj).1
    rw [cell_blk hW, List.getElem?_toArray, List.append_assoc, List.getElem?_append_right (by omega), Nat.add_sub_cancel_left, List.getElem?_append_left (by simpa using hjl)]
    exact hj)
   simp only [execOp, eval_opnd hen hx, Sem.run_bind, this, Result.andThen_ok]; rfl
theorem Yv.bytesSl {src dst e : TypeId} {v : Value} {xs : List UInt8} {J : Imm} {M : Own} (T : Tab P) (hG : Sl tU8 J v xs) (hs : T.und src = some (.slice e)) (ht : T.und dst = some .string) (he : T.und e = some (.int .u8)) (hx : opnd env x = some v) :
  Yv P n env (Holds J M) (.convert src dst x) (str xs) :=
 fun a W hen hS _ _ _ _ _ => by
  obtain ⟨A, c, rfl, hc, hrow⟩ := hG
  have key : ∀ b off, (∀ j u, (wb xs)[j]? = some u -> W.cell? ⟨b, off + j, none⟩ = some u) -> A = some ⟨b, off, none⟩ -> (execOp a.eval ⟨‹Option Tmp›, .convert src dst x, ‹TypeId›, ‹String›, ‹Array Edge›, ‹Option (Nat × Bool)›⟩).run P W = .ok (.value (str xs)) W := by
   rintro b off hcell rfl
   have := run_bytesStr (P := P) (c := c) (b := b) (off := off) (xs := xs) (W := W) T hs ht he hcell
   simp only [execOp, eval_opnd hen hx, Sem.run_bind, this, Result.andThen_ok]; rfl
  rcases hrow with rfl | ⟨b, off, rfl, hrow⟩
  ·cases A with
   | none =>
    have := run_bytesNil (P := P) (c := c) (W := W) T hs ht he
    simp only [execOp, eval_opnd hen hx, Sem.run_bind, List.length_nil, this, Result.andThen_ok]; rfl
   | some a0 =>
    have hl := run_loadCells_list (P := P) W a0 [] (fun j u hj => by simp at hj)
    have h3 : (convert src dst (.slice (some a0) 0 c)).run P W = .ok (str []) W := by
     rw [run_convert_bytes_string W src dst e _ _ _ (und_of_run (T.undOk hs W)) (und_of_run (T.undOk he W)) (und_of_run (T.undOk ht W))]
     exact run_bytesToString W a0 0 c [] hl
    simp only [execOp, eval_opnd hen hx, Sem.run_bind, List.length_nil, h3, Result.andThen_ok]; rfl
  ·refine key b off (fun j u hj => ?_) rfl
   have hjl : j < xs.length := by simpa using (List.getElem?_eq_some_iff.1 hj).1
   obtain ⟨cs, hr, hA⟩ := hrow j xs[j] (List.getElem?_eq_getElem hjl)
   obtain rfl : cs = _ := hr
   have h4 := hS.cell hA 0 _ rfl
   rw [List.getElem?_map, List.getElem?_eq_getElem hjl] at hj
   simp only [Option.map_some, Option.some.injEq] at hj
   subst hj
   simpa [tU8] using h4
end
end Go.V
namespace Go.V
open Go.RowKit
section
variable {P : Program} {n : Nat} {C : Cx} {k : List Item} {env : Env} {L : Own} {I : Imm} {ops : Array Oper} {i : Nat} {l : List Oper} {S : World -> Prop}
variable {ty : TypeId} {ps : String} {af : Array Edge} {g : Option (Nat × Bool)} {d : Nat}
variable {x y : Operand} {t t' : TypeId} {kd kd' : IntKind}
theorem Ev.nilCheckM {u : Value} {name : String} (hx : opnd env x = some (.func (.method name) #[.iface t u] #[])) (hm : ∀ w, (nilAhead (P.types.size + Made.depth) t u name).run P w = .ok (some false) w) : Ev P n env (.nilCheck x) (.func (.method name) #[.iface t u] #[]) :=
 fun a W he _ _ _ _ _ => by
  have hp : (program).run P W = .ok P W := rfl
  simp [execOp, eval_opnd he hx, hp, hm]
variable {K : Value -> Own -> Imm -> Prop}
theorem Eff.invokeM {f : FuncId} {m : String} {xs : List Operand} {ats : Array TypeId} {u rv : Value} {vs : List Value} {M N : Own} {R : Value -> Imm -> Own -> Prop} (hs : Spec P f (rv :: vs) I M R) (hL : L.Perm (M ++ N)) (hc : ∀ args w, (callFunc f args).run P w = .ok (.enter f args) w)
  (hf : opnd env x = some (.iface t u)) (hm : ∀ w, (method (P.types.size + Made.depth) t u m).run P w = .ok (f, rv) w) (hx : opnds env xs = some vs) (next : ∀ v J M', Le I J -> R v J M' -> K v (M' ++ N) J) :
  Eff P n C env L I ⟨some d, .call ⟨.invoke x m, xs.toArray, ats⟩, ty, ps, af, g⟩ K :=
 Eff.callW (fun a W he => run_invoke hc he hf hm hx) hL hs next
def bobj (pre : List Value) (xs : List UInt8) (post : List Value) (e : TypeId) : Obj := blk (pre ++ wb xs ++ post) e
theorem run_copy_at {dT sT e : TypeId} (hE : Bt P dT e) {W : World} {w0 : World} {I0 : Imm} {L0 : List Nat} {N : Own} {b cap : Nat} {pre post : List Value} {xs s : List UInt8} (hi : Inv w0 I0 L0 I ((b, bobj pre xs post e) :: N) W) :
  ∃ W', (Builtin.copy_ #[dT, sT] ty #[.slice (some ⟨b, pre.length, none⟩) xs.length cap, str s]).run P W = .ok (.int .i64 (min s.length xs.length : Nat)) W' /\ Inv w0 I0 L0 I ((b, bobj pre (s.take xs.length ++ xs.drop s.length) post e) :: N) W' := by
 obtain ⟨iE, z, hinfo, hzero, hs1, hb1, hzs⟩ := hE.el.info
 have hfirst : ∀ m, (Builtin.firstCells 1 m (str s)).run P W = .ok (wb (s.take m)).toArray W := by
  intro m
  simp only [Builtin.firstCells, str, Nat.mul_one]
  show Result.ok _ W = _
  congr 1
  apply Array.ext'
  simp [wb, ByteArray.data_extract]
 have hW := hi.fits.own b _ List.mem_cons_self
 have hmin : (s.take xs.length).length = min s.length xs.length := by simp [Nat.min_comm]
 have hfl : ∀ m, m = min s.length xs.length -> s.take m = s.take xs.length := by
  intro m hm; subst hm; rw [List.take_eq_take_iff]; omega
 have hst := run_storeCells_at P b pre.length e (wb (s.take xs.length)) 0 (pre ++ wb xs ++ post).toArray W hW (by simp; omega) (fun u hu => by
   obtain ⟨y, _, rfl⟩ := List.mem_map.1 hu
   rfl)
 have hcs2 : (((pre ++ wb xs ++ post).toArray.toList.take pre.length ++ wb (s.take xs.length) ++ (pre ++ wb xs ++ post).toArray.toList.drop (pre.length + (wb (s.take xs.length)).length)).toArray) = (pre ++ wb (s.take xs.length ++ xs.drop s.length) ++ post).toArray := by
  congr 1
  show (pre ++ wb xs ++ post).take _ ++ _ ++ (pre ++ wb xs ++ post).drop _ = _
  rw [List.append_assoc pre, List.take_left, List.drop_append]
  simp only [List.length_map, hmin, List.map_append]
  rw [show List.drop (pre.length + min s.length xs.length) pre = [] from List.drop_eq_nil_of_le (by omega), Nat.add_sub_cancel_left, List.drop_append]
  rw [show min s.length xs.length - (List.map w8 xs).length = 0 by simp; omega, List.drop_zero, List.nil_append, <- List.map_drop]
  have e3 : xs.drop (min s.length xs.length) = xs.drop s.length := by
   by_cases hle : s.length <= xs.length
   ·rw [Nat.min_eq_left hle]
   ·rw [Nat.min_eq_right (by omega), List.drop_length, List.drop_eq_nil_of_le (by omega)]
  rw [e3]
  simp [wb]
 simp only [Nat.add_zero] at hst
 rw [hcs2] at hst
 refine ⟨W.setRow b (pre ++ wb (s.take xs.length ++ xs.drop s.length) ++ post).toArray, ?_, hi.upd rfl rfl rfl (by simp) (fun c _ hcb => setRow_other W b c _ hcb) (setRow_heap W b _ _ e _ hW)⟩
 have h1 := hfirst (Nat.min s.length xs.length)
 rw [hfl _ rfl] at h1
 have e4 : (Builtin.copy_ #[dT, sT] ty #[.slice (some ⟨b, pre.length, none⟩) xs.length cap, str s]).run P W = ((Builtin.firstCells 1 (Nat.min s.length xs.length) (str s)).run P W).andThen (fun cells w => (storeCells ⟨b, pre.length, none⟩ cells.toList).run P w |>.andThen fun _ w => .ok (goInt (Nat.min s.length xs.length)) w) := by
  simp [Builtin.copy_, run_underlying hE.el.under, Builtin.lenOf, str, str_size, sizeOf, typeInfo, hinfo, hs1]
 rw [e4, h1]
 simp only [Result.andThen]
 show (Sem.run P (storeCells ⟨b, pre.length, none⟩ (wb (List.take xs.length s))) W).andThen _ = _
 rw [hst]
 rfl
theorem Eff.copyAt {s x : Operand} {ts tx e : TypeId} {N : Own} {b cap : Nat} {pre post : List Value} {xs ys : List UInt8} (hE : Bt P ts e) (hs : opnd env s = some (.slice (some ⟨b, pre.length, none⟩) xs.length cap)) (hx : opnd env x = some (str ys)) (hL : L.Perm ((b, bobj pre xs post e) :: N))
  (next : K (.int .i64 (min ys.length xs.length : Nat)) ((b, bobj pre (ys.take xs.length ++ xs.drop ys.length) post e) :: N) I) : Eff P n C env L I ⟨some d, .call ⟨.builtin .copy, #[s, x], #[ts, tx]⟩, ty, ps, af, g⟩ K :=
 Eff.valW fun a W he hi => by
  obtain ⟨W', hr, hi'⟩ := run_copy_at (P := P) (ty := ty) (sT := tx) (s := ys) (cap := cap) hE (hi.perm hL)
  refine ⟨_, W', _, I, .inl ?_, hi', next⟩
  simp [execOp, resolve, Go.invoke, builtin, eval_opnd he hs, eval_opnd he hx, hr]
end
end Go.V
namespace Go.V
open Go.RowKit Go.ChangeShapes
theorem laidVar {P : Program} {W : World} : ∀ {l : List (String × DataW Unit)} {ps : List MemPlace}, DataW.LaidVars P W l ps -> ∀ {n d}, (n, d) ∈ l ->
  ∃ g t cs fuel p, P.globalNamed n = some g /\ (P.globals[g]?).map (·.type) = some t /\ W.var? P n = some cs /\ DataW.trod (fun _ => ()) P W 0 (fun _ => true) false fuel t cs.toList = some (d, p) /\ ∀ x ∈ MemPlace.row ⟨g, 0, none⟩ cs.size ++ p, x ∈ ps
 | [], _, _, _, _, h => by cases h
 | (n0, d0) :: r, ps, h, n, d, hm => by
  obtain ⟨g, t, cs, fuel, p, q, h1, h2, h3, h4, h5, h6⟩ := h
  rcases List.mem_cons.1 hm with e | hm
  ·cases e
   exact ⟨g, t, cs, fuel, p, h1, h2, h3, h4, fun x hx => by rw [h6]; exact List.mem_append_left _ hx⟩
  ·obtain ⟨g', t', cs', f', p', k1, k2, k3, k4, k5⟩ := laidVar h5 hm
   exact ⟨g', t', cs', f', p', k1, k2, k3, k4, fun x hx => by rw [h6]; exact List.mem_append_right _ (k5 x hx)⟩
theorem laidSentinel {P : Program} {W : World} {l : List (String × DataW Unit)} (h : laidMetH P l W) (hp : (l.all fun x => x.2.handleName?.isNone) = true) {n text : _} {ti tp te ts : TypeId} {g : Nat} {ms : Array (String × TypeId)} {f : Field}
  (hm : (n, (DataW.iface "*errors.errorString" (.ptr (.agg [.lit (.string text)])) : DataW Unit)) ∈ l) (hg : P.globalNamed n = some g) (ht : (P.globals[g]?).map (·.type) = some ti)
  (hi : P.underlying ti = some (.interface ms)) (hrow : ∀ u, P.typeName? 3 u = some "*errors.errorString" -> u = tp)
  (hpt : P.underlying tp = some (.pointer te)) (he : P.underlying te = some (.struct #[f])) (hft : f.type = ts) (hfo : f.offset = 0) (hs : P.underlying ts = some .string) (hc : P.cellsOf te = 1) (hcs : P.cellsOf ts = 1) :
  ∃ a, At (whole W) g 0 [.iface tp (.pointer (some a))] := by
 rw [MakeChecks.laidMetH_plain _ _ _ hp] at h
 obtain ⟨ps, h, hnd, hrows⟩ := h
 obtain ⟨g', t', cs, fuel, p, k1, k2, k3, k4, k5⟩ := laidVar h hm
 obtain rfl := Option.some.inj (hg.symm.trans k1)
 obtain rfl := Option.some.inj (ht.symm.trans k2)
 obtain ⟨l0⟩ := cs
 have ok0 : ∀ u v, l0 = [.iface u v] -> Value.okWide P W .any 0 u v := fun u v e => by
  subst e
  exact (hrows g 0 (k5 _ (by simp [MemPlace.row]))).2 u v (by simpa using World.var?_cell hg k3 0)
 obtain ⟨a, s, e, hc0, hs0, hz0, _⟩ := errorString_of_trod hi hrow hpt he hft hfo hs hc hcs k4 ok0
 have e : l0 = _ := e
 subst e
 refine ⟨a, (at_whole (a := ⟨g, 0, none⟩) (by simp) (fun j v hj => ?_)).2⟩
 cases j with
 | zero => simp at hj; subst hj; simpa [Addr.add] using World.var?_cell hg k3 0
 | succ j => simp at hj
theorem witness_laid {H : Type} {enc : TypeId × Value -> H} {C : Checked} {os : Os} {f : FuncId} {fn : Func} {s : OpenSpec} {conds : List PathCond} {apart : Bool} {laid : List (String × DataW Unit)} (modest : Bool) (args : Array Value)
  (hsh : (World.laidAll C.prog os laid |>.forCall (fun _ _ => 0) ⟨#[], args, []⟩).Shaped C.prog)
  (hok : Input.okWideB C.prog ((World.laidAll C.prog os laid).forCall (fun _ _ => 0) ⟨#[], args, []⟩) f ⟨#[], args, []⟩ = true)
  (hrow : s.preRow enc C.prog fn conds apart laid ((World.laidAll C.prog os laid).forCall (fun _ _ => 0) ⟨#[], args, []⟩).memory args) :
  ∃ (w : World) (tape : Tape) (i : Input), w.os = os /\ (w.forCall tape i).Shaped C.prog /\ i.vars = [] /\ Input.okWide C.prog (w.forCall tape i) .any w.heap.size f i /\
   s.preRow enc C.prog fn conds apart laid (w.forCall tape i).memory i.args /\ ({ modest := modest } : Assume).holds C.prog (lone (Frame.enter C.prog f i.args .normal) [] (w.forCall tape i)) :=
 ⟨World.laidAll C.prog os laid, fun _ _ => 0, ⟨#[], args, []⟩, World.laidAll_os _ _ _, hsh, (Input.okWide_of_okWideB (base := 0) hok).1, (Input.okWide_of_okWideB hok).2, hrow, by
  simp only [Assume.holds]
  exact ⟨by simp, by simp, fun _ => Modest.zero, by simp, by simp⟩⟩
end Go.V
namespace Go.V
open Go.Proofs.Tryz
open Go.RowKit
section
variable {P : Program} {n : Nat} {C : Cx} {k : List Item} {env : Env} {L : Own} {I : Imm} {ops : Array Oper} {i : Nat} {l : List Oper} {S : World -> Prop}
variable {ty : TypeId} {ps : String} {af : Array Edge} {g : Option (Nat × Bool)} {d : Nat}
variable {x y : Operand} {t t' : TypeId} {kd kd' : IntKind}
theorem Ev.addK {a b r : Int} (hx : opnd env x = some (.int kd a)) (hy : opnd env y = some (.int kd b)) (hr : kd.wrap (a + b) = r) : Ev P n env (.binOp .add t x y t') (.int kd r) :=
 Ev.of2 hx hy (fun _ => run_eqGuard_int ..) fun W => by subst hr; simp [binOp, Op.intArith]
theorem Ev.subK {a b r : Int} (hx : opnd env x = some (.int kd a)) (hy : opnd env y = some (.int kd b)) (hr : kd.wrap (a - b) = r) : Ev P n env (.binOp .sub t x y t') (.int kd r) :=
 Ev.of2 hx hy (fun _ => run_eqGuard_int ..) fun W => by subst hr; simp [binOp, Op.intArith]
theorem Ev.mulK {a b r : Int} (hx : opnd env x = some (.int kd a)) (hy : opnd env y = some (.int kd b)) (hr : kd.wrap (a * b) = r) : Ev P n env (.binOp .mul t x y t') (.int kd r) :=
 Ev.of2 hx hy (fun _ => run_eqGuard_int ..) fun W => by subst hr; simp [binOp, Op.intArith]
theorem Ev.orK {a b c : Nat} (hx : opnd env x = some (.int kd (a : Int))) (hy : opnd env y = some (.int kd (b : Int))) (ha : a < 2 ^ kd.bits) (hb : b < 2 ^ kd.bits) (hr : a ||| b = c) (hw : kd.wrap (c : Int) = c) : Ev P n env (.binOp .or t x y t') (.int kd (c : Int)) :=
 Ev.of2 hx hy (fun _ => run_eqGuard_int ..) fun W => by
  have e : Op.intBits .or kd (a : Int) (b : Int) = pure (.int kd (kd.wrap (((BitVec.ofInt kd.bits (a : Int)) ||| (BitVec.ofInt kd.bits (b : Int)) : BitVec kd.bits).toNat : Int))) := rfl
  have e2 : ((BitVec.ofInt kd.bits (a : Int)) ||| (BitVec.ofInt kd.bits (b : Int)) : BitVec kd.bits).toNat = c := by
   rw [BitVec.ofInt_natCast, BitVec.ofInt_natCast, BitVec.toNat_or, BitVec.toNat_ofNat, BitVec.toNat_ofNat, Nat.mod_eq_of_lt ha, Nat.mod_eq_of_lt hb, hr]
  rw [e2, hw] at e
  simp only [binOp, e, ne_eq, not_true_eq_false, if_false]
  rfl
theorem Ev.andK {a b c : Nat} (hx : opnd env x = some (.int kd (a : Int))) (hy : opnd env y = some (.int kd (b : Int))) (ha : a < 2 ^ kd.bits) (hb : b < 2 ^ kd.bits) (hr : a &&& b = c) (hw : kd.wrap (c : Int) = c) : Ev P n env (.binOp .and t x y t') (.int kd (c : Int)) :=
 Ev.of2 hx hy (fun _ => run_eqGuard_int ..) fun W => by
  have e : Op.intBits .and kd (a : Int) (b : Int) = pure (.int kd (kd.wrap (((BitVec.ofInt kd.bits (a : Int)) &&& (BitVec.ofInt kd.bits (b : Int)) : BitVec kd.bits).toNat : Int))) := rfl
  have e2 : ((BitVec.ofInt kd.bits (a : Int)) &&& (BitVec.ofInt kd.bits (b : Int)) : BitVec kd.bits).toNat = c := by
   rw [BitVec.ofInt_natCast, BitVec.ofInt_natCast, BitVec.toNat_and, BitVec.toNat_ofNat, BitVec.toNat_ofNat, Nat.mod_eq_of_lt ha, Nat.mod_eq_of_lt hb, hr]
  rw [e2, hw] at e
  simp only [binOp, e, ne_eq, not_true_eq_false, if_false]
  rfl
theorem Ev.shlK {a j r : Int} (hx : opnd env x = some (.int kd a)) (hy : opnd env y = some (.int kd' j)) (h0 : 0 <= j) (h1 : j.toNat <= kd.bits) (hr : kd.wrap (a * 2 ^ j.toNat) = r) : Ev P n env (.binOp .shl t x y t') (.int kd r) :=
 Ev.of2 hx hy (fun _ => run_eqGuard_int ..) fun W => by
  subst hr
  have e : Op.shift .shl kd a kd' j = pure (.int kd (kd.wrap (a * 2 ^ min j.toNat kd.bits))) := by unfold Op.shift; rw [if_neg (Int.not_lt.2 h0)]
  rw [Nat.min_eq_left h1] at e
  simp only [binOp, e]
  rfl
theorem Ev.shrK {a j r : Int} (hx : opnd env x = some (.int kd a)) (hy : opnd env y = some (.int kd' j)) (h0 : 0 <= j) (h1 : j.toNat <= kd.bits) (hr : a.fdiv (2 ^ j.toNat) = r) : Ev P n env (.binOp .shr t x y t') (.int kd r) :=
 (Ev.shrI hx hy h0 h1).as (by rw [hr])
theorem Ev.sliceLH {ts e : TypeId} {A : Option Addr} {m c p q : Nat} {lo hi : Operand} {size : Nat} (T : Tab P) (hu : T.und ts = some (.slice e)) (hz : T.size e = some size) (hx : opnd env x = some (.slice A m c)) (hlo : opnd env lo = some (.int kd (p : Int))) (hhi : opnd env hi = some (.int kd' (q : Int))) (h0 : p <= q) (h1 : q <= c) :
  Ev P n env (.slice ts x (some lo) (some hi) none) (.slice (if c = p then A else A.map (·.add (p * size))) (q - p) (c - p)) :=
 fun a W he _ _ _ _ _ => by
  have hb := run_sliceBounds (P := P) (hi := some (a.eval hi)) (lo := some (a.eval lo)) (len := m) (cap := c) (l := p) (h := q) (kd := kd') (kd' := kd) (.inr (by simp [eval_opnd he hhi])) (.inr (by simp [eval_opnd he hlo])) h1 h0 W
  simp [execOp, Instr.sliceAt, Instr.slice, eval_opnd he hx, T.undOk hu, hb, T.sizeOk hz]
end
theorem orSh {a b : Nat} (k : Nat) (h : b < 2 ^ k) : a * 2 ^ k ||| b = a * 2 ^ k + b := by
 rw [Nat.mul_comm, <- Nat.two_pow_add_eq_or_of_lt h]
theorem wrapI32 {x : Int} (h : -2147483648 <= x) (h' : x <= 2147483647) : IntKind.i32.wrap x = x := wI32 h h'
theorem wrapN8 {k : Nat} (h : k < 256) : IntKind.u8.wrap (k : Int) = (k : Int) := wU8 (by omega) (by omega)
structure Rd (I : Imm) (v : Value) (xs : List UInt8) (db off c : Nat) : Prop where
 eq : v = .slice (some ⟨db, off, none⟩) xs.length c
 cap : xs.length <= c
 at' : ∀ i, i < xs.length -> At I db (off + ((i : Int)).toNat * 1) [.int .u8 ((xs.getD i 0).toNat : Int)]
theorem Rd.mono {I J : Imm} {v : Value} {xs : List UInt8} {db off c : Nat} (h : Rd I v xs db off c) (hle : Le I J) : Rd J v xs db off c := ⟨h.eq, h.cap, fun i hi => (h.at' i hi).mono hle⟩
theorem Rd.of {I : Imm} {v : Value} {xs : List UInt8} (h : Sl tU8 I v xs) (hne : xs ≠ []) : ∃ db off c, Rd I v xs db off c := by
 obtain ⟨A, c, rfl, hc, hrow⟩ := h
 rcases hrow with rfl | ⟨b, off, rfl, hrow⟩
 ·exact absurd rfl hne
 ·refine ⟨b, off, c, rfl, hc, fun i hi => ?_⟩
  obtain ⟨cs, hr, hA⟩ := hrow i _ (List.getElem?_eq_getElem hi)
  obtain rfl : cs = _ := hr
  rw [List.getD_eq_getElem?_getD, List.getElem?_eq_getElem hi]
  exact hA
theorem Rd.sl {I : Imm} {v : Value} {xs : List UInt8} {db off c : Nat} (h : Rd I v xs db off c) : Sl tU8 I v xs := by
 refine ⟨_, c, h.eq, h.cap, .inr ⟨db, off, rfl, fun i x hx => ?_⟩⟩
 obtain ⟨hi, rfl⟩ := List.getElem?_eq_some_iff.1 hx
 refine ⟨_, rfl, ?_⟩
 have := h.at' i hi
 rw [List.getD_eq_getElem?_getD, List.getElem?_eq_getElem hi] at this
 exact this
theorem Rd.cut {I : Imm} {v : Value} {xs : List UInt8} {db off c : Nat} (h : Rd I v xs db off c) {p q : Nat} (hpq : p <= q) (hq : q <= xs.length) (hpc : p < c) :
  Rd I (.slice (if c = p then some ⟨db, off, none⟩ else (some (⟨db, off, none⟩ : Addr)).map (·.add (p * 1))) (q - p) (c - p)) ((xs.take q).drop p) db (off + p) (c - p) := by
 have hc := h.cap
 have hl : ((xs.take q).drop p).length = q - p := by simp; omega
 refine ⟨?_, by rw [hl]; omega, fun i hi => ?_⟩
 ·rw [if_neg (by omega), hl]; simp [Addr.add]
 ·rw [hl] at hi
  have := h.at' (p + i) (by omega)
  have e : ((xs.take q).drop p).getD i 0 = xs.getD (p + i) 0 := by
   rw [List.getD_eq_getElem?_getD, List.getD_eq_getElem?_getD, List.getElem?_drop, List.getElem?_take_of_lt (by omega)]
  rw [e]
  have e2 : off + p + ((i : Nat) : Int).toNat * 1 = off + (((p + i : Nat) : Int)).toNat * 1 := by omega
  rw [e2]; exact this
theorem dc {p : Prop} (h : p := by decide) : p := h
theorem om {p : Prop} (h : p := by first | omega | (simp only [List.length_cons, List.length_nil] ; omega) | (simp; omega)) : p := h
section
variable {n : Nat} {C : Cx} {env : Env} {L : Own} {I : Imm} {D : List (Option Nat)} {Z : Env -> Prop} {m : List Bool} {r : List Oper} {ty : TypeId} {ps : String} {af : Array Edge} {g : Option (Nat × Bool)} {d : Nat}
theorem q1 {op : Op} {v : Value} (hd : d < n) (hg : wantD env D g = some true) (h : evalOp T env op = some v) (next : QD prog n C D L I Z m r ((d, v) :: env)) : QD prog n C D L I Z (true :: m) (⟨some d, op, ty, ps, af, g⟩ :: r) env :=
 QD.ev T hd hg h next
theorem qf {op : Op} {p : Prop} {i : Decidable p} (h : Ev prog n env op (.bool (decide p))) (hp : ¬p) (hd : d < n) (hg : wantD env D g = some true) (next : QD prog n C D L I Z m r ((d, .bool false) :: env)) : QD prog n C D L I Z (true :: m) (⟨some d, op, ty, ps, af, g⟩ :: r) env :=
 QD.e (h.as (congrArg Value.bool (decide_eq_false hp))) hd hg next
theorem qt {op : Op} {p : Prop} {i : Decidable p} (h : Ev prog n env op (.bool (decide p))) (hp : p) (hd : d < n) (hg : wantD env D g = some true) (next : QD prog n C D L I Z m r ((d, .bool true) :: env)) : QD prog n C D L I Z (true :: m) (⟨some d, op, ty, ps, af, g⟩ :: r) env :=
 QD.e (h.as (congrArg Value.bool (decide_eq_true hp))) hd hg next
end
end Go.V
