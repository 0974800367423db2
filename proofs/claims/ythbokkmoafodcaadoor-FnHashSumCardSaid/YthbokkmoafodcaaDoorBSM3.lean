import Derived.Test.YthbokkmoafodcaaDoorBSM2
import Derived.Test.YthbokkmoafodcaaDoorBSM1
import Derived.Test.YthbokkmoafodcaaDoorProg
import Derived.KernelRfl
import Derived.LaidEql
import Derived.Laws.MakeOwn
/-
  Numbers without a sign, as Lean's own; rules that serve in whatever order.
-/
namespace Go.V
open Go.RowKit
set_option linter.unusedVariables false
set_option linter.unusedSimpArgs false
/-- an operation that yields v whatever the world -/
def Ev (P : Program) (n : Nat) (env : Env) (op : Op) (v : Value) : Prop := ∀ (a : Act) (W : World), EnvOk n env a → ∀ dst ty ps af g, (execOp a.eval ⟨dst, op, ty, ps, af, g⟩).run P W = .ok (.value v) W
def w32 (a : UInt32) : Value := .int .u32 (a.toNat : Int)
def w64 (a : UInt64) : Value := .int .u64 (a.toNat : Int)
abbrev w8 (a : UInt8) : Value := .int .u8 (a.toNat : Int)
def sr32 (a : UInt32) (j : Int) : UInt32 := a >>> UInt32.ofNat j.toNat
def sl32 (a : UInt32) (j : Int) : UInt32 := a <<< UInt32.ofNat j.toNat
def sr64 (a : UInt64) (j : Int) : UInt64 := a >>> UInt64.ofNat j.toNat
theorem wrap32 (x : Int) : IntKind.u32.wrap x = x % 4294967296 := by simp [IntKind.wrap, IntKind.signed, IntKind.bits]
theorem wrap64u (x : Int) : IntKind.u64.wrap x = x % 18446744073709551616 := by simp [IntKind.wrap, IntKind.signed, IntKind.bits]
theorem wrap8 (x : Int) : IntKind.u8.wrap x = x % 256 := by simp [IntKind.wrap, IntKind.signed, IntKind.bits]
theorem of32 (a : UInt32) : BitVec.ofInt 32 (a.toNat : Int) = a.toBitVec := by
  rw [BitVec.ofInt_natCast]; apply BitVec.eq_of_toNat_eq; simp [Nat.mod_eq_of_lt a.toNat_lt]
theorem bits32 (x : BitVec 32) : IntKind.u32.wrap (x.toNat : Int) = ((UInt32.ofBitVec x).toNat : Int) := by
  rw [wrap32]
  have := x.isLt
  show ((x.toNat : Int)) % 4294967296 = (x.toNat : Int)
  omega
section
variable {P : Program} {n : Nat} {C : Cx} {k : List Item} {env : Env} {L : Own} {I : Imm} {ops : Array Oper} {i : Nat} {l : List Oper} {S : World → Prop}
variable {ty : TypeId} {ps : String} {af : Array Edge} {g : Option (Nat × Bool)} {d : Nat}
theorem Ops.ev {op : Op} {v : Value} (h : Ev P n env op v) (hg : want env ops g = some true) (hd : d < n) (next : Ops P n C ops (i + 1) l k ((d, v) :: env) L I) : Ops P n C ops i (⟨some d, op, ty, ps, af, g⟩ :: l) k env L I :=
  Ops.val hg (dOk hd) (fun a W he _ => h a W he _ _ _ _ _) next
theorem Yld.ev {op : Op} {v : Value} (h : Ev P n env op v) (hg : want env ops g = some true) : Yld P n env ops S ⟨some d, op, ty, ps, af, g⟩ v := .inl ⟨hg, fun a W he _ => h a W he _ _ _ _ _⟩
theorem Ev.yv {op : Op} {v : Value} (h : Ev P n env op v) : Yv P n env S op v := fun a W he _ dst ty ps af g => h a W he dst ty ps af g
theorem QD.e {D : List (Option Nat)} {Z : Env → Prop} {m : List Bool} {r : List Oper} {op : Op} {v : Value} (h : Ev P n env op v) (hd : d < n) (hg : wantD env D g = some true) (next : QD P n C D L I Z m r ((d, v) :: env)) : QD P n C D L I Z (true :: m) (⟨some d, op, ty, ps, af, g⟩ :: r) env :=
  QD.yv hd hg h.yv next
theorem Ev.as {op : Op} {v v' : Value} (h : Ev P n env op v) (e : v = v') : Ev P n env op v' := e ▸ h
variable {x y : Operand} {t t' : TypeId}
theorem Ev.of2 {op : BinOp} {v u r : Value} (hx : opnd env x = some v) (hy : opnd env y = some u) (h : ∀ W, (eqGuard op t x y v u).run P W = .ok () W) (h2 : ∀ W, (binOp op t v u).run P W = .ok r W) : Ev P n env (.binOp op t x y t') r :=
  fun a W he _ _ _ _ _ => by simp [execOp, eval_opnd he hx, eval_opnd he hy, h, h2]
section
variable {a b : UInt32}
theorem Ev.add32 (hx : opnd env x = some (w32 a)) (hy : opnd env y = some (w32 b)) : Ev P n env (.binOp .add t x y t') (w32 (a + b)) :=
  Ev.of2 hx hy (fun _ => run_eqGuard_int ..) fun W => by
    have : IntKind.u32.wrap ((a.toNat : Int) + (b.toNat : Int)) = ((a + b).toNat : Int) := by rw [wrap32, UInt32.toNat_add]; omega
    simp [w32, binOp, Op.intArith, this]
theorem Ev.and32 (hx : opnd env x = some (w32 a)) (hy : opnd env y = some (w32 b)) : Ev P n env (.binOp .and t x y t') (w32 (a &&& b)) :=
  Ev.of2 hx hy (fun _ => run_eqGuard_int ..) fun W => by
    have e : Op.intBits .and .u32 (a.toNat : Int) (b.toNat : Int) = pure (.int .u32 (IntKind.u32.wrap (((BitVec.ofInt 32 (a.toNat : Int)) &&& (BitVec.ofInt 32 (b.toNat : Int)) : BitVec 32).toNat : Int))) := rfl
    rw [of32, of32, bits32] at e
    simp only [w32, binOp, e]
    rfl
theorem Ev.or32 (hx : opnd env x = some (w32 a)) (hy : opnd env y = some (w32 b)) : Ev P n env (.binOp .or t x y t') (w32 (a ||| b)) :=
  Ev.of2 hx hy (fun _ => run_eqGuard_int ..) fun W => by
    have e : Op.intBits .or .u32 (a.toNat : Int) (b.toNat : Int) = pure (.int .u32 (IntKind.u32.wrap (((BitVec.ofInt 32 (a.toNat : Int)) ||| (BitVec.ofInt 32 (b.toNat : Int)) : BitVec 32).toNat : Int))) := rfl
    rw [of32, of32, bits32] at e
    simp only [w32, binOp, e]
    rfl
theorem Ev.xor32 (hx : opnd env x = some (w32 a)) (hy : opnd env y = some (w32 b)) : Ev P n env (.binOp .xor t x y t') (w32 (a ^^^ b)) :=
  Ev.of2 hx hy (fun _ => run_eqGuard_int ..) fun W => by
    have e : Op.intBits .xor .u32 (a.toNat : Int) (b.toNat : Int) = pure (.int .u32 (IntKind.u32.wrap (((BitVec.ofInt 32 (a.toNat : Int)) ^^^ (BitVec.ofInt 32 (b.toNat : Int)) : BitVec 32).toNat : Int))) := rfl
    rw [of32, of32, bits32] at e
    simp only [w32, binOp, e]
    rfl
theorem Ev.not32 (hx : opnd env x = some (w32 a)) : Ev P n env (.unOp .xor t x) (w32 (~~~a)) :=
  fun c W he _ _ _ _ _ => by
    have e1 : BitVec.ofInt 32 4294967295 ^^^ a.toBitVec = ~~~a.toBitVec := by
      have : BitVec.ofInt 32 4294967295 = BitVec.allOnes 32 := by decide
      rw [this, BitVec.allOnes_xor]
    have e2 : Op.unary .xor (.int .u32 (a.toNat : Int)) = pure (.int .u32 (IntKind.u32.wrap (((BitVec.ofInt 32 4294967295) ^^^ (BitVec.ofInt 32 (a.toNat : Int)) : BitVec 32).toNat : Int))) := rfl
    rw [of32, e1, bits32] at e2
    have e3 : (execOp c.eval ⟨‹Option Tmp›, .unOp .xor t x, ‹TypeId›, ‹String›, ‹Array Edge›, ‹Option (Nat × Bool)›⟩) = (Op.unary .xor (c.eval x) >>= fun v => pure (.value v)) := rfl
    rw [e3, eval_opnd he hx]
    simp only [w32, e2]
    rfl
theorem Ev.shl32 {kd : IntKind} {j : Int} (hx : opnd env x = some (w32 a)) (hy : opnd env y = some (.int kd j)) (h0 : 0 ≤ j) (h1 : j < 32) : Ev P n env (.binOp .shl t x y t') (w32 (sl32 a j)) :=
  Ev.of2 hx hy (fun _ => run_eqGuard_int ..) fun W => by
    have hm : min j.toNat 32 = j.toNat := by omega
    have hj : j.toNat % 4294967296 = j.toNat := Nat.mod_eq_of_lt (by omega)
    have hj2 : j.toNat % 32 = j.toNat := Nat.mod_eq_of_lt (by omega)
    have : IntKind.u32.wrap ((a.toNat : Int) * 2 ^ j.toNat) = ((sl32 a j).toNat : Int) := by
      rw [wrap32, sl32, UInt32.toNat_shiftLeft, UInt32.toNat_ofNat', hj, hj2, Nat.shiftLeft_eq]
      simp
    simp [w32, binOp, Op.shift, IntKind.bits, hm, this, Int.not_lt.2 h0]
theorem Ev.shr32 {kd : IntKind} {j : Int} (hx : opnd env x = some (w32 a)) (hy : opnd env y = some (.int kd j)) (h0 : 0 ≤ j) (h1 : j < 32) : Ev P n env (.binOp .shr t x y t') (w32 (sr32 a j)) :=
  Ev.of2 hx hy (fun _ => run_eqGuard_int ..) fun W => by
    have hm : min j.toNat 32 = j.toNat := by omega
    have hj : j.toNat % 4294967296 = j.toNat := Nat.mod_eq_of_lt (by omega)
    have hj2 : j.toNat % 32 = j.toNat := Nat.mod_eq_of_lt (by omega)
    have : (a.toNat : Int).fdiv (2 ^ j.toNat) = ((sr32 a j).toNat : Int) := by
      rw [sr32, UInt32.toNat_shiftRight, UInt32.toNat_ofNat', hj, hj2, Nat.shiftRight_eq_div_pow, Int.fdiv_eq_ediv_of_nonneg _ (by exact Int.pow_nonneg (by decide))]
      simp
    have e : Op.shift .shr .u32 (a.toNat : Int) kd j = pure (.int .u32 ((a.toNat : Int).fdiv (2 ^ min j.toNat 32))) := by unfold Op.shift; rw [if_neg (Int.not_lt.2 h0)]; rfl
    rw [hm, this] at e
    simp only [w32, binOp, e]
    rfl
end
section
variable {a b : UInt64}
theorem Ev.add64 (hx : opnd env x = some (w64 a)) (hy : opnd env y = some (w64 b)) : Ev P n env (.binOp .add t x y t') (w64 (a + b)) :=
  Ev.of2 hx hy (fun _ => run_eqGuard_int ..) fun W => by
    have : IntKind.u64.wrap ((a.toNat : Int) + (b.toNat : Int)) = ((a + b).toNat : Int) := by rw [wrap64u, UInt64.toNat_add]; omega
    simp [w64, binOp, Op.intArith, this]
theorem Ev.mul64c {j : Int} (hx : opnd env x = some (w64 a)) (hy : opnd env y = some (.int .u64 j)) (h0 : 0 ≤ j) : Ev P n env (.binOp .mul t x y t') (w64 (a * UInt64.ofNat j.toNat)) :=
  Ev.of2 hx hy (fun _ => run_eqGuard_int ..) fun W => by
    have : IntKind.u64.wrap ((a.toNat : Int) * j) = ((a * UInt64.ofNat j.toNat).toNat : Int) := by
      rw [wrap64u, UInt64.toNat_mul, UInt64.toNat_ofNat']
      obtain ⟨m, rfl⟩ := Int.eq_ofNat_of_zero_le h0
      simp
    simp [w64, binOp, Op.intArith, this]
theorem Ev.shr64 {kd : IntKind} {j : Int} (hx : opnd env x = some (w64 a)) (hy : opnd env y = some (.int kd j)) (h0 : 0 ≤ j) (h1 : j < 64) : Ev P n env (.binOp .shr t x y t') (w64 (sr64 a j)) :=
  Ev.of2 hx hy (fun _ => run_eqGuard_int ..) fun W => by
    have hm : min j.toNat 64 = j.toNat := by omega
    have hj : j.toNat % 18446744073709551616 = j.toNat := Nat.mod_eq_of_lt (by omega)
    have hj2 : j.toNat % 64 = j.toNat := Nat.mod_eq_of_lt (by omega)
    have : (a.toNat : Int).fdiv (2 ^ j.toNat) = ((sr64 a j).toNat : Int) := by
      rw [sr64, UInt64.toNat_shiftRight, UInt64.toNat_ofNat', hj, hj2, Nat.shiftRight_eq_div_pow, Int.fdiv_eq_ediv_of_nonneg _ (by exact Int.pow_nonneg (by decide))]
      simp
    have e : Op.shift .shr .u64 (a.toNat : Int) kd j = pure (.int .u64 ((a.toNat : Int).fdiv (2 ^ min j.toNat 64))) := by unfold Op.shift; rw [if_neg (Int.not_lt.2 h0)]; rfl
    rw [hm, this] at e
    simp only [w64, binOp, e]
    rfl
end
theorem Ev.conv {src dst : TypeId} {ks kd : IntKind} {a r : Int} (T : Tab P) (hs : T.und src = some (.int ks)) (ht : T.und dst = some (.int kd)) (hx : opnd env x = some (.int ks a)) (hr : kd.wrap a = r) : Ev P n env (.convert src dst x) (.int kd r) :=
  fun c W he _ _ _ _ _ => by
    subst hr
    simp [execOp, eval_opnd he hx, convert, T.undOk hs, T.undOk ht, Conv.intToInt]
theorem Ev.c8_32 {src dst : TypeId} {a : UInt8} (T : Tab P) (hs : T.und src = some (.int .u8)) (ht : T.und dst = some (.int .u32)) (hx : opnd env x = some (w8 a)) : Ev P n env (.convert src dst x) (w32 a.toUInt32) :=
  Ev.conv T hs ht hx (by rw [wrap32]; have := a.toNat_lt; simp; omega)
theorem Ev.c32_8 {src dst : TypeId} {a : UInt32} (T : Tab P) (hs : T.und src = some (.int .u32)) (ht : T.und dst = some (.int .u8)) (hx : opnd env x = some (w32 a)) : Ev P n env (.convert src dst x) (w8 a.toUInt8) :=
  Ev.conv T hs ht hx (by rw [wrap8]; simp)
theorem Ev.c64_8 {src dst : TypeId} {a : UInt64} (T : Tab P) (hs : T.und src = some (.int .u64)) (ht : T.und dst = some (.int .u8)) (hx : opnd env x = some (w64 a)) : Ev P n env (.convert src dst x) (w8 a.toUInt8) :=
  Ev.conv T hs ht hx (by rw [wrap8]; simp)
theorem Ev.c64_32 {src dst : TypeId} {a : UInt64} (T : Tab P) (hs : T.und src = some (.int .u64)) (ht : T.und dst = some (.int .u32)) (hx : opnd env x = some (w64 a)) : Ev P n env (.convert src dst x) (w32 a.toUInt32) :=
  Ev.conv T hs ht hx (by rw [wrap32]; simp)
theorem Ev.cn_64 {src dst : TypeId} {m : Nat} (T : Tab P) (hs : T.und src = some (.int .i64)) (ht : T.und dst = some (.int .u64)) (hx : opnd env x = some (.int .i64 (m : Int))) : Ev P n env (.convert src dst x) (w64 (UInt64.ofNat m)) :=
  Ev.conv T hs ht hx (by rw [wrap64u, UInt64.toNat_ofNat']; simp)
theorem Ev.indexA {ts e : TypeId} {ix : Operand} {kd : IntKind} {j : Int} {len : Nat} {cs : List Value} {v : Value} (T : Tab P) (hu : T.und ts = some (.array len e)) (ha : T.agg e = some false) (hz : T.size e = some 1) (hx : opnd env x = some (.agg cs.toArray)) (hi : opnd env ix = some (.int kd j))
    (h0 : 0 ≤ j) (h1 : j < len) (hv : cs[j.toNat]? = some v) : Ev P n env (.index ts x ix) v :=
  fun c W he _ _ _ _ _ => by
    simp [execOp, Instr.index, eval_opnd he hx, eval_opnd he hi, asIntOf, T.undOk hu, T.sizeOk hz, h0, h1, part, T.aggOk ha, hv]
theorem Ev.indexP {ts e : TypeId} {ix : Operand} {kd : IntKind} {j : Int} {len b off size : Nat} (T : Tab P) (hu : T.und ts = some (.array len e)) (hz : T.size e = some size) (hx : opnd env x = some (.pointer (some ⟨b, off, none⟩))) (hi : opnd env ix = some (.int kd j))
    (h0 : 0 ≤ j) (h1 : j < len) : Ev P n env (.indexAddr ts x ix) (.pointer (some ⟨b, off + j.toNat * size, none⟩)) :=
  fun c W he _ _ _ _ _ => by
    simp [execOp, Instr.indexAt, Instr.sureAddr, eval_opnd he hx, eval_opnd he hi, asIntOf, T.undOk hu, T.sizeOk hz, h0, h1, add_off]
theorem Ev.indexS {ts e : TypeId} {ix : Operand} {kd : IntKind} {j : Int} {len c b off size : Nat} (T : Tab P) (hu : T.und ts = some (.slice e)) (hz : T.size e = some size) (hx : opnd env x = some (.slice (some ⟨b, off, none⟩) len c)) (hi : opnd env ix = some (.int kd j))
    (h0 : 0 ≤ j) (h1 : j < len) : Ev P n env (.indexAddr ts x ix) (.pointer (some ⟨b, off + j.toNat * size, none⟩)) :=
  fun c W he _ _ _ _ _ => by
    simp [execOp, Instr.indexAt, eval_opnd he hx, eval_opnd he hi, asIntOf, T.undOk hu, T.sizeOk hz, h0, h1, add_off]
/-- x[i] of a text -/
theorem Ev.indexT {ts : TypeId} {ix : Operand} {kd : IntKind} {j : Int} {s : List UInt8} (T : Tab P) (hu : T.und ts = some .string) (hx : opnd env x = some (str s)) (hi : opnd env ix = some (.int kd j)) (h0 : 0 ≤ j) (h1 : j < s.length) :
    Ev P n env (.index ts x ix) (w8 (s.getD j.toNat 0)) :=
  fun c W he _ _ _ _ _ => by
    have hj : j.toNat < s.length := by omega
    have : (⟨s.toArray⟩ : ByteArray)[j.toNat]? = some (s.getD j.toNat 0) := by
      rw [getElem?_pos (⟨s.toArray⟩ : ByteArray) j.toNat (by rw [str_size]; exact hj)]
      simp [List.getD_eq_getElem?_getD, hj, ByteArray.getElem_eq_getElem_data]
    simp [execOp, Instr.index, eval_opnd he hx, eval_opnd he hi, asIntOf, T.undOk hu, str, h0, this]
/-- an array of which each element is given -/
theorem Ev.buildArr {ta e : TypeId} {len : Nat} {xs : List (Nat × Operand)} {ps' : List (Nat × Value)} {z : Value} {cs : List Value} (T : Tab P) (hu : T.und ta = some (.array len e)) (hz : T.zero ta = some z) (hs : T.size e = some 1) (hx : parts env xs = some ps')
    (hi : ps'.map Prod.fst = List.range' 0 ps'.length) (hsz : z.cells.size = ps'.length) (h1 : (ps'.all fun p => p.2.cells.size == 1) = true) (hcs : (ps'.map Prod.snd).flatMap (fun v => v.cells.toList) = cs) : Ev P n env (.build ta xs.toArray) (.agg cs.toArray) :=
  fun a W he _ _ _ _ _ => by
    have h2 := parts_spec he hx
    have hmap : (List.map (fun (x : Nat × Operand) => match x with | (i, x) => (i, a.eval x)) xs) = ps' := h2
    have h := Great.fill_whole (s := 1) (by decide) (ps'.map Prod.snd) z.cells (fun v hv => by
      obtain ⟨p, hp, rfl⟩ := List.mem_map.1 hv
      simpa using List.all_eq_true.1 h1 p hp) (by simp [hsz])
    rw [zip_enum ps' 0 (by simpa using hi), hcs] at h
    have hb : (Instr.build ta ps'.toArray).run P W = .ok (.agg cs.toArray) W := by
      simp only [Instr.build, Sem.run_bind, T.zeroOk hz, T.undOk hu, T.sizeOk hs, Result.andThen_ok, h]
      rfl
    simp only [execOp, List.map_toArray, hmap, Sem.run_bind, hb, Result.andThen_ok]
    rfl
/-! whole numbers with a sign -/
section
variable {kd : IntKind} {a b r : Int}
theorem Ev.addI (hx : opnd env x = some (.int kd a)) (hy : opnd env y = some (.int kd b)) (hr : kd.wrap (a + b) = r) : Ev P n env (.binOp .add t x y t') (.int kd r) :=
  Ev.of2 hx hy (fun _ => run_eqGuard_int ..) fun W => by subst hr; simp [binOp, Op.intArith]
theorem Ev.subI (hx : opnd env x = some (.int kd a)) (hy : opnd env y = some (.int kd b)) (hr : kd.wrap (a - b) = r) : Ev P n env (.binOp .sub t x y t') (.int kd r) :=
  Ev.of2 hx hy (fun _ => run_eqGuard_int ..) fun W => by subst hr; simp [binOp, Op.intArith]
theorem Ev.mulI (hx : opnd env x = some (.int kd a)) (hy : opnd env y = some (.int kd b)) (hr : kd.wrap (a * b) = r) : Ev P n env (.binOp .mul t x y t') (.int kd r) :=
  Ev.of2 hx hy (fun _ => run_eqGuard_int ..) fun W => by subst hr; simp [binOp, Op.intArith]
theorem Ev.quoI (hx : opnd env x = some (.int kd a)) (hy : opnd env y = some (.int kd b)) (hb : b ≠ 0) (hr : kd.wrap (a.tdiv b) = r) : Ev P n env (.binOp .quo t x y t') (.int kd r) :=
  Ev.of2 hx hy (fun _ => run_eqGuard_int ..) fun W => by subst hr; simp [binOp, Op.intDiv, hb]
theorem Ev.remI (hx : opnd env x = some (.int kd a)) (hy : opnd env y = some (.int kd b)) (hb : b ≠ 0) (hr : a.tmod b = r) : Ev P n env (.binOp .rem t x y t') (.int kd r) :=
  Ev.of2 hx hy (fun _ => run_eqGuard_int ..) fun W => by subst hr; simp [binOp, Op.intDiv, hb]
theorem Ev.lss (hx : opnd env x = some (.int kd a)) (hy : opnd env y = some (.int kd b)) : Ev P n env (.binOp .lss t x y t') (.bool (decide (a < b))) := Ev.of2 hx hy (fun _ => run_eqGuard_int ..) fun W => by simp [binOp, Op.intCmp]
theorem Ev.leq (hx : opnd env x = some (.int kd a)) (hy : opnd env y = some (.int kd b)) : Ev P n env (.binOp .leq t x y t') (.bool (decide (a ≤ b))) := Ev.of2 hx hy (fun _ => run_eqGuard_int ..) fun W => by simp [binOp, Op.intCmp]
theorem Ev.gtr (hx : opnd env x = some (.int kd a)) (hy : opnd env y = some (.int kd b)) : Ev P n env (.binOp .gtr t x y t') (.bool (decide (b < a))) := Ev.of2 hx hy (fun _ => run_eqGuard_int ..) fun W => by simp [binOp, Op.intCmp]
theorem Ev.geq (hx : opnd env x = some (.int kd a)) (hy : opnd env y = some (.int kd b)) : Ev P n env (.binOp .geq t x y t') (.bool (decide (b ≤ a))) := Ev.of2 hx hy (fun _ => run_eqGuard_int ..) fun W => by simp [binOp, Op.intCmp]
theorem Ev.eqlI (hx : opnd env x = some (.int kd a)) (hy : opnd env y = some (.int kd b)) : Ev P n env (.binOp .eql t x y t') (.bool (decide (a = b))) := Ev.of2 hx hy (fun _ => run_eqGuard_int ..) fun W => by simp [binOp, Op.intCmp]; rfl
theorem Ev.neqI (hx : opnd env x = some (.int kd a)) (hy : opnd env y = some (.int kd b)) : Ev P n env (.binOp .neq t x y t') (.bool (!decide (a = b))) := Ev.of2 hx hy (fun _ => run_eqGuard_int ..) fun W => by simp [binOp, Op.intCmp]; rfl
theorem Ev.min2 {ts : Array TypeId} (hx : opnd env x = some (.int kd a)) (hy : opnd env y = some (.int kd b)) : Ev P n env (.call ⟨.builtin .min, #[x, y], ts⟩) (.int kd (if b < a then b else a)) :=
  fun c W he dst ty ps af g => by
    simp [execOp, resolve, Go.invoke, builtin, eval_opnd he hx, eval_opnd he hy, Builtin.min_, Builtin.min2]
end
/-! texts -/
section
variable {s u : List UInt8}
theorem Ev.lenS {ts : TypeId} (T : Tab P) (hu : T.und ts = some .string) (hx : opnd env x = some (str s)) : Ev P n env (.call ⟨.builtin .len, #[x], #[ts]⟩) (.int .i64 s.length) :=
  fun a W he _ _ _ _ _ => by simp [execOp, resolve, invoke, builtin, Builtin.len_, eval_opnd he hx, T.undOk hu, str, goInt, str_size]
theorem Ev.catS (hx : opnd env x = some (str s)) (hy : opnd env y = some (str u)) (hlen : s.length + u.length ≤ 9223372036854775807) : Ev P n env (.binOp .add t x y t') (str (s ++ u)) :=
  Ev.of2 hx hy (fun _ => run_eqGuard_string ..) fun W => by simp [str, binOp, Op.stringOp, str_size, str_append]; omega
theorem Ev.cutS {ts : TypeId} {lo hi : Operand} {kd kd' : IntKind} {j q : Int} (T : Tab P) (hu : T.und ts = some .string) (hx : opnd env x = some (str s)) (hlo : opnd env lo = some (.int kd j)) (hhi : opnd env hi = some (.int kd' q)) (h0 : 0 ≤ j) (h1 : j ≤ q) (h2 : q ≤ s.length) :
    Ev P n env (.slice ts x (some lo) (some hi) none) (str ((s.take q.toNat).drop j.toNat)) :=
  fun a W he _ _ _ _ _ => by
    have hm := run_sliceBound (P := P) (v := .int kd' q) (y := s.length) (code := .sliceAlen) rfl (by omega) (by omega) W
    have hj := run_sliceBound (P := P) (v := .int kd j) (y := q.toNat) (code := .sliceB) rfl h0 (by omega) W
    simp [execOp, Instr.sliceAt, Instr.slice, Instr.sliceBounds, eval_opnd he hx, eval_opnd he hlo, eval_opnd he hhi, T.undOk hu, str, str_size, hm, hj, str_extract]
theorem Ev.cutSLo {ts : TypeId} {lo : Operand} {kd : IntKind} {j : Int} (T : Tab P) (hu : T.und ts = some .string) (hx : opnd env x = some (str s)) (hlo : opnd env lo = some (.int kd j)) (h0 : 0 ≤ j) (h1 : j ≤ s.length) :
    Ev P n env (.slice ts x (some lo) none none) (str (s.drop j.toNat)) :=
  fun a W he _ _ _ _ _ => by
    have hj := run_sliceBound (P := P) (v := .int kd j) (y := s.length) (code := .sliceB) rfl h0 (by omega) W
    have ht : s.take s.length = s := List.take_length
    simp [execOp, Instr.sliceAt, Instr.slice, Instr.sliceBounds, eval_opnd he hx, eval_opnd he hlo, T.undOk hu, str, str_size, hj, str_extract, ht]
theorem Ev.cutSHi {ts : TypeId} {hi : Operand} {kd : IntKind} {q : Int} (T : Tab P) (hu : T.und ts = some .string) (hx : opnd env x = some (str s)) (hhi : opnd env hi = some (.int kd q)) (h0 : 0 ≤ q) (h1 : q ≤ s.length) :
    Ev P n env (.slice ts x none (some hi) none) (str (s.take q.toNat)) :=
  fun a W he _ _ _ _ _ => by
    have hm := run_sliceBound (P := P) (v := .int kd q) (y := s.length) (code := .sliceAlen) rfl (by omega) (by omega) W
    simp [execOp, Instr.sliceAt, Instr.slice, Instr.sliceBounds, eval_opnd he hx, eval_opnd he hhi, T.undOk hu, str, str_size, hm, str_extract]
end
theorem Ev.eqlNil {u : TypeDesc} {v z : Value} {r : Bool} (T : Tab P) (hu : T.und t = some u) (hz : nilOf u = some z) (hx : opnd env x = some v) (hv : isNilV v = some r) (hf : fitsNil u v = true) : Ev P n env (.binOp .eql t x (.const z) t') (.bool r) :=
  fun a W he _ _ _ _ _ => by
    have h1 := run_eqGuard_nil (op := .eql) (t := t) (x := x) (v := v) (z := z) (c := z) (P := P) hz W
    have h2 := run_equal_nil (P := P) (T.undOk hu) hz hv hf W
    have h3 : binOp .eql t v z = (Op.equal t v z >>= fun b => pure (.bool b)) := by
      cases v <;> simp [isNilV] at hv <;> rfl
    have hz2 : a.eval (.const z) = z := rfl
    simp only [execOp, eval_opnd he hx, hz2, Sem.run_bind, h1, Result.andThen_ok, h3, h2]
    rfl
theorem Ev.neqNil {u : TypeDesc} {v z : Value} {r : Bool} (T : Tab P) (hu : T.und t = some u) (hz : nilOf u = some z) (hx : opnd env x = some v) (hv : isNilV v = some r) (hf : fitsNil u v = true) : Ev P n env (.binOp .neq t x (.const z) t') (.bool (!r)) :=
  fun a W he _ _ _ _ _ => by
    have h1 := run_eqGuard_nil (op := .neq) (t := t) (x := x) (v := v) (z := z) (c := z) (P := P) hz W
    have h2 := run_equal_nil (P := P) (T.undOk hu) hz hv hf W
    have h3 : binOp .neq t v z = (Op.equal t v z >>= fun b => pure (.bool (!b))) := by
      cases v <;> simp [isNilV] at hv <;> rfl
    have hz2 : a.eval (.const z) = z := rfl
    simp only [execOp, eval_opnd he hx, hz2, Sem.run_bind, h1, Result.andThen_ok, h3, h2]
    rfl
theorem Ev.buildS {xs : List (Nat × Operand)} {vs : List (Nat × Value)} {pl : List (Nat × Nat)} {z : Array Value} {cs : List Value}
    (hb : ∀ w ps cells, Instr.fill (pl[·]?) z ps = some cells → (Instr.build t ps.toArray).run P w = .ok (.agg cells) w) (hx : parts env xs = some vs) (hf : fillL pl z.toList vs = some cs) : Ev P n env (.build t xs.toArray) (.agg cs.toArray) :=
  fun a W he _ _ _ _ _ => by
    have h := hb W vs cs.toArray (by simpa using fillL_ok pl vs z.toList cs hf)
    rw [← parts_spec he hx] at h
    simp only [execOp, List.map_toArray, Sem.run_bind]
    have hm : (List.map (fun (x : Nat × Operand) => match x with | (i, x) => (i, a.eval x)) xs) = xs.map (fun (p : Nat × Operand) => (p.1, a.eval p.2)) := rfl
    rw [hm, h]; rfl
end
end Go.V
/-
  Which type stands where in this seat's translation: by its own numbers. Written by gen_types.py.
-/
namespace Go.V
set_option linter.unusedVariables false
set_option maxRecDepth 100000
noncomputable def undL : List TypeDesc := [Proofs.Tryd.t0.desc, Proofs.Tryd.t1.desc, Proofs.Tryd.t2.desc, Proofs.Tryd.t3.desc, Proofs.Tryd.t4.desc, Proofs.Tryd.t5.desc, Proofs.Tryd.t5.desc, Proofs.Tryd.t7.desc, Proofs.Tryd.t7.desc, Proofs.Tryd.t9.desc, Proofs.Tryd.t9.desc, Proofs.Tryd.t9.desc, Proofs.Tryd.t12.desc, Proofs.Tryd.t13.desc, Proofs.Tryd.t13.desc, Proofs.Tryd.t15.desc, Proofs.Tryd.t16.desc, Proofs.Tryd.t17.desc, Proofs.Tryd.t18.desc, Proofs.Tryd.t18.desc, Proofs.Tryd.t20.desc, Proofs.Tryd.t21.desc, Proofs.Tryd.t22.desc, Proofs.Tryd.t23.desc, Proofs.Tryd.t23.desc, Proofs.Tryd.t25.desc, Proofs.Tryd.t26.desc, Proofs.Tryd.t27.desc, Proofs.Tryd.t28.desc, Proofs.Tryd.t29.desc, Proofs.Tryd.t30.desc, Proofs.Tryd.t31.desc, Proofs.Tryd.t32.desc, Proofs.Tryd.t33.desc, Proofs.Tryd.t34.desc, Proofs.Tryd.t35.desc, Proofs.Tryd.t36.desc, Proofs.Tryd.t37.desc, Proofs.Tryd.t23.desc, Proofs.Tryd.t39.desc, Proofs.Tryd.t39.desc, Proofs.Tryd.t41.desc, Proofs.Tryd.t42.desc, Proofs.Tryd.t43.desc, Proofs.Tryd.t44.desc, Proofs.Tryd.t45.desc, Proofs.Tryd.t45.desc, Proofs.Tryd.t47.desc, Proofs.Tryd.t47.desc, Proofs.Tryd.t49.desc, Proofs.Tryd.t50.desc, Proofs.Tryd.t51.desc, Proofs.Tryd.t52.desc, Proofs.Tryd.t53.desc, Proofs.Tryd.t54.desc, Proofs.Tryd.t55.desc, Proofs.Tryd.t56.desc, Proofs.Tryd.t57.desc, Proofs.Tryd.t58.desc, Proofs.Tryd.t59.desc, Proofs.Tryd.t60.desc, Proofs.Tryd.t61.desc, Proofs.Tryd.t62.desc, Proofs.Tryd.t63.desc, Proofs.Tryd.t64.desc, Proofs.Tryd.t65.desc, Proofs.Tryd.t66.desc, Proofs.Tryd.t67.desc, Proofs.Tryd.t68.desc, Proofs.Tryd.t68.desc, Proofs.Tryd.t70.desc, Proofs.Tryd.t71.desc, Proofs.Tryd.t72.desc, Proofs.Tryd.t73.desc, Proofs.Tryd.t74.desc, Proofs.Tryd.t75.desc, Proofs.Tryd.t76.desc, Proofs.Tryd.t76.desc, Proofs.Tryd.t78.desc, Proofs.Tryd.t79.desc, Proofs.Tryd.t80.desc, Proofs.Tryd.t81.desc, Proofs.Tryd.t82.desc, Proofs.Tryd.t83.desc, Proofs.Tryd.t84.desc, Proofs.Tryd.t85.desc, Proofs.Tryd.t86.desc, Proofs.Tryd.t87.desc, Proofs.Tryd.t88.desc, Proofs.Tryd.t88.desc, Proofs.Tryd.t90.desc, Proofs.Tryd.t90.desc, Proofs.Tryd.t92.desc, Proofs.Tryd.t93.desc, Proofs.Tryd.t94.desc, Proofs.Tryd.t95.desc, Proofs.Tryd.t96.desc, Proofs.Tryd.t97.desc, Proofs.Tryd.t98.desc, Proofs.Tryd.t98.desc, Proofs.Tryd.t100.desc, Proofs.Tryd.t101.desc, Proofs.Tryd.t101.desc, Proofs.Tryd.t103.desc, Proofs.Tryd.t104.desc, Proofs.Tryd.t105.desc, Proofs.Tryd.t105.desc, Proofs.Tryd.t107.desc, Proofs.Tryd.t108.desc, Proofs.Tryd.t9.desc, Proofs.Tryd.t110.desc, Proofs.Tryd.t111.desc, Proofs.Tryd.t112.desc, Proofs.Tryd.t112.desc, Proofs.Tryd.t114.desc, Proofs.Tryd.t115.desc, Proofs.Tryd.t115.desc, Proofs.Tryd.t117.desc, Proofs.Tryd.t118.desc, Proofs.Tryd.t119.desc, Proofs.Tryd.t119.desc, Proofs.Tryd.t121.desc, Proofs.Tryd.t122.desc, Proofs.Tryd.t123.desc, Proofs.Tryd.t124.desc, Proofs.Tryd.t125.desc, Proofs.Tryd.t125.desc, Proofs.Tryd.t127.desc, Proofs.Tryd.t128.desc, Proofs.Tryd.t129.desc, Proofs.Tryd.t130.desc, Proofs.Tryd.t131.desc, Proofs.Tryd.t131.desc, Proofs.Tryd.t133.desc, Proofs.Tryd.t134.desc, Proofs.Tryd.t135.desc, Proofs.Tryd.t136.desc, Proofs.Tryd.t137.desc, Proofs.Tryd.t138.desc, Proofs.Tryd.t139.desc, Proofs.Tryd.t140.desc, Proofs.Tryd.t140.desc, Proofs.Tryd.t142.desc, Proofs.Tryd.t143.desc, Proofs.Tryd.t144.desc, Proofs.Tryd.t145.desc, Proofs.Tryd.t146.desc, Proofs.Tryd.t147.desc, Proofs.Tryd.t147.desc, Proofs.Tryd.t149.desc, Proofs.Tryd.t150.desc, Proofs.Tryd.t150.desc, Proofs.Tryd.t152.desc, Proofs.Tryd.t153.desc, Proofs.Tryd.t153.desc, Proofs.Tryd.t155.desc, Proofs.Tryd.t5.desc, Proofs.Tryd.t5.desc, Proofs.Tryd.t158.desc, Proofs.Tryd.t159.desc, Proofs.Tryd.t21.desc, Proofs.Tryd.t21.desc, Proofs.Tryd.t162.desc, Proofs.Tryd.t162.desc, Proofs.Tryd.t164.desc, Proofs.Tryd.t165.desc, Proofs.Tryd.t166.desc, Proofs.Tryd.t166.desc, Proofs.Tryd.t168.desc, Proofs.Tryd.t169.desc, Proofs.Tryd.t170.desc, Proofs.Tryd.t9.desc, Proofs.Tryd.t172.desc, Proofs.Tryd.t173.desc, Proofs.Tryd.t174.desc, Proofs.Tryd.t175.desc, Proofs.Tryd.t176.desc, Proofs.Tryd.t177.desc, Proofs.Tryd.t178.desc, Proofs.Tryd.t179.desc, Proofs.Tryd.t180.desc, Proofs.Tryd.t181.desc]
noncomputable def tiL : List TypeInfo := [Proofs.Tryd.t0, Proofs.Tryd.t1, Proofs.Tryd.t2, Proofs.Tryd.t3, Proofs.Tryd.t4, Proofs.Tryd.t5, Proofs.Tryd.t6, Proofs.Tryd.t7, Proofs.Tryd.t8, Proofs.Tryd.t9, Proofs.Tryd.t10, Proofs.Tryd.t11, Proofs.Tryd.t12, Proofs.Tryd.t13, Proofs.Tryd.t14, Proofs.Tryd.t15, Proofs.Tryd.t16, Proofs.Tryd.t17, Proofs.Tryd.t18, Proofs.Tryd.t19, Proofs.Tryd.t20, Proofs.Tryd.t21, Proofs.Tryd.t22, Proofs.Tryd.t23, Proofs.Tryd.t24, Proofs.Tryd.t25, Proofs.Tryd.t26, Proofs.Tryd.t27, Proofs.Tryd.t28, Proofs.Tryd.t29, Proofs.Tryd.t30, Proofs.Tryd.t31, Proofs.Tryd.t32, Proofs.Tryd.t33, Proofs.Tryd.t34, Proofs.Tryd.t35, Proofs.Tryd.t36, Proofs.Tryd.t37, Proofs.Tryd.t38, Proofs.Tryd.t39, Proofs.Tryd.t40, Proofs.Tryd.t41, Proofs.Tryd.t42, Proofs.Tryd.t43, Proofs.Tryd.t44, Proofs.Tryd.t45, Proofs.Tryd.t46, Proofs.Tryd.t47, Proofs.Tryd.t48, Proofs.Tryd.t49, Proofs.Tryd.t50, Proofs.Tryd.t51, Proofs.Tryd.t52, Proofs.Tryd.t53, Proofs.Tryd.t54, Proofs.Tryd.t55, Proofs.Tryd.t56, Proofs.Tryd.t57, Proofs.Tryd.t58, Proofs.Tryd.t59, Proofs.Tryd.t60, Proofs.Tryd.t61, Proofs.Tryd.t62, Proofs.Tryd.t63, Proofs.Tryd.t64, Proofs.Tryd.t65, Proofs.Tryd.t66, Proofs.Tryd.t67, Proofs.Tryd.t68, Proofs.Tryd.t69, Proofs.Tryd.t70, Proofs.Tryd.t71, Proofs.Tryd.t72, Proofs.Tryd.t73, Proofs.Tryd.t74, Proofs.Tryd.t75, Proofs.Tryd.t76, Proofs.Tryd.t77, Proofs.Tryd.t78, Proofs.Tryd.t79, Proofs.Tryd.t80, Proofs.Tryd.t81, Proofs.Tryd.t82, Proofs.Tryd.t83, Proofs.Tryd.t84, Proofs.Tryd.t85, Proofs.Tryd.t86, Proofs.Tryd.t87, Proofs.Tryd.t88, Proofs.Tryd.t89, Proofs.Tryd.t90, Proofs.Tryd.t91, Proofs.Tryd.t92, Proofs.Tryd.t93, Proofs.Tryd.t94, Proofs.Tryd.t95, Proofs.Tryd.t96, Proofs.Tryd.t97, Proofs.Tryd.t98, Proofs.Tryd.t99, Proofs.Tryd.t100, Proofs.Tryd.t101, Proofs.Tryd.t102, Proofs.Tryd.t103, Proofs.Tryd.t104, Proofs.Tryd.t105, Proofs.Tryd.t106, Proofs.Tryd.t107, Proofs.Tryd.t108, Proofs.Tryd.t109, Proofs.Tryd.t110, Proofs.Tryd.t111, Proofs.Tryd.t112, Proofs.Tryd.t113, Proofs.Tryd.t114, Proofs.Tryd.t115, Proofs.Tryd.t116, Proofs.Tryd.t117, Proofs.Tryd.t118, Proofs.Tryd.t119, Proofs.Tryd.t120, Proofs.Tryd.t121, Proofs.Tryd.t122, Proofs.Tryd.t123, Proofs.Tryd.t124, Proofs.Tryd.t125, Proofs.Tryd.t126, Proofs.Tryd.t127, Proofs.Tryd.t128, Proofs.Tryd.t129, Proofs.Tryd.t130, Proofs.Tryd.t131, Proofs.Tryd.t132, Proofs.Tryd.t133, Proofs.Tryd.t134, Proofs.Tryd.t135, Proofs.Tryd.t136, Proofs.Tryd.t137, Proofs.Tryd.t138, Proofs.Tryd.t139, Proofs.Tryd.t140, Proofs.Tryd.t141, Proofs.Tryd.t142, Proofs.Tryd.t143, Proofs.Tryd.t144, Proofs.Tryd.t145, Proofs.Tryd.t146, Proofs.Tryd.t147, Proofs.Tryd.t148, Proofs.Tryd.t149, Proofs.Tryd.t150, Proofs.Tryd.t151, Proofs.Tryd.t152, Proofs.Tryd.t153, Proofs.Tryd.t154, Proofs.Tryd.t155, Proofs.Tryd.t156, Proofs.Tryd.t157, Proofs.Tryd.t158, Proofs.Tryd.t159, Proofs.Tryd.t160, Proofs.Tryd.t161, Proofs.Tryd.t162, Proofs.Tryd.t163, Proofs.Tryd.t164, Proofs.Tryd.t165, Proofs.Tryd.t166, Proofs.Tryd.t167, Proofs.Tryd.t168, Proofs.Tryd.t169, Proofs.Tryd.t170, Proofs.Tryd.t171, Proofs.Tryd.t172, Proofs.Tryd.t173, Proofs.Tryd.t174, Proofs.Tryd.t175, Proofs.Tryd.t176, Proofs.Tryd.t177, Proofs.Tryd.t178, Proofs.Tryd.t179, Proofs.Tryd.t180, Proofs.Tryd.t181]
def AllU (P : Program) : Nat → List TypeDesc → Prop
  | _, [] => True
  | i, u :: r => (∀ w, (underlying i).run P w = .ok u w) ∧ AllU P (i + 1) r
def AllI (P : Program) : Nat → List TypeInfo → Prop
  | _, [] => True
  | i, u :: r => (∀ w, (typeInfo i).run P w = .ok u w) ∧ AllI P (i + 1) r
theorem AllU.get {P : Program} : ∀ {l : List TypeDesc} {i t : Nat} {u : TypeDesc}, AllU P i l → l[t]? = some u → ∀ w, (underlying (i + t)).run P w = .ok u w
  | [], i, t, u, _, h => by simp at h
  | x :: r, i, 0, u, h, e => by simp at e; subst e; exact h.1
  | x :: r, i, t + 1, u, h, e => by
    have := AllU.get h.2 (t := t) (by simpa using e)
    rwa [show i + 1 + t = i + (t + 1) by omega] at this
theorem AllI.get {P : Program} : ∀ {l : List TypeInfo} {i t : Nat} {u : TypeInfo}, AllI P i l → l[t]? = some u → ∀ w, (typeInfo (i + t)).run P w = .ok u w
  | [], i, t, u, _, h => by simp at h
  | x :: r, i, 0, u, h, e => by simp at e; subst e; exact h.1
  | x :: r, i, t + 1, u, h, e => by
    have := AllI.get h.2 (t := t) (by simpa using e)
    rwa [show i + 1 + t = i + (t + 1) by omega] at this
theorem undL_all : AllU Proofs.Tryd.prog 0 undL := ⟨Proofs.Tryd.runUnderlying0, Proofs.Tryd.runUnderlying1, Proofs.Tryd.runUnderlying2, Proofs.Tryd.runUnderlying3, Proofs.Tryd.runUnderlying4, Proofs.Tryd.runUnderlying5, Proofs.Tryd.runUnderlying6, Proofs.Tryd.runUnderlying7, Proofs.Tryd.runUnderlying8, Proofs.Tryd.runUnderlying9, Proofs.Tryd.runUnderlying10, Proofs.Tryd.runUnderlying11, Proofs.Tryd.runUnderlying12, Proofs.Tryd.runUnderlying13, Proofs.Tryd.runUnderlying14, Proofs.Tryd.runUnderlying15, Proofs.Tryd.runUnderlying16, Proofs.Tryd.runUnderlying17, Proofs.Tryd.runUnderlying18, Proofs.Tryd.runUnderlying19, Proofs.Tryd.runUnderlying20, Proofs.Tryd.runUnderlying21, Proofs.Tryd.runUnderlying22, Proofs.Tryd.runUnderlying23, Proofs.Tryd.runUnderlying24, Proofs.Tryd.runUnderlying25, Proofs.Tryd.runUnderlying26, Proofs.Tryd.runUnderlying27, Proofs.Tryd.runUnderlying28, Proofs.Tryd.runUnderlying29, Proofs.Tryd.runUnderlying30, Proofs.Tryd.runUnderlying31, Proofs.Tryd.runUnderlying32, Proofs.Tryd.runUnderlying33, Proofs.Tryd.runUnderlying34, Proofs.Tryd.runUnderlying35, Proofs.Tryd.runUnderlying36, Proofs.Tryd.runUnderlying37, Proofs.Tryd.runUnderlying38, Proofs.Tryd.runUnderlying39, Proofs.Tryd.runUnderlying40, Proofs.Tryd.runUnderlying41, Proofs.Tryd.runUnderlying42, Proofs.Tryd.runUnderlying43, Proofs.Tryd.runUnderlying44, Proofs.Tryd.runUnderlying45, Proofs.Tryd.runUnderlying46, Proofs.Tryd.runUnderlying47, Proofs.Tryd.runUnderlying48, Proofs.Tryd.runUnderlying49, Proofs.Tryd.runUnderlying50, Proofs.Tryd.runUnderlying51, Proofs.Tryd.runUnderlying52, Proofs.Tryd.runUnderlying53, Proofs.Tryd.runUnderlying54, Proofs.Tryd.runUnderlying55, Proofs.Tryd.runUnderlying56, Proofs.Tryd.runUnderlying57, Proofs.Tryd.runUnderlying58, Proofs.Tryd.runUnderlying59, Proofs.Tryd.runUnderlying60, Proofs.Tryd.runUnderlying61, Proofs.Tryd.runUnderlying62, Proofs.Tryd.runUnderlying63, Proofs.Tryd.runUnderlying64, Proofs.Tryd.runUnderlying65, Proofs.Tryd.runUnderlying66, Proofs.Tryd.runUnderlying67, Proofs.Tryd.runUnderlying68, Proofs.Tryd.runUnderlying69, Proofs.Tryd.runUnderlying70, Proofs.Tryd.runUnderlying71, Proofs.Tryd.runUnderlying72, Proofs.Tryd.runUnderlying73, Proofs.Tryd.runUnderlying74, Proofs.Tryd.runUnderlying75, Proofs.Tryd.runUnderlying76, Proofs.Tryd.runUnderlying77, Proofs.Tryd.runUnderlying78, Proofs.Tryd.runUnderlying79, Proofs.Tryd.runUnderlying80, Proofs.Tryd.runUnderlying81, Proofs.Tryd.runUnderlying82, Proofs.Tryd.runUnderlying83, Proofs.Tryd.runUnderlying84, Proofs.Tryd.runUnderlying85, Proofs.Tryd.runUnderlying86, Proofs.Tryd.runUnderlying87, Proofs.Tryd.runUnderlying88, Proofs.Tryd.runUnderlying89, Proofs.Tryd.runUnderlying90, Proofs.Tryd.runUnderlying91, Proofs.Tryd.runUnderlying92, Proofs.Tryd.runUnderlying93, Proofs.Tryd.runUnderlying94, Proofs.Tryd.runUnderlying95, Proofs.Tryd.runUnderlying96, Proofs.Tryd.runUnderlying97, Proofs.Tryd.runUnderlying98, Proofs.Tryd.runUnderlying99, Proofs.Tryd.runUnderlying100, Proofs.Tryd.runUnderlying101, Proofs.Tryd.runUnderlying102, Proofs.Tryd.runUnderlying103, Proofs.Tryd.runUnderlying104, Proofs.Tryd.runUnderlying105, Proofs.Tryd.runUnderlying106, Proofs.Tryd.runUnderlying107, Proofs.Tryd.runUnderlying108, Proofs.Tryd.runUnderlying109, Proofs.Tryd.runUnderlying110, Proofs.Tryd.runUnderlying111, Proofs.Tryd.runUnderlying112, Proofs.Tryd.runUnderlying113, Proofs.Tryd.runUnderlying114, Proofs.Tryd.runUnderlying115, Proofs.Tryd.runUnderlying116, Proofs.Tryd.runUnderlying117, Proofs.Tryd.runUnderlying118, Proofs.Tryd.runUnderlying119, Proofs.Tryd.runUnderlying120, Proofs.Tryd.runUnderlying121, Proofs.Tryd.runUnderlying122, Proofs.Tryd.runUnderlying123, Proofs.Tryd.runUnderlying124, Proofs.Tryd.runUnderlying125, Proofs.Tryd.runUnderlying126, Proofs.Tryd.runUnderlying127, Proofs.Tryd.runUnderlying128, Proofs.Tryd.runUnderlying129, Proofs.Tryd.runUnderlying130, Proofs.Tryd.runUnderlying131, Proofs.Tryd.runUnderlying132, Proofs.Tryd.runUnderlying133, Proofs.Tryd.runUnderlying134, Proofs.Tryd.runUnderlying135, Proofs.Tryd.runUnderlying136, Proofs.Tryd.runUnderlying137, Proofs.Tryd.runUnderlying138, Proofs.Tryd.runUnderlying139, Proofs.Tryd.runUnderlying140, Proofs.Tryd.runUnderlying141, Proofs.Tryd.runUnderlying142, Proofs.Tryd.runUnderlying143, Proofs.Tryd.runUnderlying144, Proofs.Tryd.runUnderlying145, Proofs.Tryd.runUnderlying146, Proofs.Tryd.runUnderlying147, Proofs.Tryd.runUnderlying148, Proofs.Tryd.runUnderlying149, Proofs.Tryd.runUnderlying150, Proofs.Tryd.runUnderlying151, Proofs.Tryd.runUnderlying152, Proofs.Tryd.runUnderlying153, Proofs.Tryd.runUnderlying154, Proofs.Tryd.runUnderlying155, Proofs.Tryd.runUnderlying156, Proofs.Tryd.runUnderlying157, Proofs.Tryd.runUnderlying158, Proofs.Tryd.runUnderlying159, Proofs.Tryd.runUnderlying160, Proofs.Tryd.runUnderlying161, Proofs.Tryd.runUnderlying162, Proofs.Tryd.runUnderlying163, Proofs.Tryd.runUnderlying164, Proofs.Tryd.runUnderlying165, Proofs.Tryd.runUnderlying166, Proofs.Tryd.runUnderlying167, Proofs.Tryd.runUnderlying168, Proofs.Tryd.runUnderlying169, Proofs.Tryd.runUnderlying170, Proofs.Tryd.runUnderlying171, Proofs.Tryd.runUnderlying172, Proofs.Tryd.runUnderlying173, Proofs.Tryd.runUnderlying174, Proofs.Tryd.runUnderlying175, Proofs.Tryd.runUnderlying176, Proofs.Tryd.runUnderlying177, Proofs.Tryd.runUnderlying178, Proofs.Tryd.runUnderlying179, Proofs.Tryd.runUnderlying180, Proofs.Tryd.runUnderlying181, trivial⟩
theorem tiL_all : AllI Proofs.Tryd.prog 0 tiL := ⟨Proofs.Tryd.typeInfo0, Proofs.Tryd.typeInfo1, Proofs.Tryd.typeInfo2, Proofs.Tryd.typeInfo3, Proofs.Tryd.typeInfo4, Proofs.Tryd.typeInfo5, Proofs.Tryd.typeInfo6, Proofs.Tryd.typeInfo7, Proofs.Tryd.typeInfo8, Proofs.Tryd.typeInfo9, Proofs.Tryd.typeInfo10, Proofs.Tryd.typeInfo11, Proofs.Tryd.typeInfo12, Proofs.Tryd.typeInfo13, Proofs.Tryd.typeInfo14, Proofs.Tryd.typeInfo15, Proofs.Tryd.typeInfo16, Proofs.Tryd.typeInfo17, Proofs.Tryd.typeInfo18, Proofs.Tryd.typeInfo19, Proofs.Tryd.typeInfo20, Proofs.Tryd.typeInfo21, Proofs.Tryd.typeInfo22, Proofs.Tryd.typeInfo23, Proofs.Tryd.typeInfo24, Proofs.Tryd.typeInfo25, Proofs.Tryd.typeInfo26, Proofs.Tryd.typeInfo27, Proofs.Tryd.typeInfo28, Proofs.Tryd.typeInfo29, Proofs.Tryd.typeInfo30, Proofs.Tryd.typeInfo31, Proofs.Tryd.typeInfo32, Proofs.Tryd.typeInfo33, Proofs.Tryd.typeInfo34, Proofs.Tryd.typeInfo35, Proofs.Tryd.typeInfo36, Proofs.Tryd.typeInfo37, Proofs.Tryd.typeInfo38, Proofs.Tryd.typeInfo39, Proofs.Tryd.typeInfo40, Proofs.Tryd.typeInfo41, Proofs.Tryd.typeInfo42, Proofs.Tryd.typeInfo43, Proofs.Tryd.typeInfo44, Proofs.Tryd.typeInfo45, Proofs.Tryd.typeInfo46, Proofs.Tryd.typeInfo47, Proofs.Tryd.typeInfo48, Proofs.Tryd.typeInfo49, Proofs.Tryd.typeInfo50, Proofs.Tryd.typeInfo51, Proofs.Tryd.typeInfo52, Proofs.Tryd.typeInfo53, Proofs.Tryd.typeInfo54, Proofs.Tryd.typeInfo55, Proofs.Tryd.typeInfo56, Proofs.Tryd.typeInfo57, Proofs.Tryd.typeInfo58, Proofs.Tryd.typeInfo59, Proofs.Tryd.typeInfo60, Proofs.Tryd.typeInfo61, Proofs.Tryd.typeInfo62, Proofs.Tryd.typeInfo63, Proofs.Tryd.typeInfo64, Proofs.Tryd.typeInfo65, Proofs.Tryd.typeInfo66, Proofs.Tryd.typeInfo67, Proofs.Tryd.typeInfo68, Proofs.Tryd.typeInfo69, Proofs.Tryd.typeInfo70, Proofs.Tryd.typeInfo71, Proofs.Tryd.typeInfo72, Proofs.Tryd.typeInfo73, Proofs.Tryd.typeInfo74, Proofs.Tryd.typeInfo75, Proofs.Tryd.typeInfo76, Proofs.Tryd.typeInfo77, Proofs.Tryd.typeInfo78, Proofs.Tryd.typeInfo79, Proofs.Tryd.typeInfo80, Proofs.Tryd.typeInfo81, Proofs.Tryd.typeInfo82, Proofs.Tryd.typeInfo83, Proofs.Tryd.typeInfo84, Proofs.Tryd.typeInfo85, Proofs.Tryd.typeInfo86, Proofs.Tryd.typeInfo87, Proofs.Tryd.typeInfo88, Proofs.Tryd.typeInfo89, Proofs.Tryd.typeInfo90, Proofs.Tryd.typeInfo91, Proofs.Tryd.typeInfo92, Proofs.Tryd.typeInfo93, Proofs.Tryd.typeInfo94, Proofs.Tryd.typeInfo95, Proofs.Tryd.typeInfo96, Proofs.Tryd.typeInfo97, Proofs.Tryd.typeInfo98, Proofs.Tryd.typeInfo99, Proofs.Tryd.typeInfo100, Proofs.Tryd.typeInfo101, Proofs.Tryd.typeInfo102, Proofs.Tryd.typeInfo103, Proofs.Tryd.typeInfo104, Proofs.Tryd.typeInfo105, Proofs.Tryd.typeInfo106, Proofs.Tryd.typeInfo107, Proofs.Tryd.typeInfo108, Proofs.Tryd.typeInfo109, Proofs.Tryd.typeInfo110, Proofs.Tryd.typeInfo111, Proofs.Tryd.typeInfo112, Proofs.Tryd.typeInfo113, Proofs.Tryd.typeInfo114, Proofs.Tryd.typeInfo115, Proofs.Tryd.typeInfo116, Proofs.Tryd.typeInfo117, Proofs.Tryd.typeInfo118, Proofs.Tryd.typeInfo119, Proofs.Tryd.typeInfo120, Proofs.Tryd.typeInfo121, Proofs.Tryd.typeInfo122, Proofs.Tryd.typeInfo123, Proofs.Tryd.typeInfo124, Proofs.Tryd.typeInfo125, Proofs.Tryd.typeInfo126, Proofs.Tryd.typeInfo127, Proofs.Tryd.typeInfo128, Proofs.Tryd.typeInfo129, Proofs.Tryd.typeInfo130, Proofs.Tryd.typeInfo131, Proofs.Tryd.typeInfo132, Proofs.Tryd.typeInfo133, Proofs.Tryd.typeInfo134, Proofs.Tryd.typeInfo135, Proofs.Tryd.typeInfo136, Proofs.Tryd.typeInfo137, Proofs.Tryd.typeInfo138, Proofs.Tryd.typeInfo139, Proofs.Tryd.typeInfo140, Proofs.Tryd.typeInfo141, Proofs.Tryd.typeInfo142, Proofs.Tryd.typeInfo143, Proofs.Tryd.typeInfo144, Proofs.Tryd.typeInfo145, Proofs.Tryd.typeInfo146, Proofs.Tryd.typeInfo147, Proofs.Tryd.typeInfo148, Proofs.Tryd.typeInfo149, Proofs.Tryd.typeInfo150, Proofs.Tryd.typeInfo151, Proofs.Tryd.typeInfo152, Proofs.Tryd.typeInfo153, Proofs.Tryd.typeInfo154, Proofs.Tryd.typeInfo155, Proofs.Tryd.typeInfo156, Proofs.Tryd.typeInfo157, Proofs.Tryd.typeInfo158, Proofs.Tryd.typeInfo159, Proofs.Tryd.typeInfo160, Proofs.Tryd.typeInfo161, Proofs.Tryd.typeInfo162, Proofs.Tryd.typeInfo163, Proofs.Tryd.typeInfo164, Proofs.Tryd.typeInfo165, Proofs.Tryd.typeInfo166, Proofs.Tryd.typeInfo167, Proofs.Tryd.typeInfo168, Proofs.Tryd.typeInfo169, Proofs.Tryd.typeInfo170, Proofs.Tryd.typeInfo171, Proofs.Tryd.typeInfo172, Proofs.Tryd.typeInfo173, Proofs.Tryd.typeInfo174, Proofs.Tryd.typeInfo175, Proofs.Tryd.typeInfo176, Proofs.Tryd.typeInfo177, Proofs.Tryd.typeInfo178, Proofs.Tryd.typeInfo179, Proofs.Tryd.typeInfo180, Proofs.Tryd.typeInfo181, trivial⟩
noncomputable def und (t : Nat) : Option TypeDesc := undL[t]?
noncomputable def tinfo (t : Nat) : Option TypeInfo := tiL[t]?
theorem und_ok {t : Nat} {u : TypeDesc} (h : und t = some u) : ∀ w, (underlying t).run Proofs.Tryd.prog w = .ok u w := by
  have := undL_all.get h; simpa using this
theorem tinfo_ok {t : Nat} {u : TypeInfo} (h : tinfo t = some u) : ∀ w, (typeInfo t).run Proofs.Tryd.prog w = .ok u w := by
  have := tiL_all.get h; simpa using this
def aggOf : TypeDesc → Bool
  | .struct _ => true
  | .array _ _ => true
  | _ => false
theorem isAgg_of {P : Program} {t : TypeId} {u : TypeDesc} (h : ∀ w, (underlying t).run P w = .ok u w) : ∀ w, (isAgg t).run P w = .ok (aggOf u) w := by
  intro w; simp only [isAgg, Sem.run_bind, h, Result.andThen_ok]; cases u <;> rfl
noncomputable def T : Tab Proofs.Tryd.prog where
  und := und
  size t := (tinfo t).map (·.size)
  agg t := (und t).map aggOf
  zero t := (tinfo t).bind (·.zero)
  undOk := und_ok
  sizeOk {t m} h w := by
    cases hi : tinfo t with
    | none => simp [hi] at h
    | some u => simp [hi] at h; simp [sizeOf, tinfo_ok hi, h]
  aggOk {t b} h w := by
    cases hi : und t with
    | none => simp [hi] at h
    | some u => simp [hi] at h; rw [isAgg_of (und_ok hi), h]
  zeroOk {t z} h w := by
    cases hi : tinfo t with
    | none => simp [hi] at h
    | some u => simp [hi] at h; simp [zeroValue, tinfo_ok hi, h]
theorem bd24 : ∀ w ps cells, Instr.fill (([(0, 1), (1, 1)] : List (Nat × Nat))[·]?) (Proofs.Tryd.t24.zero.getD undef).cells ps = some cells → (Instr.build 24 ps.toArray).run Proofs.Tryd.prog w = .ok (.agg cells) w := by
  intro w ps cells h
  simp only [Proofs.Tryd.t24, Option.getD] at h
  simp [Instr.build, Proofs.Tryd.runUnderlying24, Proofs.Tryd.zeroValue24, Proofs.Tryd.sizeOf9, h]
theorem bd38 : ∀ w ps cells, Instr.fill (([(0, 1), (1, 1)] : List (Nat × Nat))[·]?) (Proofs.Tryd.t38.zero.getD undef).cells ps = some cells → (Instr.build 38 ps.toArray).run Proofs.Tryd.prog w = .ok (.agg cells) w := by
  intro w ps cells h
  simp only [Proofs.Tryd.t38, Option.getD] at h
  simp [Instr.build, Proofs.Tryd.runUnderlying38, Proofs.Tryd.zeroValue38, Proofs.Tryd.sizeOf9, h]
theorem bd48 : ∀ w ps cells, Instr.fill (([(0, 1), (1, 1)] : List (Nat × Nat))[·]?) (Proofs.Tryd.t48.zero.getD undef).cells ps = some cells → (Instr.build 48 ps.toArray).run Proofs.Tryd.prog w = .ok (.agg cells) w := by
  intro w ps cells h
  simp only [Proofs.Tryd.t48, Option.getD] at h
  simp [Instr.build, Proofs.Tryd.runUnderlying48, Proofs.Tryd.zeroValue48, Proofs.Tryd.sizeOf3, Proofs.Tryd.sizeOf46, h]
theorem el54 : Elem Proofs.Tryd.prog 54 5 1 1 := ⟨Proofs.Tryd.underlying54, Proofs.Tryd.t5, _, by kernel_rfl, rfl, rfl, rfl, rfl⟩
theorem bd77 : ∀ w ps cells, Instr.fill (([(0, 1), (1, 1), (2, 1)] : List (Nat × Nat))[·]?) (Proofs.Tryd.t77.zero.getD undef).cells ps = some cells → (Instr.build 77 ps.toArray).run Proofs.Tryd.prog w = .ok (.agg cells) w := by
  intro w ps cells h
  simp only [Proofs.Tryd.t77, Option.getD] at h
  simp [Instr.build, Proofs.Tryd.runUnderlying77, Proofs.Tryd.zeroValue77, Proofs.Tryd.sizeOf2, Proofs.Tryd.sizeOf3, Proofs.Tryd.sizeOf9, h]
theorem bd89 : ∀ w ps cells, Instr.fill (([(0, 8), (8, 1), (9, 1)] : List (Nat × Nat))[·]?) (Proofs.Tryd.t89.zero.getD undef).cells ps = some cells → (Instr.build 89 ps.toArray).run Proofs.Tryd.prog w = .ok (.agg cells) w := by
  intro w ps cells h
  simp only [Proofs.Tryd.t89, Option.getD] at h
  simp [Instr.build, Proofs.Tryd.runUnderlying89, Proofs.Tryd.zeroValue89, Proofs.Tryd.sizeOf51, Proofs.Tryd.sizeOf54, Proofs.Tryd.sizeOf87, h]
end Go.V
/-
  Rows of bytes that a call owns and cuts; blocks that are lent to a call; slices made; interfaces asked and compared.
-/
namespace Go.V
open Go.RowKit
set_option linter.unusedVariables false
set_option linter.unusedSimpArgs false
abbrev wb (xs : List UInt8) : List Value := xs.map w8
/-- a slice of bytes that stands in a block which is owned -/
def Buf (e : TypeId) (v : Value) (xs : List UInt8) (M : Own) : Prop :=
  (v = .slice none 0 0 ∧ xs = [] ∧ M = []) ∨
  ∃ b pre post cap, v = .slice (some ⟨b, pre.length, none⟩) xs.length cap ∧ M = [(b, blk (pre ++ wb xs ++ post) e)] ∧ xs.length ≤ cap ∧ cap ≤ xs.length + post.length
theorem Buf.nil (e : TypeId) : Buf e (.slice none 0 0) [] [] := .inl ⟨rfl, rfl, rfl⟩
theorem Buf.isSl {e : TypeId} {v : Value} {xs : List UInt8} {M : Own} (h : Buf e v xs M) : ∃ A c, v = .slice A xs.length c := by
  rcases h with ⟨rfl, rfl, _⟩ | ⟨b, pre, post, cap, rfl, _⟩
  · exact ⟨none, 0, rfl⟩
  · exact ⟨_, _, rfl⟩
/-- bytes of a slice that is read: where they stand -/
theorem Sl.ofBytes {J : Imm} {b cap : Nat} {pre post : List Value} {xs : List UInt8} {e : TypeId} (hb : J b = some (blk (pre ++ wb xs ++ post) e)) (hc : xs.length ≤ cap) : Sl tU8 J (.slice (some ⟨b, pre.length, none⟩) xs.length cap) xs := by
  refine ⟨_, _, rfl, hc, .inr ⟨b, pre.length, rfl, fun i x hx => ⟨[w8 x], rfl, _, _, _, hb, fun j v hv => ?_⟩⟩⟩
  have hj : j = 0 := by
    cases j with
    | zero => rfl
    | succ j => simp at hv
  subst hj
  simp at hv; subst hv
  have hi : i < xs.length := (List.getElem?_eq_some_iff.1 hx).1
  simp only [show tU8.size = 1 from rfl, Nat.mul_one, Nat.add_zero]
  rw [List.getElem?_toArray, List.append_assoc, List.getElem?_append_right (by omega), Nat.add_sub_cancel_left, List.getElem?_append_left (by simpa using hi), List.getElem?_map, hx]
  rfl
theorem Buf.sl {e : TypeId} {v : Value} {xs : List UInt8} {M : Own} {J : Imm} (h : Buf e v xs M) (hJ : ∀ b o, (b, o) ∈ M → J b = some o) : Sl tU8 J v xs := by
  rcases h with ⟨rfl, rfl, _⟩ | ⟨b, pre, post, cap, rfl, rfl, hc, _⟩
  · exact Sl.nil _ _
  · exact Sl.ofBytes (hJ b _ (List.mem_singleton.2 rfl)) hc
/-- its first bytes, read -/
theorem Buf.slTake {e : TypeId} {v : Value} {xs : List UInt8} {M : Own} {J : Imm} (h : Buf e v xs M) (hJ : ∀ b o, (b, o) ∈ M → J b = some o) {A : Option Addr} {m c : Nat} (hv : v = .slice A m c) {k : Nat} (hk : k ≤ xs.length) : Sl tU8 J (.slice A k c) (xs.take k) := by
  rcases h with ⟨rfl, rfl, _⟩ | ⟨b, pre, post, cap, rfl, rfl, hc, _⟩
  · cases hv
    have : k = 0 := by simpa using hk
    subst this
    exact Sl.nil _ _
  · cases hv
    have hl : (xs.take k).length = k := by simp; omega
    have := Sl.ofBytes (pre := pre) (xs := xs.take k) (post := wb (xs.drop k) ++ post) (cap := c) (J := J) (e := e) (b := b) (by
      rw [hJ b _ (List.mem_singleton.2 rfl)]
      congr 2
      rw [List.append_assoc, List.append_assoc, ← List.append_assoc (wb _) (wb _), ← List.map_append, List.take_append_drop]) (by rw [hl]; omega)
    rw [hl] at this
    exact this
theorem zeroCells_u8 (k : Nat) : (Builtin.zeroCells #[Value.int .u8 0] k).toList = wb (List.replicate k 0) := by
  simp [Builtin.zeroCells, wb, Array.toList_range]
  apply List.ext_getElem
  · simp
  · intro i h1 h2
    simp [Nat.mod_one]
section
variable {P : Program} {n : Nat} {C : Cx} {k : List Item} {env : Env} {L : Own} {I : Imm} {ops : Array Oper} {i : Nat} {l : List Oper}
variable {ty : TypeId} {ps : String} {af : Array Edge} {g : Option (Nat × Bool)} {d : Nat}
theorem Buf.cut {e : TypeId} {v : Value} {xs : List UInt8} {M : Own} (h : Buf e v xs M) {A : Option Addr} {m c lo : Nat} (hv : v = .slice A m c) (hlo : lo ≤ xs.length) :
    Buf e (.slice (if c = lo then A else A.map (·.add lo)) (m - lo) (c - lo)) (xs.drop lo) M := by
  rcases h with ⟨rfl, rfl, rfl⟩ | ⟨b, pre, post, cap, rfl, rfl, hc, hc2⟩
  · cases hv
    have : lo = 0 := by simpa using hlo
    subst this
    exact .inl ⟨rfl, rfl, rfl⟩
  · cases hv
    refine .inr ?_
    by_cases he : c = lo
    · rw [if_pos he]
      have hx : xs.length = lo := by omega
      have hx2 : xs.drop lo = [] := List.drop_eq_nil_of_le (by omega)
      rw [hx2]
      refine ⟨b, pre, wb xs ++ post, c - lo, by simp [hx], by simp, by simp, by simp; omega⟩
    · rw [if_neg he]
      refine ⟨b, pre ++ wb (xs.take lo), post, c - lo, ?_, ?_, by simp; omega, by simp; omega⟩
      · simp only [List.length_append, List.length_map, List.length_take, List.length_drop, Nat.min_eq_left hlo, Option.map_some, add_off]
      · have e3 : wb xs = wb (xs.take lo) ++ wb (xs.drop lo) := by rw [wb, wb, wb, ← List.map_append, List.take_append_drop]
        rw [e3]
        simp only [List.append_assoc]
theorem run_append_buf {ts tx e : TypeId} (hE : Elem P ts e 1 1) (hz : ∃ iE, P.info? e = some iE ∧ iE.zero = some (.int .u8 0)) {W : World} {w0 : World} {I0 : Imm} {L0 : List Nat} {M N : Own} {v x : Value} {xs ys : List UInt8} (hi : Inv w0 I0 L0 I (M ++ N) W)
    (hG : Buf e v xs M) (hx : Src P 1 tx x ys.length (wb ys) W) (hbytes : 2 * (xs.length + ys.length) + 512 ≤ 281474976710656) (h63 : xs.length + ys.length ≤ 4611686018427387904) :
    ∃ v' W' M', (Builtin.append_ #[ts, tx] ty #[v, x]).run P W = .ok v' W' ∧ Buf e v' (xs ++ ys) M' ∧ Inv w0 I0 L0 I (M' ++ N) W' := by
  obtain ⟨iE, z, hinfo, hzero, hs1, hb1, hzs⟩ := hE.info
  obtain ⟨iE', hinfo', hz'⟩ := hz
  obtain rfl : iE' = iE := Option.some.inj (hinfo'.symm.trans hinfo)
  obtain rfl : z = .int .u8 0 := Option.some.inj (hzero.symm.trans hz')
  have grow : ∀ (base : Option Addr) (cap : Nat), v = .slice base xs.length cap → cap < xs.length + ys.length → (Builtin.firstCells 1 xs.length (.slice base xs.length cap)).run P W.drew = .ok (wb xs).toArray W.drew →
      ∃ v' W' M', (Builtin.append_ #[ts, tx] ty #[v, x]).run P W = .ok v' W' ∧ Buf e v' (xs ++ ys) M' ∧ Inv w0 I0 L0 I (M' ++ N) W' := by
    intro base cap hv hcap hold
    have hr := run_append_grow_src (P := P) W ts tx ty e iE' _ hE.under hinfo hzero base xs.length cap (wb xs) (by rw [hs1]; exact hold) x ys.length (wb ys) (by rw [hs1]; exact hx) hcap (by omega)
      (by rw [hb1, Nat.mul_one]; exact Nat.le_trans (nextcap_le _ _ hcap) (by omega))
    subst hv
    have hge := grownCap_ge W (xs.length + ys.length) cap e
    have hcells : (wb xs ++ wb ys).toArray ++ Builtin.zeroCells (Value.int .u8 0).cells (grownCap W (xs.length + ys.length) cap e - (xs.length + ys.length)) =
        (([] : List Value) ++ wb (xs ++ ys) ++ wb (List.replicate (grownCap W (xs.length + ys.length) cap e - (xs.length + ys.length)) 0)).toArray := by
      apply Array.ext'
      rw [Array.toList_append, show (Value.int .u8 0).cells = #[Value.int .u8 0] from rfl, zeroCells_u8]
      simp
    rw [hcells] at hr
    refine ⟨_, _, [(W.heap.size, blk (([] : List Value) ++ wb (xs ++ ys) ++ wb (List.replicate (grownCap W (xs.length + ys.length) cap e - (xs.length + ys.length)) 0)) e)], hr, .inr ⟨W.heap.size, [], _, grownCap W (xs.length + ys.length) cap e, by simp, rfl, by simpa using hge, by simp; omega⟩, ?_⟩
    have h1 : Inv w0 I0 L0 I N W := hi.weakenL (List.sublist_append_right _ _)
    exact h1.drew.alloc _
  rcases hG with ⟨rfl, rfl, rfl⟩ | ⟨b, pre, post, cap, rfl, rfl, hmc, hcs⟩
  · by_cases hq : ys = []
    · subst hq
      refine ⟨.slice none 0 0, W, [], ?_, Buf.nil e, hi⟩
      have hx' : Src P iE'.size tx x 0 [] W := by rw [hs1]; exact hx
      rcases hx.kind with ⟨e', hk⟩ | hk <;>
        simp [Builtin.append_, run_underlying hE.under, run_underlying hk, sizeOf, typeInfo, hinfo, hx'.len, hx'.cells]
    · exact grow none 0 rfl (by have : 0 < ys.length := List.length_pos_iff.2 hq; simp; exact this) (by simp [Builtin.firstCells])
  · have hW := hi.fits.own b _ (List.mem_append_left _ (List.mem_singleton.2 rfl))
    by_cases hroom : xs.length + ys.length ≤ cap
    · have hsz : (pre ++ wb xs ++ post).toArray.size = pre.length + xs.length + post.length := by simp; omega
      have hr := run_append_room_src (P := P) W ts tx ty e iE' hE.under hinfo b pre.length xs.length cap x ys.length (wb ys) (by rw [hs1]; exact hx) hroom
        (fun j hj => by rw [cell_blk hW, hs1]; simp at hj ⊢; omega) (fun j hj => by simp [World.frozen?, hW, blk])
      have hst := run_storeCells_at P b (pre.length + xs.length) e (wb ys) 0 (pre ++ wb xs ++ post).toArray W hW (by rw [hsz]; simp; omega) hx.one
      have hst2 := run_storeCells_cells (P := P) b (pre.length + xs.length) (wb ys) 0 W (fun j hj => by rw [cell_blk hW]; simp at hj ⊢; omega) (fun j hj => by simp [World.frozen?, hW, blk]) hx.one
      rw [hst] at hst2
      simp only [Nat.add_zero, hs1, Nat.mul_one] at hst2 hr
      have hcs2 : (((pre ++ wb xs ++ post).toArray.toList.take (pre.length + xs.length) ++ wb ys ++ (pre ++ wb xs ++ post).toArray.toList.drop (pre.length + xs.length + (wb ys).length)).toArray) = (pre ++ wb (xs ++ ys) ++ post.drop ys.length).toArray := by
        congr 1
        show (pre ++ wb xs ++ post).take _ ++ wb ys ++ (pre ++ wb xs ++ post).drop _ = _
        have hlx : (pre ++ wb xs).length = pre.length + xs.length := by simp
        rw [← hlx, List.take_left, List.drop_append]
        simp
      rw [hcs2] at hst2
      have hw : W.setCells b (pre.length + xs.length) (wb ys) = W.setRow b (pre ++ wb (xs ++ ys) ++ post.drop ys.length).toArray := by
        injection hst2 with _ h; exact h.symm
      rw [hw] at hr
      refine ⟨_, _, [(b, blk (pre ++ wb (xs ++ ys) ++ post.drop ys.length) e)], hr, .inr ⟨b, pre, post.drop ys.length, cap, by simp, rfl, by simpa using hroom, by simp; omega⟩, ?_⟩
      exact hi.upd rfl rfl rfl (by simp) (fun c _ hcb => setRow_other W b c _ hcb) (setRow_heap W b _ _ e _ hW)
    · refine grow (some ⟨b, pre.length, none⟩) cap rfl (by omega) ?_
      have hl := run_firstCells_some (P := P) W.drew 1 xs.length ⟨b, pre.length, none⟩ xs.length cap (wb xs) (by simp) (fun j u hu => by
        rw [add_off, World.cell?_drew, cell_blk hW]
        have hj : j < xs.length := by simpa using (List.getElem?_eq_some_iff.1 hu).1
        rw [List.getElem?_toArray, List.append_assoc, List.getElem?_append_right (by omega), Nat.add_sub_cancel_left, List.getElem?_append_left (by simpa using hj)]
        exact hu)
      exact hl
/-- what is known of a type of bytes -/
structure Bt (P : Program) (ts e : TypeId) : Prop where
  el : Elem P ts e 1 1
  zero : ∃ iE, P.info? e = some iE ∧ iE.zero = some (.int .u8 0)
theorem Eff.appBuf {s x : Operand} {ts tx e : TypeId} {M N : Own} {v xv : Value} {xs ys : List UInt8} {K : Value → Own → Imm → Prop} (hE : Bt P ts e) (hs : opnd env s = some v) (hx : opnd env x = some xv) (hL : L.Perm (M ++ N)) (hG : Buf e v xs M)
    (hsrc : ∀ W, Inv C.w0 C.I0 C.L0 I L W → Src P 1 tx xv ys.length (wb ys) W) (hbytes : 2 * (xs.length + ys.length) + 512 ≤ 281474976710656)
    (next : ∀ v' M', Buf e v' (xs ++ ys) M' → K v' (M' ++ N) I) : Eff P n C env L I ⟨some d, .call ⟨.builtin .append, #[s, x], #[ts, tx]⟩, ty, ps, af, g⟩ K :=
  Eff.valW fun a W he hi => by
    obtain ⟨v', W', M', hr, hG', hi'⟩ := run_append_buf (P := P) (ty := ty) hE.el hE.zero (hi.perm hL) hG (hsrc W hi) hbytes (by omega)
    refine ⟨v', W', M' ++ N, I, .inl ?_, hi', next v' M' hG'⟩
    simp [execOp, resolve, Go.invoke, builtin, eval_opnd he hs, eval_opnd he hx, hr]
theorem Ops.appBuf {s x : Operand} {ts tx e : TypeId} {M N : Own} {v xv : Value} {xs ys : List UInt8} (hE : Bt P ts e) (hG : Buf e v xs M) (hg : want env ops g = some true) (hd : d < n) (hs : opnd env s = some v) (hx : opnd env x = some xv) (hL : L.Perm (M ++ N))
    (hsrc : ∀ W, Inv C.w0 C.I0 C.L0 I L W → Src P 1 tx xv ys.length (wb ys) W) (hbytes : 2 * (xs.length + ys.length) + 512 ≤ 281474976710656)
    (next : ∀ v' M', Buf e v' (xs ++ ys) M' → Ops P n C ops (i + 1) l k ((d, v') :: env) (M' ++ N) I) : Ops P n C ops i (⟨some d, .call ⟨.builtin .append, #[s, x], #[ts, tx]⟩, ty, ps, af, g⟩ :: l) k env L I :=
  Ops.eff hg (dOk hd) (Eff.appBuf hE hs hx hL hG hsrc hbytes next)
theorem src_sl {ts e : TypeId} {w : Value} {ys : List UInt8} (hu : P.underlying ts = some (.slice e)) (hS : Sl tU8 I w ys) {w0 : World} {I0 : Imm} {L0 : List Nat} {W : World} (hi : Inv w0 I0 L0 I L W) : Src P 1 ts w ys.length (wb ys) W := by
  obtain ⟨A, c, rfl, hc, hrow⟩ := hS
  rcases hrow with rfl | ⟨b, off, rfl, hrow⟩
  · cases A with
    | none => exact Src.ofNil W hu c
    | some a => exact Src.ofSlice W hu a 0 c [] (by simp) (fun j u hu => by simp at hu) (fun u hu => by cases hu)
  · obtain ⟨news, hC, hA⟩ := hrow.cells
    have e1 := hC.bytes_eq
    subst e1
    rcases hA with rfl | hA
    · exact Src.ofSlice W hu ⟨b, off, none⟩ 0 c [] (by simp) (fun j u hu => by simp at hu) (fun u hu => by cases hu)
    · exact Src.ofSlice W hu ⟨b, off, none⟩ ys.length c _ (by simp) (fun j u hu => by rw [add_off]; exact hA.cell hi j u hu) (fun u hu => by
        obtain ⟨y, _, rfl⟩ := List.mem_map.1 hu
        rfl)
theorem src_own {ts e e' : TypeId} {b c : Nat} {ys : List UInt8} {pre post : List Value} (hu : P.underlying ts = some (.slice e)) {w0 : World} {I0 : Imm} {L0 : List Nat} {W : World} (hi : Inv w0 I0 L0 I L W) (hm : (b, blk (pre ++ wb ys ++ post) e') ∈ L) :
    Src P 1 ts (.slice (some ⟨b, pre.length, none⟩) ys.length c) ys.length (wb ys) W :=
  Src.ofSlice W hu ⟨b, pre.length, none⟩ ys.length c _ (by simp) (fun j u hj => by
    have hjl : j < ys.length := by simpa using (List.getElem?_eq_some_iff.1 hj).1
    rw [add_off, cell_blk (hi.fits.own b _ hm), List.getElem?_toArray, List.append_assoc, List.getElem?_append_right (by omega), Nat.add_sub_cancel_left, List.getElem?_append_left (by simpa using hjl)]
    exact hj) (fun u hu => by
        obtain ⟨y, _, rfl⟩ := List.mem_map.1 hu
        rfl)
/-- append of a literal, whose block goes; the slice's block stands last -/
theorem Ops.appLit {s x : Operand} {ts e : TypeId} {b q c : Nat} {M N : Own} {v : Value} {xs : List UInt8} {news : List Value} (ys : List UInt8) (hE : Bt P ts e) (hG : Buf e v xs M) (hg : want env ops g = some true) (hd : d < n) (hs : opnd env s = some v) (hx : opnd env x = some (.slice (some ⟨b, 0, none⟩) q c))
    (hL : L = (b, blk news e) :: (N ++ M)) (hn : news = wb ys) (hq : ys.length = q) (hbytes : 2 * (xs.length + ys.length) + 512 ≤ 281474976710656)
    (next : ∀ v' M', Buf e v' (xs ++ ys) M' → Ops P n C ops (i + 1) l k ((d, v') :: env) (N ++ M') I) : Ops P n C ops i (⟨some d, .call ⟨.builtin .append, #[s, x], #[ts, ts]⟩, ty, ps, af, g⟩ :: l) k env L I := by
  subst hL; subst hn; subst hq
  refine Ops.appBuf (M := M) (N := (b, blk (wb ys) e) :: N) hE hG hg hd hs hx ?_ ?_ hbytes fun v' M' h => ?_
  · exact (List.Perm.cons _ List.perm_append_comm).trans List.perm_middle.symm
  · intro W hi
    have := src_own (P := P) (ts := ts) (pre := []) (post := []) (ys := ys) (b := b) (c := c) (e' := e) hE.el.under hi (by simp)
    simpa using this
  · exact Ops.dropL (List.Sublist.append_left (List.sublist_cons_self _ _) _) (Ops.perm List.perm_append_comm (next v' M' h))
theorem Ops.appSlB {s x : Operand} {ts e : TypeId} {M N : Own} {v w : Value} {xs ys : List UInt8} (hE : Bt P ts e) (hG : Buf e v xs M) (hS : Sl tU8 I w ys) (hg : want env ops g = some true) (hd : d < n) (hs : opnd env s = some v) (hx : opnd env x = some w)
    (hL : L = N ++ M) (hbytes : 2 * (xs.length + ys.length) + 512 ≤ 281474976710656)
    (next : ∀ v' M', Buf e v' (xs ++ ys) M' → Ops P n C ops (i + 1) l k ((d, v') :: env) (N ++ M') I) : Ops P n C ops i (⟨some d, .call ⟨.builtin .append, #[s, x], #[ts, ts]⟩, ty, ps, af, g⟩ :: l) k env L I := by
  subst hL
  exact Ops.appBuf hE hG hg hd hs hx List.perm_append_comm (fun W hi => src_sl hE.el.under hS hi) hbytes fun v' M' h => Ops.perm List.perm_append_comm (next v' M' h)
/-! slices cut -/
variable {x : Operand} {ts e : TypeId}
theorem Ev.sliceLo {A : Option Addr} {m c : Nat} {lo : Operand} {kd : IntKind} {j : Nat} {size : Nat} (T : Tab P) (hu : T.und ts = some (.slice e)) (hz : T.size e = some size) (hx : opnd env x = some (.slice A m c)) (hlo : opnd env lo = some (.int kd (j : Int))) (h1 : j ≤ m) (h2 : m ≤ c) :
    Ev P n env (.slice ts x (some lo) none none) (.slice (if c = j then A else A.map (·.add (j * size))) (m - j) (c - j)) :=
  fun a W he _ _ _ _ _ => by
    have hb := run_sliceBounds (P := P) (hi := none) (lo := some (a.eval lo)) (len := m) (cap := c) (l := j) (h := m) (kd := .i64) (kd' := kd) (.inl ⟨rfl, rfl⟩) (.inr (by simp [eval_opnd he hlo])) h2 h1 W
    simp [execOp, Instr.sliceAt, Instr.slice, eval_opnd he hx, T.undOk hu, hb, T.sizeOk hz]
theorem Ev.sliceHi {A : Option Addr} {m c : Nat} {hi : Operand} {kd : IntKind} {j : Nat} {size : Nat} (T : Tab P) (hu : T.und ts = some (.slice e)) (hz : T.size e = some size) (hx : opnd env x = some (.slice A m c)) (hhi : opnd env hi = some (.int kd (j : Int))) (h1 : j ≤ c) :
    Ev P n env (.slice ts x none (some hi) none) (.slice (if c = 0 then A else A) j c) :=
  fun a W he _ _ _ _ _ => by
    have hb := run_sliceBounds (P := P) (hi := some (a.eval hi)) (lo := none) (len := m) (cap := c) (l := 0) (h := j) (kd := kd) (kd' := .i64) (.inr (by simp [eval_opnd he hhi])) (.inl ⟨rfl, rfl⟩) h1 (Nat.zero_le _) W
    have e1 : (A.map fun x => x.add 0) = A := by
      cases A with
      | none => rfl
      | some a0 => obtain ⟨b, off, sp⟩ := a0; simp [Addr.add]
    simp [execOp, Instr.sliceAt, Instr.slice, eval_opnd he hx, T.undOk hu, hb, T.sizeOk hz, e1]
theorem Ev.sliceHi' {A : Option Addr} {m c : Nat} {hi : Operand} {kd : IntKind} {j : Int} {size : Nat} (T : Tab P) (hu : T.und ts = some (.slice e)) (hz : T.size e = some size) (hx : opnd env x = some (.slice A m c)) (hhi : opnd env hi = some (.int kd j)) (h0 : 0 ≤ j) (h1 : j ≤ c) :
    Ev P n env (.slice ts x none (some hi) none) (.slice A j.toNat c) := by
  obtain ⟨q, rfl⟩ := Int.eq_ofNat_of_zero_le h0
  have := Ev.sliceHi (n := n) T hu hz hx hhi (by omega)
  simpa using this
theorem Ev.sliceLo' {A : Option Addr} {m c : Nat} {lo : Operand} {kd : IntKind} {j : Int} {size : Nat} (T : Tab P) (hu : T.und ts = some (.slice e)) (hz : T.size e = some size) (hx : opnd env x = some (.slice A m c)) (hlo : opnd env lo = some (.int kd j)) (h0 : 0 ≤ j) (h1 : j ≤ m) (h2 : m ≤ c) :
    Ev P n env (.slice ts x (some lo) none none) (.slice (if c = j.toNat then A else A.map (·.add (j.toNat * size))) (m - j.toNat) (c - j.toNat)) := by
  obtain ⟨q, rfl⟩ := Int.eq_ofNat_of_zero_le h0
  exact Ev.sliceLo T hu hz hx hlo (by omega) h2
open Classical in
theorem Spec.lend {f : FuncId} {args : List Value} {M N : Own} {R : Value → Own → Prop} (h : ∀ J, Le I J → (∀ b o, (b, o) ∈ N → J b = some o) → Spec P f args J M fun v _ M' => R v M') :
    Spec P f args I (M ++ N) fun v J M1 => ∃ M', M1 = M' ++ N ∧ R v M' := by
  intro w0 hf
  have hnd := hf.nd
  rw [List.map_append] at hnd
  obtain ⟨hnM, hnN, hdis⟩ := List.nodup_append.1 hnd
  let J : Imm := fun b => if h : ∃ o, (b, o) ∈ N then some h.choose else I b
  have hJN : ∀ b o, (b, o) ∈ N → J b = some o := by
    intro b o hm
    have hex : ∃ o, (b, o) ∈ N := ⟨o, hm⟩
    show (if h : ∃ o, (b, o) ∈ N then some h.choose else I b) = some o
    rw [dif_pos hex]
    have h1 := hf.own b _ (List.mem_append_right M hex.choose_spec)
    have h2 := hf.own b o (List.mem_append_right M hm)
    rw [h1] at h2
    exact h2
  have hJI : ∀ b, (∀ o, (b, o) ∉ N) → J b = I b := by
    intro b hn
    show (if h : ∃ o, (b, o) ∈ N then some h.choose else I b) = I b
    rw [dif_neg (fun ⟨o, hm⟩ => hn o hm)]
  have hle : Le I J := by
    intro b o hb
    rw [hJI b (fun o' hm => by have := hf.sep b o' (List.mem_append_right M hm); rw [this] at hb; cases hb)]
    exact hb
  have hNM : ∀ b o, (b, o) ∈ N → ∀ o', (b, o') ∉ M := fun b o hm o' hm' => hdis b (List.mem_map.2 ⟨(b, o'), hm', rfl⟩) b (List.mem_map.2 ⟨(b, o), hm, rfl⟩) rfl
  have hfJ : Fits J M w0 := by
    refine ⟨fun b o hb => ?_, fun b o hm => hf.own b o (List.mem_append_left _ hm), fun b o hm => ?_, hnM⟩
    · by_cases hex : ∃ o, (b, o) ∈ N
      · obtain ⟨o', hm⟩ := hex
        rw [hJN b o' hm] at hb
        cases hb
        exact hf.own b o (List.mem_append_right _ hm)
      · rw [hJI b (fun o' hm => hex ⟨o', hm⟩)] at hb
        exact hf.imm b o hb
    · rw [hJI b (fun o' hm' => hNM b o' hm' o hm)]
      exact hf.sep b o (List.mem_append_left _ hm)
  have hltN : ∀ b o, (b, o) ∈ N → b < w0.heap.size := fun b o hm => (Array.getElem?_eq_some_iff.1 (hf.own b o (List.mem_append_right _ hm))).1
  refine (h J hle hJN w0 hfJ).mono ?_
  rintro e W ⟨v, J2, M', rfl, hR, hi⟩
  have hN0 : ∀ b o, (b, o) ∈ N → b ∉ M.map Prod.fst := fun b o hm hmm => by
    obtain ⟨⟨c, o'⟩, hm', rfl⟩ := List.mem_map.1 hmm
    exact hNM c o hm o' hm'
  have hNW : ∀ b o, (b, o) ∈ N → W.heap[b]? = some o := fun b o hm => by
    rw [hi.old b (hltN b o hm) (hN0 b o hm)]
    exact hf.own b o (List.mem_append_right _ hm)
  have hM'N : ∀ b o, (b, o) ∈ M' → ∀ o', (b, o') ∉ N := fun b o hm o' hm' => by
    rcases hi.newL b o hm with h1 | h1
    · exact absurd (hltN b o' hm') (Nat.not_lt.2 h1)
    · exact hN0 b o' hm' h1
  refine ⟨v, I, M' ++ N, rfl, ⟨M', rfl, hR⟩, ?_⟩
  refine ⟨hi.os, hi.tape, hi.output, hi.size, fun b hb hbL => ?_, ⟨fun b o hb => hi.fits.imm b o (hi.ext b o (hle b o hb)), ?_, ?_, ?_⟩, Le.refl _, fun b o hb => .inl hb, ?_⟩
  · exact hi.old b hb (fun hm => hbL (by rw [List.map_append]; exact List.mem_append_left _ hm))
  · intro b o hm
    rcases List.mem_append.1 hm with hm | hm
    · exact hi.fits.own b o hm
    · exact hNW b o hm
  · intro b o hm
    rcases List.mem_append.1 hm with hm | hm
    · cases hI : I b with
      | none => rfl
      | some q =>
        have := hi.ext b q (hle b q hI)
        rw [hi.fits.sep b o hm] at this
        cases this
    · exact hf.sep b o (List.mem_append_right _ hm)
  · rw [List.map_append, List.nodup_append]
    refine ⟨hi.fits.nd, hnN, ?_⟩
    intro c hc c' hc' heq
    subst heq
    obtain ⟨⟨c1, p⟩, hm, rfl⟩ := List.mem_map.1 hc
    obtain ⟨⟨c2, q⟩, hm2, heq2⟩ := List.mem_map.1 hc'
    simp only at heq2
    subst heq2
    exact hM'N c2 p hm q hm2
  · intro b o hm
    rcases List.mem_append.1 hm with hm | hm
    · rcases hi.newL b o hm with h1 | h1
      · exact .inl h1
      · exact .inr (by rw [List.map_append]; exact List.mem_append_left _ h1)
    · exact .inr (by rw [List.map_append]; exact List.mem_append_right _ (List.mem_map.2 ⟨(b, o), hm, rfl⟩))
theorem madeCells_u8 (c : Nat) : madeCells (Value.int .u8 0).cells c = (wb (List.replicate c 0)).toArray := by
  apply Array.ext'
  simp [madeCells, Value.cells, Array.toList_range]
  apply List.ext_getElem
  · simp
  · intro i h1 h2
    simp [Nat.mod_one]
theorem Ops.makeBuf {x y : Operand} {kl kc : IntKind} {a c : Nat} (hE : Bt P ts e) (hg : want env ops g = some true) (hd : d < n) (hx : opnd env x = some (.int kl (a : Int))) (hy : opnd env y = some (.int kc (c : Int))) (hac : a ≤ c) (hc : c ≤ 281474976710656)
    (next : ∀ b, Buf e (.slice (some ⟨b, 0, none⟩) a c) (List.replicate a 0) [(b, blk (wb (List.replicate c 0)) e)] → Ops P n C ops (i + 1) l k ((d, .slice (some ⟨b, 0, none⟩) a c) :: env) ((b, blk (wb (List.replicate c 0)) e) :: L) I) :
    Ops P n C ops i (⟨some d, .makeSlice ts x y, ty, ps, af, g⟩ :: l) k env L I :=
  Ops.valW hg (dOk hd) fun a0 W he hi => by
    obtain ⟨iE, z, hinfo, hzero, hs1, hb1, hzs⟩ := hE.el.info
    obtain ⟨iE', hinfo', hz'⟩ := hE.zero
    obtain rfl : iE' = iE := Option.some.inj (hinfo'.symm.trans hinfo)
    obtain rfl : z = .int .u8 0 := Option.some.inj (hzero.symm.trans hz')
    have hr := run_make (P := P) W ts e iE' _ hE.el.under hinfo hzero kl kc (a : Int) (c : Int) (by omega) (by omega) (by rw [hb1]; omega) (by omega)
    rw [hs1, Nat.mul_one, Int.toNat_natCast, Int.toNat_natCast, madeCells_u8] at hr
    refine ⟨.slice (some ⟨W.heap.size, 0, none⟩) a c, _, (W.heap.size, blk (wb (List.replicate c 0)) e) :: L, I, .inl ?_, hi.alloc _, next _ (.inr ⟨W.heap.size, [], wb (List.replicate (c - a) 0), c, by simp, ?_, by simpa using hac, by simp; omega⟩)⟩
    · simp only [execOp, eval_opnd he hx, eval_opnd he hy, Sem.run_bind, hr, Result.andThen_ok]; rfl
    · simp only [List.nil_append, ← List.map_append, List.replicate_append_replicate]
      rw [show a + (c - a) = c by omega]
theorem Ops.assertI {xt t t' : TypeId} {want' : Array (String × TypeId)} {ti : TypeInfo} {v z : Value} (T : Tab P) (hti : ∀ w, (typeInfo t').run P w = .ok ti w) (hg : want env ops g = some true) (hd : d < n) (hx : opnd env x = some (.iface t' v)) (hu : T.und t = some (.interface want')) (hm : (Instr.missingMethod want' ti.methods).isSome = true) (hz : T.zero t = some z)
    (next : Ops P n C ops (i + 1) l k ((d, .tuple #[z, .bool false]) :: env) L I) : Ops P n C ops i (⟨some d, .typeAssert x xt t true, ty, ps, af, g⟩ :: l) k env L I :=
  Ops.val hg (dOk hd) (fun a W he _ => by
    obtain ⟨m, hm⟩ := Option.isSome_iff_exists.1 hm
    simp [execOp, Instr.typeAssert, eval_opnd he hx, T.undOk hu, hti, hm, T.zeroOk hz]) next
theorem Ops.neqSame {y : Operand} {ti t' tp te : TypeId} {ms : Array (String × TypeId)} {ii jj : TypeInfo} {a0 : Addr} (h1 : P.underlying ti = some (.interface ms)) (h2 : P.underlying tp = some (.pointer te)) (h3 : P.info? tp = some ii) (h4 : ii.comparable = true) (h5 : P.info? te = some jj)
    (hg : want env ops g = some true) (hd : d < n) (hx : opnd env x = some (.iface tp (.pointer (some a0)))) (hy : opnd env y = some (.iface tp (.pointer (some a0))))
    (next : Ops P n C ops (i + 1) l k ((d, .bool false) :: env) L I) : Ops P n C ops i (⟨some d, .binOp .neq ti x y t', ty, ps, af, g⟩ :: l) k env L I :=
  Ops.val hg (dOk hd) (fun a W he hi => by
    have e1 := run_equalIn_iface_ptr_same (P := P) W 9998 a0 h1 h2 h3 h4 h5
    have h6 : ∀ c d : Value, (eqGuard .neq ti x y (.iface tp c) d).run P W = .ok () W := fun c d => rfl
    simp [execOp, eval_opnd he hx, eval_opnd he hy, binOp, Op.equal, Op.maxDepth, e1, h6]) next
end
end Go.V
/-
  SHA-256: words turned, constants, the plain functions.
-/
namespace Go.V
open Go.RowKit
set_option linter.unusedVariables false
set_option linter.unusedSimpArgs false
set_option maxRecDepth 10000
attribute [local irreducible] Run Ops QD
def rotr (a : UInt32) (j : Int) : UInt32 := sr32 a j ||| sl32 a (32 - j)
theorem zz_right (I : Imm) (a : UInt32) (j : Int) (h0 : 0 < j) (h1 : j < 32) : Pure Proofs.Tryd.prog 92 [w32 a, .int .u64 j] I fun w J => w = w32 (rotr a j) := by
  refine Spec.enter 13 [(0, _), (1, _)] Proofs.Tryd.func92 rfl Proofs.Tryd.ntmps92 (by simp) rfl ?_
  intro C hCf hR hCI
  repeat (first | refine Run.seq ?_ | refine Run.region ?_ | refine Ops.nil ?_ | refine Ops.pure T rfl (by decide) rfl ?_ | refine Ops.ev (Ev.shr32 rfl rfl (by first | decide | omega) (by first | decide | omega)) rfl (by decide) ?_)
  refine Ops.sub rfl (by decide) rfl rfl (show _ = 32 - j from by rw [wrap64u]; omega) ?_
  repeat (first | refine Ops.nil ?_ | refine Ops.pure T rfl (by decide) rfl ?_ | refine Ops.ev (Ev.or32 rfl rfl) rfl (by decide) ?_ | refine Ops.ev (Ev.shl32 rfl rfl (by first | decide | omega) (by first | decide | omega)) rfl (by decide) ?_)
  refine Run.fin (Run.ret1 (by rw [hCf]; exact Proofs.Tryd.func92) Proofs.Tryd.results92 rfl (hR _ _ _ ?_))
  exact ⟨rfl, rfl⟩
theorem spec_turn (I : Imm) (a : UInt32) (j : Int) (h0 : 0 < j) (h1 : j < 32) : Pure Proofs.Tryd.prog 31 [w32 a, .int .i64 j] I fun w J => w = w32 (rotr a j) := by
  refine Spec.enter 13 [(0, _), (1, _)] Proofs.Tryd.func31 rfl Proofs.Tryd.ntmps31 (by simp) rfl ?_
  intro C hCf hR hCI
  repeat (first | refine Run.seq ?_ | refine Run.region ?_ | refine Ops.nil ?_ | refine Ops.pure T rfl (by decide) rfl ?_)
  refine Run.regionQ (D := [some 5, some 6, some 7, some 8, some 9, some 10, some 11, some 12, some 4]) [true, true, true, true, true, true, true, true, true] (bl 9 511) (by kernel_rfl) (by kernel_rfl) (by kernel_rfl) (by kernel_rfl) rfl (fun Z hZ => ?_)
  refine QD.ev T (by decide) rfl rfl ?_
  refine QD.ev T (by decide) rfl rfl ?_
  refine QD.e (Ev.shr32 rfl rfl (by first | decide | omega) (by first | decide | omega)) (by decide) rfl ?_
  refine QD.ev T (by decide) rfl rfl ?_
  refine QD.ev T (by decide) rfl rfl ?_
  refine QD.e (Ev.subI rfl rfl (wI (by first | omega | (simp only [List.length_cons, List.length_nil] ; omega) | (simp; omega)) (by first | omega | (simp only [List.length_cons, List.length_nil] ; omega) | (simp; omega)))) (by decide) rfl ?_
  refine QD.e (Ev.shl32 rfl rfl (by first | decide | omega) (by first | decide | omega)) (by decide) rfl ?_
  refine QD.e (Ev.or32 rfl rfl) (by decide) rfl ?_
  refine QD.ev T (by decide) rfl rfl ?_
  refine QD.nil (hZ _ ?_)
  clear hZ Z
  skip
  refine Run.fin (Run.ret1 (by rw [hCf]; exact Proofs.Tryd.func31) Proofs.Tryd.results31 rfl (hR _ _ _ ?_))
  exact ⟨rfl, rfl⟩
def kLo : List UInt64 := [4794697086780616226, 8158064640168781261, 13096744586834688815, 16840607885511220156, 4131703408338449720, 6480981068601479193, 10538285296894168987, 12329834152419229976, 15566598209576043074, 1334009975649890238, 2608012711638119052, 6128411473006802146, 8268148722764581231, 9286055187155687089, 11230858885718282805, 13951009754708518548, 16472876342353939154, 17275323862435702243, 1135362057144423861, 2597628984639134821, 3308224258029322869, 5365058923640841347, 6679025012923562964, 8573033837759648693, 10970295158949994411, 12119686244451234320, 12683024718118986047, 13788192230050041572, 14330467153632333762, 15395433587784984357, 489312712824947311, 1452737877330783856, 2861767655752347644, 3322285676063803686, 5560940570517711597, 5996557281743188959, 7280758554555802590, 8532644243296465576, 9350256976987008742, 10552545826968843579]
def kHi : List UInt64 := [11727347734174303076, 12113106623233404929, 14000437183269869457, 14369950271660146224, 15101387698204529176, 15463397548674623760, 17586052441742319658, 1182934255886127544, 1847814050463011016, 2177327727835720531, 2830643537854262169, 3796741975233480872, 4115178125766777443, 5681478168544905931, 6601373596472566643, 7507060721942968483, 8399075790359081724, 8693463985226723168, 9568029438360202098, 10144078919501101548, 10430055236837252648, 11840083180663258601, 13761210420658862357, 14299343276471374635, 14566680578165727644, 15097957966210449927, 16922976911328602910, 17689382322260857208, 500013540394364858, 748580250866718886, 1242879168328830382, 1977374033974150939, 2944078676154940804, 3659926193048069267, 4368137639120453308, 4836135668995329356, 5532061633213252278, 6448918945643986474, 6902733635092675308, 7801388544844847127]
def kW : List UInt32 := [1116352408, 1899447441, 3049323471, 3921009573, 961987163, 1508970993, 2453635748, 2870763221, 3624381080, 310598401, 607225278, 1426881987, 1925078388, 2162078206, 2614888103, 3248222580, 3835390401, 4022224774, 264347078, 604807628, 770255983, 1249150122, 1555081692, 1996064986, 2554220882, 2821834349, 2952996808, 3210313671, 3336571891, 3584528711, 113926993, 338241895, 666307205, 773529912, 1294757372, 1396182291, 1695183700, 1986661051, 2177026350, 2456956037, 2730485921, 2820302411, 3259730800, 3345764771, 3516065817, 3600352804, 4094571909, 275423344, 430227734, 506948616, 659060556, 883997877, 958139571, 1322822218, 1537002063, 1747873779, 1955562222, 2024104815, 2227730452, 2361852424, 2428436474, 2756734187, 3204031479, 3329325298]
def arr64 (l : List UInt64) : List Value := l.map w64
theorem zz_k512 (I : Imm) (i : Nat) (h : i < 80) : Pure Proofs.Tryd.prog 94 [.int .i64 i] I fun w J => w = w64 ((kLo ++ kHi).getD i 0) := by
  refine Spec.enter 12 [(0, _)] Proofs.Tryd.func94 rfl Proofs.Tryd.ntmps94 (by simp) rfl ?_
  intro C hCf hR hCI
  repeat (first | refine Run.seq ?_ | refine Run.region ?_ | refine Ops.nil ?_ | refine Ops.lss rfl (by decide) rfl rfl ?_ | refine Ops.pure T rfl (by decide) rfl ?_)
  refine Run.cond rfl rfl (fun hi => ?_) (fun hi => ?_)
  all_goals (try rw [hi])
  all_goals (try simp only [decide_eq_true_eq, decide_eq_false_iff_not, Bool.not_eq_true', Bool.not_eq_false', Bool.and_eq_true, Bool.or_eq_true, Bool.and_eq_false_imp, Bool.or_eq_false_iff] at hi)
  · have hi' : i < 40 := by omega
    have hget : kLo[i]? = some (kLo.getD i 0) := by rw [List.getD_eq_getElem?_getD, List.getElem?_eq_getElem (by simp [kLo]; omega)]; rfl
    repeat (first | refine Run.seq ?_ | refine Run.region ?_)
    refine Ops.ev (Ev.buildArr (cs := arr64 kLo) T rfl rfl rfl rfl (by decide) (by decide) (by decide) (by kernel_rfl)) rfl (by decide) ?_
    repeat (first | refine Ops.pure T rfl (by decide) rfl ?_)
    refine Ops.ev (Ev.indexA T rfl rfl rfl rfl rfl (by omega) (by omega) (v := w64 (kLo.getD i 0)) ?_) rfl (by decide) ?_
    · rw [Int.toNat_natCast, arr64, List.getElem?_map, hget]; rfl
    repeat (first | refine Ops.nil ?_ | refine Ops.pure T rfl (by decide) rfl ?_)
    refine Run.fin (Run.ret1 (by rw [hCf]; exact Proofs.Tryd.func94) Proofs.Tryd.results94 rfl (hR _ _ _ ?_))
    refine ⟨rfl, ?_⟩
    rw [List.getD_eq_getElem?_getD, List.getD_eq_getElem?_getD, List.getElem?_append_left (by simp [kLo]; omega)]
  · have hget : kHi[i - 40]? = some (kHi.getD (i - 40) 0) := by rw [List.getD_eq_getElem?_getD, List.getElem?_eq_getElem (by simp [kHi]; omega)]; rfl
    repeat (first | refine Run.seq ?_ | refine Run.region ?_ | refine Run.skip ?_)
    refine Ops.ev (Ev.buildArr (cs := arr64 kHi) T rfl rfl rfl rfl (by decide) (by decide) (by decide) (by kernel_rfl)) rfl (by decide) ?_
    repeat (first | refine Ops.sub rfl (by decide) rfl rfl (wI (by first | omega | (simp only [List.length_cons, List.length_nil] ; omega) | (simp; omega)) (by first | omega | (simp only [List.length_cons, List.length_nil] ; omega) | (simp; omega))) ?_ | refine Ops.pure T rfl (by decide) rfl ?_)
    refine Ops.ev (Ev.indexA T rfl rfl rfl rfl rfl (by omega) (by omega) (v := w64 (kHi.getD (i - 40) 0)) ?_) rfl (by decide) ?_
    · rw [show ((i : Int) - 40).toNat = i - 40 by omega, arr64, List.getElem?_map, hget]; rfl
    repeat (first | refine Ops.nil ?_ | refine Ops.pure T rfl (by decide) rfl ?_)
    refine Run.fin (Run.ret1 (by rw [hCf]; exact Proofs.Tryd.func94) Proofs.Tryd.results94 rfl (hR _ _ _ ?_))
    refine ⟨rfl, ?_⟩
    rw [List.getD_eq_getElem?_getD, List.getD_eq_getElem?_getD, List.getElem?_append_right (by simp [kLo]; omega)]
    rfl
theorem kW_all : ∀ i < 64, (sr64 ((kLo ++ kHi).getD i 0) 32).toUInt32 = kW.getD i 0 := by decide +kernel
theorem zz_k256 (I : Imm) (i : Nat) (h : i < 64) : Pure Proofs.Tryd.prog 93 [.int .i64 i] I fun w J => w = w32 (kW.getD i 0) := by
  refine Spec.enter 7 [(0, _)] Proofs.Tryd.func93 rfl Proofs.Tryd.ntmps93 (by simp) rfl ?_
  intro C hCf hR hCI
  repeat (first | refine Run.seq ?_ | refine Run.region ?_ | refine Ops.nil ?_ | refine Ops.pure T rfl (by decide) rfl ?_)
  refine Ops.call ((zz_k512 I i (by omega))) rfl (by decide) Proofs.Tryd.call94 rfl ?_
  rintro _ J1 l1 rfl
  repeat (first | refine Ops.nil ?_ | refine Ops.pure T rfl (by decide) rfl ?_ | refine Ops.ev (Ev.shr64 rfl rfl (by first | omega | (simp only [List.length_cons, List.length_nil] ; omega) | (simp; omega)) (by first | omega | (simp only [List.length_cons, List.length_nil] ; omega) | (simp; omega))) rfl (by decide) ?_ | refine Ops.ev (Ev.c64_32 T rfl rfl rfl) rfl (by decide) ?_)
  refine Run.fin (Run.ret1 (by rw [hCf]; exact Proofs.Tryd.func93) Proofs.Tryd.results93 rfl (hR _ _ _ ?_))
  exact ⟨rfl, by rw [kW_all i h]⟩
theorem spec_shaWords (I : Imm) : Pure Proofs.Tryd.prog 15 [] I fun w J => w = .agg (kW.map w32).toArray := by
  refine Spec.enter 2 [] Proofs.Tryd.func15 rfl Proofs.Tryd.ntmps15 (by simp) rfl ?_
  intro C hCf hR hCI
  repeat (first | refine Run.seq ?_ | refine Run.region ?_)
  refine Ops.alloc rfl (by decide) (T.zeroOk rfl) rfl (fun b => ?_)
  repeat (first | refine Run.seq ?_ | refine Run.region ?_ | refine Ops.nil ?_)
  refine Ops.ev (Ev.buildArr (cs := kW.map w32) T rfl rfl rfl rfl (by decide) (by decide) (by decide) (by kernel_rfl)) rfl (by decide) ?_
  refine Ops.store 0 (cs' := kW.map w32) rfl rfl rfl rfl rfl (T.sizeOk rfl) (by decide) (by decide) (by decide) (by kernel_rfl) ?_
  repeat (first | refine Ops.nil ?_)
  refine Run.retC T 0 (by rw [hCf]; exact Proofs.Tryd.func15) Proofs.Tryd.results15 rfl rfl rfl rfl rfl rfl (hR _ _ _ ?_)
  exact ⟨rfl, rfl⟩
end Go.V
