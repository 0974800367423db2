import Derived.Test.YthbokkmoafodcaaDoorBPM2
import Derived.Test.YthbokkmoafodcaaDoorBPM1
import Derived.Test.YthbokkmoafodcaaDoorProg
import Derived.KernelRfl
import Derived.Deep.Quiet
import Derived.StillTail
import Derived.LaidEql
import Derived.Laws.MakeOwn
/-
  Comparisons and sums where the order is drawn; literals and appends there.
-/
namespace Go.V
open Go.RowKit
set_option linter.unusedVariables false
set_option linter.unusedSimpArgs false
section
variable {P : Program} {n : Nat} {C : Cx} {env : Env} {L : Own} {I : Imm} {ops : Array Oper} {S : World → Prop}
variable {d : Nat} {ty : TypeId} {ps : String} {af : Array Edge} {g : Option (Nat × Bool)} {t t' : TypeId} {x y : Operand} {kd : IntKind} {a b r : Int} {s u : List UInt8}
theorem Yld.lss (hg : want env ops g = some true) (hx : opnd env x = some (.int kd a)) (hy : opnd env y = some (.int kd b)) : Yld P n env ops S ⟨some d, .binOp .lss t x y t', ty, ps, af, g⟩ (.bool (decide (a < b))) :=
  Yld.val hg fun c W he _ => by simp [execOp, eval_opnd he hx, eval_opnd he hy, run_eqGuard_int, binOp, Op.intCmp]
theorem Yld.leq (hg : want env ops g = some true) (hx : opnd env x = some (.int kd a)) (hy : opnd env y = some (.int kd b)) : Yld P n env ops S ⟨some d, .binOp .leq t x y t', ty, ps, af, g⟩ (.bool (decide (a ≤ b))) :=
  Yld.val hg fun c W he _ => by simp [execOp, eval_opnd he hx, eval_opnd he hy, run_eqGuard_int, binOp, Op.intCmp]
theorem Yld.gtr (hg : want env ops g = some true) (hx : opnd env x = some (.int kd a)) (hy : opnd env y = some (.int kd b)) : Yld P n env ops S ⟨some d, .binOp .gtr t x y t', ty, ps, af, g⟩ (.bool (decide (b < a))) :=
  Yld.val hg fun c W he _ => by simp [execOp, eval_opnd he hx, eval_opnd he hy, run_eqGuard_int, binOp, Op.intCmp]
theorem Yld.geq (hg : want env ops g = some true) (hx : opnd env x = some (.int kd a)) (hy : opnd env y = some (.int kd b)) : Yld P n env ops S ⟨some d, .binOp .geq t x y t', ty, ps, af, g⟩ (.bool (decide (b ≤ a))) :=
  Yld.val hg fun c W he _ => by simp [execOp, eval_opnd he hx, eval_opnd he hy, run_eqGuard_int, binOp, Op.intCmp]
theorem Yld.eqlI (hg : want env ops g = some true) (hx : opnd env x = some (.int kd a)) (hy : opnd env y = some (.int kd b)) : Yld P n env ops S ⟨some d, .binOp .eql t x y t', ty, ps, af, g⟩ (.bool (decide (a = b))) :=
  Yld.val hg fun c W he _ => by simp [execOp, eval_opnd he hx, eval_opnd he hy, run_eqGuard_int, binOp, Op.intCmp]; rfl
theorem Yld.neqI (hg : want env ops g = some true) (hx : opnd env x = some (.int kd a)) (hy : opnd env y = some (.int kd b)) : Yld P n env ops S ⟨some d, .binOp .neq t x y t', ty, ps, af, g⟩ (.bool (!decide (a = b))) :=
  Yld.val hg fun c W he _ => by simp [execOp, eval_opnd he hx, eval_opnd he hy, run_eqGuard_int, binOp, Op.intCmp]; rfl
theorem Yld.sub (hg : want env ops g = some true) (hx : opnd env x = some (.int kd a)) (hy : opnd env y = some (.int kd b)) (hr : kd.wrap (a - b) = r) : Yld P n env ops S ⟨some d, .binOp .sub t x y t', ty, ps, af, g⟩ (.int kd r) :=
  Yld.val hg fun c W he _ => by subst hr; simp [execOp, eval_opnd he hx, eval_opnd he hy, run_eqGuard_int, binOp, Op.intArith]
theorem Yld.add (hg : want env ops g = some true) (hx : opnd env x = some (.int kd a)) (hy : opnd env y = some (.int kd b)) (hr : kd.wrap (a + b) = r) : Yld P n env ops S ⟨some d, .binOp .add t x y t', ty, ps, af, g⟩ (.int kd r) :=
  Yld.val hg fun c W he _ => by subst hr; simp [execOp, eval_opnd he hx, eval_opnd he hy, run_eqGuard_int, binOp, Op.intArith]
theorem Yld.eqlS (hg : want env ops g = some true) (hx : opnd env x = some (str s)) (hy : opnd env y = some (str u)) : Yld P n env ops S ⟨some d, .binOp .eql t x y t', ty, ps, af, g⟩ (.bool (decide (s = u))) :=
  Yld.val hg fun c W he _ => by
    have : (s == u) = decide (s = u) := by rw [Bool.eq_iff_iff]; simp
    simp [execOp, eval_opnd he hx, eval_opnd he hy, str, run_eqGuard_string, binOp, Op.stringOp, str_toList, this]
theorem Yld.catS (hg : want env ops g = some true) (hx : opnd env x = some (str s)) (hy : opnd env y = some (str u)) (hlen : s.length + u.length ≤ 9223372036854775807) : Yld P n env ops S ⟨some d, .binOp .add t x y t', ty, ps, af, g⟩ (str (s ++ u)) :=
  Yld.val hg fun c W he _ => by
    simp [execOp, eval_opnd he hx, eval_opnd he hy, str, run_eqGuard_string, binOp, Op.stringOp, str_size, str_append]; omega
theorem Yld.indexS {ts : TypeId} {ix : Operand} {j : Int} (T : Tab P) (hg : want env ops g = some true) (hu : T.und ts = some .string) (hx : opnd env x = some (str s)) (hi : opnd env ix = some (.int kd j)) (h0 : 0 ≤ j) (h1 : j < s.length) : Yld P n env ops S ⟨some d, .index ts x ix, ty, ps, af, g⟩ (.int .u8 ((s.getD j.toNat 0).toNat : Int)) :=
  Yld.val hg fun c W he _ => by
    have hj : j.toNat < s.length := by omega
    have : (⟨s.toArray⟩ : ByteArray)[j.toNat]? = some (s.getD j.toNat 0) := by
      rw [getElem?_pos (⟨s.toArray⟩ : ByteArray) j.toNat (by rw [str_size]; exact hj)]
      simp [List.getD_eq_getElem?_getD, hj, ByteArray.getElem_eq_getElem_data]
    simp [execOp, Instr.index, eval_opnd he hx, eval_opnd he hi, asIntOf, T.undOk hu, str, h0, this]
theorem Yld.lenS {ts : TypeId} (T : Tab P) (hg : want env ops g = some true) (hu : T.und ts = some .string) (hx : opnd env x = some (str s)) : Yld P n env ops S ⟨some d, .call ⟨.builtin .len, #[x], #[ts]⟩, ty, ps, af, g⟩ (.int .i64 s.length) :=
  Yld.val hg fun c W he _ => by simp [execOp, resolve, invoke, builtin, Builtin.len_, eval_opnd he hx, T.undOk hu, str, goInt, str_size]
theorem Eff.buildSlice {t e : TypeId} {len size : Nat} {xs : List (Nat × Operand)} {vs : List (Nat × Value)} {z : Value} {cs : List Value} {K : Value → Own → Imm → Prop}
    (hu : ∀ w, (underlying t).run P w = .ok (.slice e) w) (hz : ∀ w, (zeroValue e).run P w = .ok z w) (hs : ∀ w, (sizeOf e).run P w = .ok size w)
    (hlen : len * size ≤ 16777216) (hx : parts env xs = some vs) (hf : Instr.fill (fun i => some (i * size, size)) ((Array.range (len * size)).map (z.cells[· % z.cells.size]!)) vs = some cs.toArray)
    (next : ∀ b, K (.slice (some ⟨b, 0, none⟩) len len) ((b, blk cs e) :: L) I) : Eff P n C env L I ⟨some d, .buildSlice t len xs.toArray, ty, ps, af, g⟩ K :=
  Eff.valW fun a W he hi => ⟨.slice (some ⟨W.heap.size, 0, none⟩) len len, W.alloc (blk cs e), (W.heap.size, blk cs e) :: L, I,
    .inl (by
      have h1 : ¬ (len * size > 2 ^ 24) := by omega
      have h2 := parts_spec he hx
      have hmap : (List.map (fun (x : Nat × Operand) => match x with | (i, x) => (i, a.eval x)) xs) = vs := h2
      simp only [execOp, Instr.buildSlice, Sem.run_bind, hu, hs, Result.andThen_ok, h1, if_false, List.map_toArray, hmap, pure_bind, Sem.run_pure]
      by_cases h0 : len * size = 0
      · rw [if_pos h0]
        have hf' : Instr.fill (fun i => some (i * size, size)) ((Array.range (len * size)).map ((#[] : Array Value)[· % (#[] : Array Value).size]!)) vs = some cs.toArray := by
          have e : ∀ f : Nat → Value, (Array.range 0).map f = #[] := fun f => by simp
          rw [h0, e] at hf ⊢; exact hf
        simp only [hf']
        rfl
      · rw [if_neg h0]
        simp only [Sem.run_bind, hz, Result.andThen_ok, hf]
        rfl), hi.alloc _, next _⟩
theorem Eff.append {s x : Operand} {ts tx e : TypeId} {size bytes : Nat} {M N : Own} {v xv : Value} {m q : Nat} {xs news : List Value} {K : Value → Own → Imm → Prop} (hE : Elem P ts e size bytes)
    (hs : opnd env s = some v) (hx : opnd env x = some xv) (hL : L.Perm (M ++ N)) (hG : Grows e size v m xs M)
    (hsrc : ∀ W, Inv C.w0 C.I0 C.L0 I L W → Src P size tx xv q news W) (hbytes : (2 * (m + q) + 512) * bytes ≤ 281474976710656) (h63 : m + q ≤ 4611686018427387904)
    (next : ∀ v' M', Grows e size v' (m + q) (xs ++ news) M' → K v' (M' ++ N) I) :
    Eff P n C env L I ⟨some d, .call ⟨.builtin .append, #[s, x], #[ts, tx]⟩, ty, ps, af, g⟩ K :=
  Eff.valW fun a W he hi => by
    obtain ⟨v', W', M', hr, hG', hi'⟩ := run_append_grows (P := P) (ty := ty) hE (hi.perm hL) hG (hsrc W hi) hbytes h63
    refine ⟨v', W', M' ++ N, I, .inl ?_, hi', next v' M' hG'⟩
    simp [execOp, resolve, invoke, builtin, eval_opnd he hs, eval_opnd he hx, hr]
end
theorem Yld.as {P : Program} {n : Nat} {env : Env} {ops : Array Oper} {S : World → Prop} {o : Oper} {v v' : Value} (h : Yld P n env ops S o v) (e : v = v') : Yld P n env ops S o v' := e ▸ h
end Go.V
/-
  Arrays' elements; types asked; methods of interfaces called.
-/
namespace Go.V
open Go.RowKit
set_option linter.unusedVariables false
set_option linter.unusedSimpArgs false
section
variable {P : Program} {n : Nat} {C : Cx} {k : List Item} {env : Env} {L : Own} {I : Imm} {ops : Array Oper} {i : Nat} {l : List Oper}
variable {ty : TypeId} {ps : String} {af : Array Edge} {g : Option (Nat × Bool)} {d : Nat}
end
theorem Yld.sliceLo {P : Program} {n : Nat} {env : Env} {ops : Array Oper} {S : World → Prop} {ty : TypeId} {ps : String} {af : Array Edge} {g : Option (Nat × Bool)} {d : Nat} {x lo : Operand} {ts : TypeId} {s : List UInt8} {kd : IntKind} {j : Int} (T : Tab P) (hg : want env ops g = some true) (hu : T.und ts = some .string) (hx : opnd env x = some (str s))
    (hlo : opnd env lo = some (.int kd j)) (h0 : 0 ≤ j) (h1 : j ≤ s.length) : Yld P n env ops S ⟨some d, .slice ts x (some lo) none none, ty, ps, af, g⟩ (str (s.drop j.toNat)) :=
  Yld.val hg fun c W he _ => by
    have hj := run_sliceBound (P := P) (v := .int kd j) (y := s.length) (code := .sliceB) rfl h0 (by omega) W
    have ht : s.take s.length = s := List.take_length
    simp [execOp, Instr.sliceAt, Instr.slice, Instr.sliceBounds, eval_opnd he hx, eval_opnd he hlo, T.undOk hu, str, str_size, hj, str_extract, ht]
theorem Eff.lit {P : Program} {n : Nat} {C : Cx} {env : Env} {L : Own} {I : Imm} {ty : TypeId} {ps : String} {af : Array Edge} {g : Option (Nat × Bool)} {d : Nat} {K : Value → Own → Imm → Prop} {t e : TypeId} {len size : Nat} {xs : List (Nat × Operand)} {ps' : List (Nat × Value)} {z : Value} {cs : List Value} (T : Tab P)
    (hu : T.und t = some (.slice e)) (hz : T.zero e = some z) (hs : T.size e = some size) (hpos : 0 < size)
    (hlen : len * size ≤ 16777216) (hx : parts env xs = some ps') (hn : ps'.length = len) (hi : ps'.map Prod.fst = List.range' 0 len) (hsz : ps'.all (fun p => p.2.cells.size == size) = true) (hcs : (ps'.map Prod.snd).flatMap (fun v => v.cells.toList) = cs)
    (next : ∀ b, K (.slice (some ⟨b, 0, none⟩) len len) ((b, blk cs e) :: L) I) : Eff P n C env L I ⟨some d, .buildSlice t len xs.toArray, ty, ps, af, g⟩ K := by
  subst hn
  refine Eff.buildSlice (T.undOk hu) (T.zeroOk hz) (T.sizeOk hs) hlen hx ?_ next
  have h := Great.fill_whole hpos (ps'.map Prod.snd) ((Array.range (ps'.length * size)).map (z.cells[· % z.cells.size]!)) ?_ ?_
  · rw [zip_enum ps' 0 (by simpa using hi), hcs] at h; exact h
  · intro v hv
    obtain ⟨p, hp, rfl⟩ := List.mem_map.1 hv
    simpa using List.all_eq_true.1 hsz p hp
  · simp
end Go.V
/-
  Which type stands where in this seat's translation: by its own numbers. Written by gen_types.py.
-/
namespace Go.V
set_option linter.unusedVariables false
set_option maxRecDepth 100000
noncomputable def undL : List TypeDesc := [Proofs.Tryd.t0.desc, Proofs.Tryd.t1.desc, Proofs.Tryd.t2.desc, Proofs.Tryd.t3.desc, Proofs.Tryd.t4.desc, Proofs.Tryd.t5.desc, Proofs.Tryd.t5.desc, Proofs.Tryd.t7.desc, Proofs.Tryd.t7.desc, Proofs.Tryd.t9.desc, Proofs.Tryd.t9.desc, Proofs.Tryd.t9.desc, Proofs.Tryd.t12.desc, Proofs.Tryd.t13.desc, Proofs.Tryd.t13.desc, Proofs.Tryd.t15.desc, Proofs.Tryd.t16.desc, Proofs.Tryd.t17.desc, Proofs.Tryd.t18.desc, Proofs.Tryd.t18.desc, Proofs.Tryd.t20.desc, Proofs.Tryd.t21.desc, Proofs.Tryd.t22.desc, Proofs.Tryd.t23.desc, Proofs.Tryd.t23.desc, Proofs.Tryd.t25.desc, Proofs.Tryd.t26.desc, Proofs.Tryd.t27.desc, Proofs.Tryd.t28.desc, Proofs.Tryd.t29.desc, Proofs.Tryd.t30.desc, Proofs.Tryd.t31.desc, Proofs.Tryd.t32.desc, Proofs.Tryd.t33.desc, Proofs.Tryd.t34.desc, Proofs.Tryd.t35.desc, Proofs.Tryd.t36.desc, Proofs.Tryd.t37.desc, Proofs.Tryd.t23.desc, Proofs.Tryd.t39.desc, Proofs.Tryd.t39.desc, Proofs.Tryd.t41.desc, Proofs.Tryd.t42.desc, Proofs.Tryd.t43.desc, Proofs.Tryd.t44.desc, Proofs.Tryd.t45.desc, Proofs.Tryd.t45.desc, Proofs.Tryd.t47.desc, Proofs.Tryd.t47.desc, Proofs.Tryd.t49.desc, Proofs.Tryd.t50.desc, Proofs.Tryd.t51.desc, Proofs.Tryd.t52.desc, Proofs.Tryd.t53.desc, Proofs.Tryd.t54.desc, Proofs.Tryd.t55.desc, Proofs.Tryd.t56.desc, Proofs.Tryd.t57.desc, Proofs.Tryd.t58.desc, Proofs.Tryd.t59.desc, Proofs.Tryd.t60.desc, Proofs.Tryd.t61.desc, Proofs.Tryd.t62.desc, Proofs.Tryd.t63.desc, Proofs.Tryd.t64.desc, Proofs.Tryd.t65.desc, Proofs.Tryd.t66.desc, Proofs.Tryd.t67.desc, Proofs.Tryd.t68.desc, Proofs.Tryd.t68.desc, Proofs.Tryd.t70.desc, Proofs.Tryd.t71.desc, Proofs.Tryd.t72.desc, Proofs.Tryd.t73.desc, Proofs.Tryd.t74.desc, Proofs.Tryd.t75.desc, Proofs.Tryd.t76.desc, Proofs.Tryd.t76.desc, Proofs.Tryd.t78.desc, Proofs.Tryd.t79.desc, Proofs.Tryd.t80.desc, Proofs.Tryd.t81.desc, Proofs.Tryd.t82.desc, Proofs.Tryd.t83.desc, Proofs.Tryd.t84.desc, Proofs.Tryd.t85.desc, Proofs.Tryd.t86.desc, Proofs.Tryd.t87.desc, Proofs.Tryd.t88.desc, Proofs.Tryd.t88.desc, Proofs.Tryd.t90.desc, Proofs.Tryd.t90.desc, Proofs.Tryd.t92.desc, Proofs.Tryd.t93.desc, Proofs.Tryd.t94.desc, Proofs.Tryd.t95.desc, Proofs.Tryd.t96.desc, Proofs.Tryd.t97.desc, Proofs.Tryd.t98.desc, Proofs.Tryd.t98.desc, Proofs.Tryd.t100.desc, Proofs.Tryd.t101.desc, Proofs.Tryd.t101.desc, Proofs.Tryd.t103.desc, Proofs.Tryd.t104.desc, Proofs.Tryd.t105.desc, Proofs.Tryd.t105.desc, Proofs.Tryd.t107.desc, Proofs.Tryd.t108.desc, Proofs.Tryd.t9.desc, Proofs.Tryd.t110.desc, Proofs.Tryd.t111.desc, Proofs.Tryd.t112.desc, Proofs.Tryd.t112.desc, Proofs.Tryd.t114.desc, Proofs.Tryd.t115.desc, Proofs.Tryd.t115.desc, Proofs.Tryd.t117.desc, Proofs.Tryd.t118.desc, Proofs.Tryd.t119.desc, Proofs.Tryd.t119.desc, Proofs.Tryd.t121.desc, Proofs.Tryd.t122.desc, Proofs.Tryd.t123.desc, Proofs.Tryd.t124.desc, Proofs.Tryd.t125.desc, Proofs.Tryd.t125.desc, Proofs.Tryd.t127.desc, Proofs.Tryd.t128.desc, Proofs.Tryd.t129.desc, Proofs.Tryd.t130.desc, Proofs.Tryd.t131.desc, Proofs.Tryd.t131.desc, Proofs.Tryd.t133.desc, Proofs.Tryd.t134.desc, Proofs.Tryd.t135.desc, Proofs.Tryd.t136.desc, Proofs.Tryd.t137.desc, Proofs.Tryd.t138.desc, Proofs.Tryd.t139.desc, Proofs.Tryd.t140.desc, Proofs.Tryd.t140.desc, Proofs.Tryd.t142.desc, Proofs.Tryd.t143.desc, Proofs.Tryd.t144.desc, Proofs.Tryd.t145.desc, Proofs.Tryd.t146.desc, Proofs.Tryd.t147.desc, Proofs.Tryd.t147.desc, Proofs.Tryd.t149.desc, Proofs.Tryd.t150.desc, Proofs.Tryd.t150.desc, Proofs.Tryd.t152.desc, Proofs.Tryd.t153.desc, Proofs.Tryd.t153.desc, Proofs.Tryd.t155.desc, Proofs.Tryd.t5.desc, Proofs.Tryd.t5.desc, Proofs.Tryd.t158.desc, Proofs.Tryd.t159.desc, Proofs.Tryd.t21.desc, Proofs.Tryd.t21.desc, Proofs.Tryd.t162.desc, Proofs.Tryd.t162.desc, Proofs.Tryd.t164.desc, Proofs.Tryd.t165.desc, Proofs.Tryd.t166.desc, Proofs.Tryd.t166.desc, Proofs.Tryd.t168.desc, Proofs.Tryd.t169.desc, Proofs.Tryd.t170.desc, Proofs.Tryd.t9.desc, Proofs.Tryd.t172.desc, Proofs.Tryd.t173.desc, Proofs.Tryd.t174.desc, Proofs.Tryd.t175.desc, Proofs.Tryd.t176.desc, Proofs.Tryd.t177.desc, Proofs.Tryd.t178.desc, Proofs.Tryd.t179.desc, Proofs.Tryd.t180.desc, Proofs.Tryd.t181.desc]
noncomputable def tiL : List TypeInfo := [Proofs.Tryd.t0, Proofs.Tryd.t1, Proofs.Tryd.t2, Proofs.Tryd.t3, Proofs.Tryd.t4, Proofs.Tryd.t5, Proofs.Tryd.t6, Proofs.Tryd.t7, Proofs.Tryd.t8, Proofs.Tryd.t9, Proofs.Tryd.t10, Proofs.Tryd.t11, Proofs.Tryd.t12, Proofs.Tryd.t13, Proofs.Tryd.t14, Proofs.Tryd.t15, Proofs.Tryd.t16, Proofs.Tryd.t17, Proofs.Tryd.t18, Proofs.Tryd.t19, Proofs.Tryd.t20, Proofs.Tryd.t21, Proofs.Tryd.t22, Proofs.Tryd.t23, Proofs.Tryd.t24, Proofs.Tryd.t25, Proofs.Tryd.t26, Proofs.Tryd.t27, Proofs.Tryd.t28, Proofs.Tryd.t29, Proofs.Tryd.t30, Proofs.Tryd.t31, Proofs.Tryd.t32, Proofs.Tryd.t33, Proofs.Tryd.t34, Proofs.Tryd.t35, Proofs.Tryd.t36, Proofs.Tryd.t37, Proofs.Tryd.t38, Proofs.Tryd.t39, Proofs.Tryd.t40, Proofs.Tryd.t41, Proofs.Tryd.t42, Proofs.Tryd.t43, Proofs.Tryd.t44, Proofs.Tryd.t45, Proofs.Tryd.t46, Proofs.Tryd.t47, Proofs.Tryd.t48, Proofs.Tryd.t49, Proofs.Tryd.t50, Proofs.Tryd.t51, Proofs.Tryd.t52, Proofs.Tryd.t53, Proofs.Tryd.t54, Proofs.Tryd.t55, Proofs.Tryd.t56, Proofs.Tryd.t57, Proofs.Tryd.t58, Proofs.Tryd.t59, Proofs.Tryd.t60, Proofs.Tryd.t61, Proofs.Tryd.t62, Proofs.Tryd.t63, Proofs.Tryd.t64, Proofs.Tryd.t65, Proofs.Tryd.t66, Proofs.Tryd.t67, Proofs.Tryd.t68, Proofs.Tryd.t69, Proofs.Tryd.t70, Proofs.Tryd.t71, Proofs.Tryd.t72, Proofs.Tryd.t73, Proofs.Tryd.t74, Proofs.Tryd.t75, Proofs.Tryd.t76, Proofs.Tryd.t77, Proofs.Tryd.t78, Proofs.Tryd.t79, Proofs.Tryd.t80, Proofs.Tryd.t81, Proofs.Tryd.t82, Proofs.Tryd.t83, Proofs.Tryd.t84, Proofs.Tryd.t85, Proofs.Tryd.t86, Proofs.Tryd.t87, Proofs.Tryd.t88, Proofs.Tryd.t89, Proofs.Tryd.t90, Proofs.Tryd.t91, Proofs.Tryd.t92, Proofs.Tryd.t93, Proofs.Tryd.t94, Proofs.Tryd.t95, Proofs.Tryd.t96, Proofs.Tryd.t97, Proofs.Tryd.t98, Proofs.Tryd.t99, Proofs.Tryd.t100, Proofs.Tryd.t101, Proofs.Tryd.t102, Proofs.Tryd.t103, Proofs.Tryd.t104, Proofs.Tryd.t105, Proofs.Tryd.t106, Proofs.Tryd.t107, Proofs.Tryd.t108, Proofs.Tryd.t109, Proofs.Tryd.t110, Proofs.Tryd.t111, Proofs.Tryd.t112, Proofs.Tryd.t113, Proofs.Tryd.t114, Proofs.Tryd.t115, Proofs.Tryd.t116, Proofs.Tryd.t117, Proofs.Tryd.t118, Proofs.Tryd.t119, Proofs.Tryd.t120, Proofs.Tryd.t121, Proofs.Tryd.t122, Proofs.Tryd.t123, Proofs.Tryd.t124, Proofs.Tryd.t125, Proofs.Tryd.t126, Proofs.Tryd.t127, Proofs.Tryd.t128, Proofs.Tryd.t129, Proofs.Tryd.t130, Proofs.Tryd.t131, Proofs.Tryd.t132, Proofs.Tryd.t133, Proofs.Tryd.t134, Proofs.Tryd.t135, Proofs.Tryd.t136, Proofs.Tryd.t137, Proofs.Tryd.t138, Proofs.Tryd.t139, Proofs.Tryd.t140, Proofs.Tryd.t141, Proofs.Tryd.t142, Proofs.Tryd.t143, Proofs.Tryd.t144, Proofs.Tryd.t145, Proofs.Tryd.t146, Proofs.Tryd.t147, Proofs.Tryd.t148, Proofs.Tryd.t149, Proofs.Tryd.t150, Proofs.Tryd.t151, Proofs.Tryd.t152, Proofs.Tryd.t153, Proofs.Tryd.t154, Proofs.Tryd.t155, Proofs.Tryd.t156, Proofs.Tryd.t157, Proofs.Tryd.t158, Proofs.Tryd.t159, Proofs.Tryd.t160, Proofs.Tryd.t161, Proofs.Tryd.t162, Proofs.Tryd.t163, Proofs.Tryd.t164, Proofs.Tryd.t165, Proofs.Tryd.t166, Proofs.Tryd.t167, Proofs.Tryd.t168, Proofs.Tryd.t169, Proofs.Tryd.t170, Proofs.Tryd.t171, Proofs.Tryd.t172, Proofs.Tryd.t173, Proofs.Tryd.t174, Proofs.Tryd.t175, Proofs.Tryd.t176, Proofs.Tryd.t177, Proofs.Tryd.t178, Proofs.Tryd.t179, Proofs.Tryd.t180, Proofs.Tryd.t181]
def AllU (P : Program) : Nat → List TypeDesc → Prop
  | _, [] => True
  | i, u :: r => (∀ w, (underlying i).run P w = .ok u w) ∧ AllU P (i + 1) r
def AllI (P : Program) : Nat → List TypeInfo → Prop
  | _, [] => True
  | i, u :: r => (∀ w, (typeInfo i).run P w = .ok u w) ∧ AllI P (i + 1) r
theorem AllU.get {P : Program} : ∀ {l : List TypeDesc} {i t : Nat} {u : TypeDesc}, AllU P i l → l[t]? = some u → ∀ w, (underlying (i + t)).run P w = .ok u w
  | [], i, t, u, _, h => by simp at h
  | x :: r, i, 0, u, h, e => by simp at e; subst e; exact h.1
  | x :: r, i, t + 1, u, h, e => by
    have := AllU.get h.2 (t := t) (by simpa using e)
    rwa [show i + 1 + t = i + (t + 1) by omega] at this
theorem AllI.get {P : Program} : ∀ {l : List TypeInfo} {i t : Nat} {u : TypeInfo}, AllI P i l → l[t]? = some u → ∀ w, (typeInfo (i + t)).run P w = .ok u w
  | [], i, t, u, _, h => by simp at h
  | x :: r, i, 0, u, h, e => by simp at e; subst e; exact h.1
  | x :: r, i, t + 1, u, h, e => by
    have := AllI.get h.2 (t := t) (by simpa using e)
    rwa [show i + 1 + t = i + (t + 1) by omega] at this
theorem undL_all : AllU Proofs.Tryd.prog 0 undL := ⟨Proofs.Tryd.runUnderlying0, Proofs.Tryd.runUnderlying1, Proofs.Tryd.runUnderlying2, Proofs.Tryd.runUnderlying3, Proofs.Tryd.runUnderlying4, Proofs.Tryd.runUnderlying5, Proofs.Tryd.runUnderlying6, Proofs.Tryd.runUnderlying7, Proofs.Tryd.runUnderlying8, Proofs.Tryd.runUnderlying9, Proofs.Tryd.runUnderlying10, Proofs.Tryd.runUnderlying11, Proofs.Tryd.runUnderlying12, Proofs.Tryd.runUnderlying13, Proofs.Tryd.runUnderlying14, Proofs.Tryd.runUnderlying15, Proofs.Tryd.runUnderlying16, Proofs.Tryd.runUnderlying17, Proofs.Tryd.runUnderlying18, Proofs.Tryd.runUnderlying19, Proofs.Tryd.runUnderlying20, Proofs.Tryd.runUnderlying21, Proofs.Tryd.runUnderlying22, Proofs.Tryd.runUnderlying23, Proofs.Tryd.runUnderlying24, Proofs.Tryd.runUnderlying25, Proofs.Tryd.runUnderlying26, Proofs.Tryd.runUnderlying27, Proofs.Tryd.runUnderlying28, Proofs.Tryd.runUnderlying29, Proofs.Tryd.runUnderlying30, Proofs.Tryd.runUnderlying31, Proofs.Tryd.runUnderlying32, Proofs.Tryd.runUnderlying33, Proofs.Tryd.runUnderlying34, Proofs.Tryd.runUnderlying35, Proofs.Tryd.runUnderlying36, Proofs.Tryd.runUnderlying37, Proofs.Tryd.runUnderlying38, Proofs.Tryd.runUnderlying39, Proofs.Tryd.runUnderlying40, Proofs.Tryd.runUnderlying41, Proofs.Tryd.runUnderlying42, Proofs.Tryd.runUnderlying43, Proofs.Tryd.runUnderlying44, Proofs.Tryd.runUnderlying45, Proofs.Tryd.runUnderlying46, Proofs.Tryd.runUnderlying47, Proofs.Tryd.runUnderlying48, Proofs.Tryd.runUnderlying49, Proofs.Tryd.runUnderlying50, Proofs.Tryd.runUnderlying51, Proofs.Tryd.runUnderlying52, Proofs.Tryd.runUnderlying53, Proofs.Tryd.runUnderlying54, Proofs.Tryd.runUnderlying55, Proofs.Tryd.runUnderlying56, Proofs.Tryd.runUnderlying57, Proofs.Tryd.runUnderlying58, Proofs.Tryd.runUnderlying59, Proofs.Tryd.runUnderlying60, Proofs.Tryd.runUnderlying61, Proofs.Tryd.runUnderlying62, Proofs.Tryd.runUnderlying63, Proofs.Tryd.runUnderlying64, Proofs.Tryd.runUnderlying65, Proofs.Tryd.runUnderlying66, Proofs.Tryd.runUnderlying67, Proofs.Tryd.runUnderlying68, Proofs.Tryd.runUnderlying69, Proofs.Tryd.runUnderlying70, Proofs.Tryd.runUnderlying71, Proofs.Tryd.runUnderlying72, Proofs.Tryd.runUnderlying73, Proofs.Tryd.runUnderlying74, Proofs.Tryd.runUnderlying75, Proofs.Tryd.runUnderlying76, Proofs.Tryd.runUnderlying77, Proofs.Tryd.runUnderlying78, Proofs.Tryd.runUnderlying79, Proofs.Tryd.runUnderlying80, Proofs.Tryd.runUnderlying81, Proofs.Tryd.runUnderlying82, Proofs.Tryd.runUnderlying83, Proofs.Tryd.runUnderlying84, Proofs.Tryd.runUnderlying85, Proofs.Tryd.runUnderlying86, Proofs.Tryd.runUnderlying87, Proofs.Tryd.runUnderlying88, Proofs.Tryd.runUnderlying89, Proofs.Tryd.runUnderlying90, Proofs.Tryd.runUnderlying91, Proofs.Tryd.runUnderlying92, Proofs.Tryd.runUnderlying93, Proofs.Tryd.runUnderlying94, Proofs.Tryd.runUnderlying95, Proofs.Tryd.runUnderlying96, Proofs.Tryd.runUnderlying97, Proofs.Tryd.runUnderlying98, Proofs.Tryd.runUnderlying99, Proofs.Tryd.runUnderlying100, Proofs.Tryd.runUnderlying101, Proofs.Tryd.runUnderlying102, Proofs.Tryd.runUnderlying103, Proofs.Tryd.runUnderlying104, Proofs.Tryd.runUnderlying105, Proofs.Tryd.runUnderlying106, Proofs.Tryd.runUnderlying107, Proofs.Tryd.runUnderlying108, Proofs.Tryd.runUnderlying109, Proofs.Tryd.runUnderlying110, Proofs.Tryd.runUnderlying111, Proofs.Tryd.runUnderlying112, Proofs.Tryd.runUnderlying113, Proofs.Tryd.runUnderlying114, Proofs.Tryd.runUnderlying115, Proofs.Tryd.runUnderlying116, Proofs.Tryd.runUnderlying117, Proofs.Tryd.runUnderlying118, Proofs.Tryd.runUnderlying119, Proofs.Tryd.runUnderlying120, Proofs.Tryd.runUnderlying121, Proofs.Tryd.runUnderlying122, Proofs.Tryd.runUnderlying123, Proofs.Tryd.runUnderlying124, Proofs.Tryd.runUnderlying125, Proofs.Tryd.runUnderlying126, Proofs.Tryd.runUnderlying127, Proofs.Tryd.runUnderlying128, Proofs.Tryd.runUnderlying129, Proofs.Tryd.runUnderlying130, Proofs.Tryd.runUnderlying131, Proofs.Tryd.runUnderlying132, Proofs.Tryd.runUnderlying133, Proofs.Tryd.runUnderlying134, Proofs.Tryd.runUnderlying135, Proofs.Tryd.runUnderlying136, Proofs.Tryd.runUnderlying137, Proofs.Tryd.runUnderlying138, Proofs.Tryd.runUnderlying139, Proofs.Tryd.runUnderlying140, Proofs.Tryd.runUnderlying141, Proofs.Tryd.runUnderlying142, Proofs.Tryd.runUnderlying143, Proofs.Tryd.runUnderlying144, Proofs.Tryd.runUnderlying145, Proofs.Tryd.runUnderlying146, Proofs.Tryd.runUnderlying147, Proofs.Tryd.runUnderlying148, Proofs.Tryd.runUnderlying149, Proofs.Tryd.runUnderlying150, Proofs.Tryd.runUnderlying151, Proofs.Tryd.runUnderlying152, Proofs.Tryd.runUnderlying153, Proofs.Tryd.runUnderlying154, Proofs.Tryd.runUnderlying155, Proofs.Tryd.runUnderlying156, Proofs.Tryd.runUnderlying157, Proofs.Tryd.runUnderlying158, Proofs.Tryd.runUnderlying159, Proofs.Tryd.runUnderlying160, Proofs.Tryd.runUnderlying161, Proofs.Tryd.runUnderlying162, Proofs.Tryd.runUnderlying163, Proofs.Tryd.runUnderlying164, Proofs.Tryd.runUnderlying165, Proofs.Tryd.runUnderlying166, Proofs.Tryd.runUnderlying167, Proofs.Tryd.runUnderlying168, Proofs.Tryd.runUnderlying169, Proofs.Tryd.runUnderlying170, Proofs.Tryd.runUnderlying171, Proofs.Tryd.runUnderlying172, Proofs.Tryd.runUnderlying173, Proofs.Tryd.runUnderlying174, Proofs.Tryd.runUnderlying175, Proofs.Tryd.runUnderlying176, Proofs.Tryd.runUnderlying177, Proofs.Tryd.runUnderlying178, Proofs.Tryd.runUnderlying179, Proofs.Tryd.runUnderlying180, Proofs.Tryd.runUnderlying181, trivial⟩
theorem tiL_all : AllI Proofs.Tryd.prog 0 tiL := ⟨Proofs.Tryd.typeInfo0, Proofs.Tryd.typeInfo1, Proofs.Tryd.typeInfo2, Proofs.Tryd.typeInfo3, Proofs.Tryd.typeInfo4, Proofs.Tryd.typeInfo5, Proofs.Tryd.typeInfo6, Proofs.Tryd.typeInfo7, Proofs.Tryd.typeInfo8, Proofs.Tryd.typeInfo9, Proofs.Tryd.typeInfo10, Proofs.Tryd.typeInfo11, Proofs.Tryd.typeInfo12, Proofs.Tryd.typeInfo13, Proofs.Tryd.typeInfo14, Proofs.Tryd.typeInfo15, Proofs.Tryd.typeInfo16, Proofs.Tryd.typeInfo17, Proofs.Tryd.typeInfo18, Proofs.Tryd.typeInfo19, Proofs.Tryd.typeInfo20, Proofs.Tryd.typeInfo21, Proofs.Tryd.typeInfo22, Proofs.Tryd.typeInfo23, Proofs.Tryd.typeInfo24, Proofs.Tryd.typeInfo25, Proofs.Tryd.typeInfo26, Proofs.Tryd.typeInfo27, Proofs.Tryd.typeInfo28, Proofs.Tryd.typeInfo29, Proofs.Tryd.typeInfo30, Proofs.Tryd.typeInfo31, Proofs.Tryd.typeInfo32, Proofs.Tryd.typeInfo33, Proofs.Tryd.typeInfo34, Proofs.Tryd.typeInfo35, Proofs.Tryd.typeInfo36, Proofs.Tryd.typeInfo37, Proofs.Tryd.typeInfo38, Proofs.Tryd.typeInfo39, Proofs.Tryd.typeInfo40, Proofs.Tryd.typeInfo41, Proofs.Tryd.typeInfo42, Proofs.Tryd.typeInfo43, Proofs.Tryd.typeInfo44, Proofs.Tryd.typeInfo45, Proofs.Tryd.typeInfo46, Proofs.Tryd.typeInfo47, Proofs.Tryd.typeInfo48, Proofs.Tryd.typeInfo49, Proofs.Tryd.typeInfo50, Proofs.Tryd.typeInfo51, Proofs.Tryd.typeInfo52, Proofs.Tryd.typeInfo53, Proofs.Tryd.typeInfo54, Proofs.Tryd.typeInfo55, Proofs.Tryd.typeInfo56, Proofs.Tryd.typeInfo57, Proofs.Tryd.typeInfo58, Proofs.Tryd.typeInfo59, Proofs.Tryd.typeInfo60, Proofs.Tryd.typeInfo61, Proofs.Tryd.typeInfo62, Proofs.Tryd.typeInfo63, Proofs.Tryd.typeInfo64, Proofs.Tryd.typeInfo65, Proofs.Tryd.typeInfo66, Proofs.Tryd.typeInfo67, Proofs.Tryd.typeInfo68, Proofs.Tryd.typeInfo69, Proofs.Tryd.typeInfo70, Proofs.Tryd.typeInfo71, Proofs.Tryd.typeInfo72, Proofs.Tryd.typeInfo73, Proofs.Tryd.typeInfo74, Proofs.Tryd.typeInfo75, Proofs.Tryd.typeInfo76, Proofs.Tryd.typeInfo77, Proofs.Tryd.typeInfo78, Proofs.Tryd.typeInfo79, Proofs.Tryd.typeInfo80, Proofs.Tryd.typeInfo81, Proofs.Tryd.typeInfo82, Proofs.Tryd.typeInfo83, Proofs.Tryd.typeInfo84, Proofs.Tryd.typeInfo85, Proofs.Tryd.typeInfo86, Proofs.Tryd.typeInfo87, Proofs.Tryd.typeInfo88, Proofs.Tryd.typeInfo89, Proofs.Tryd.typeInfo90, Proofs.Tryd.typeInfo91, Proofs.Tryd.typeInfo92, Proofs.Tryd.typeInfo93, Proofs.Tryd.typeInfo94, Proofs.Tryd.typeInfo95, Proofs.Tryd.typeInfo96, Proofs.Tryd.typeInfo97, Proofs.Tryd.typeInfo98, Proofs.Tryd.typeInfo99, Proofs.Tryd.typeInfo100, Proofs.Tryd.typeInfo101, Proofs.Tryd.typeInfo102, Proofs.Tryd.typeInfo103, Proofs.Tryd.typeInfo104, Proofs.Tryd.typeInfo105, Proofs.Tryd.typeInfo106, Proofs.Tryd.typeInfo107, Proofs.Tryd.typeInfo108, Proofs.Tryd.typeInfo109, Proofs.Tryd.typeInfo110, Proofs.Tryd.typeInfo111, Proofs.Tryd.typeInfo112, Proofs.Tryd.typeInfo113, Proofs.Tryd.typeInfo114, Proofs.Tryd.typeInfo115, Proofs.Tryd.typeInfo116, Proofs.Tryd.typeInfo117, Proofs.Tryd.typeInfo118, Proofs.Tryd.typeInfo119, Proofs.Tryd.typeInfo120, Proofs.Tryd.typeInfo121, Proofs.Tryd.typeInfo122, Proofs.Tryd.typeInfo123, Proofs.Tryd.typeInfo124, Proofs.Tryd.typeInfo125, Proofs.Tryd.typeInfo126, Proofs.Tryd.typeInfo127, Proofs.Tryd.typeInfo128, Proofs.Tryd.typeInfo129, Proofs.Tryd.typeInfo130, Proofs.Tryd.typeInfo131, Proofs.Tryd.typeInfo132, Proofs.Tryd.typeInfo133, Proofs.Tryd.typeInfo134, Proofs.Tryd.typeInfo135, Proofs.Tryd.typeInfo136, Proofs.Tryd.typeInfo137, Proofs.Tryd.typeInfo138, Proofs.Tryd.typeInfo139, Proofs.Tryd.typeInfo140, Proofs.Tryd.typeInfo141, Proofs.Tryd.typeInfo142, Proofs.Tryd.typeInfo143, Proofs.Tryd.typeInfo144, Proofs.Tryd.typeInfo145, Proofs.Tryd.typeInfo146, Proofs.Tryd.typeInfo147, Proofs.Tryd.typeInfo148, Proofs.Tryd.typeInfo149, Proofs.Tryd.typeInfo150, Proofs.Tryd.typeInfo151, Proofs.Tryd.typeInfo152, Proofs.Tryd.typeInfo153, Proofs.Tryd.typeInfo154, Proofs.Tryd.typeInfo155, Proofs.Tryd.typeInfo156, Proofs.Tryd.typeInfo157, Proofs.Tryd.typeInfo158, Proofs.Tryd.typeInfo159, Proofs.Tryd.typeInfo160, Proofs.Tryd.typeInfo161, Proofs.Tryd.typeInfo162, Proofs.Tryd.typeInfo163, Proofs.Tryd.typeInfo164, Proofs.Tryd.typeInfo165, Proofs.Tryd.typeInfo166, Proofs.Tryd.typeInfo167, Proofs.Tryd.typeInfo168, Proofs.Tryd.typeInfo169, Proofs.Tryd.typeInfo170, Proofs.Tryd.typeInfo171, Proofs.Tryd.typeInfo172, Proofs.Tryd.typeInfo173, Proofs.Tryd.typeInfo174, Proofs.Tryd.typeInfo175, Proofs.Tryd.typeInfo176, Proofs.Tryd.typeInfo177, Proofs.Tryd.typeInfo178, Proofs.Tryd.typeInfo179, Proofs.Tryd.typeInfo180, Proofs.Tryd.typeInfo181, trivial⟩
noncomputable def und (t : Nat) : Option TypeDesc := undL[t]?
noncomputable def tinfo (t : Nat) : Option TypeInfo := tiL[t]?
theorem und_ok {t : Nat} {u : TypeDesc} (h : und t = some u) : ∀ w, (underlying t).run Proofs.Tryd.prog w = .ok u w := by
  have := undL_all.get h; simpa using this
theorem tinfo_ok {t : Nat} {u : TypeInfo} (h : tinfo t = some u) : ∀ w, (typeInfo t).run Proofs.Tryd.prog w = .ok u w := by
  have := tiL_all.get h; simpa using this
def aggOf : TypeDesc → Bool
  | .struct _ => true
  | .array _ _ => true
  | _ => false
theorem isAgg_of {P : Program} {t : TypeId} {u : TypeDesc} (h : ∀ w, (underlying t).run P w = .ok u w) : ∀ w, (isAgg t).run P w = .ok (aggOf u) w := by
  intro w; simp only [isAgg, Sem.run_bind, h, Result.andThen_ok]; cases u <;> rfl
noncomputable def T : Tab Proofs.Tryd.prog where
  und := und
  size t := (tinfo t).map (·.size)
  agg t := (und t).map aggOf
  zero t := (tinfo t).bind (·.zero)
  undOk := und_ok
  sizeOk {t m} h w := by
    cases hi : tinfo t with
    | none => simp [hi] at h
    | some u => simp [hi] at h; simp [sizeOf, tinfo_ok hi, h]
  aggOk {t b} h w := by
    cases hi : und t with
    | none => simp [hi] at h
    | some u => simp [hi] at h; rw [isAgg_of (und_ok hi), h]
  zeroOk {t z} h w := by
    cases hi : tinfo t with
    | none => simp [hi] at h
    | some u => simp [hi] at h; simp [zeroValue, tinfo_ok hi, h]
theorem bd24 : ∀ w ps cells, Instr.fill (([(0, 1), (1, 1)] : List (Nat × Nat))[·]?) (Proofs.Tryd.t24.zero.getD undef).cells ps = some cells → (Instr.build 24 ps.toArray).run Proofs.Tryd.prog w = .ok (.agg cells) w := by
  intro w ps cells h
  simp only [Proofs.Tryd.t24, Option.getD] at h
  simp [Instr.build, Proofs.Tryd.runUnderlying24, Proofs.Tryd.zeroValue24, Proofs.Tryd.sizeOf9, h]
theorem bd38 : ∀ w ps cells, Instr.fill (([(0, 1), (1, 1)] : List (Nat × Nat))[·]?) (Proofs.Tryd.t38.zero.getD undef).cells ps = some cells → (Instr.build 38 ps.toArray).run Proofs.Tryd.prog w = .ok (.agg cells) w := by
  intro w ps cells h
  simp only [Proofs.Tryd.t38, Option.getD] at h
  simp [Instr.build, Proofs.Tryd.runUnderlying38, Proofs.Tryd.zeroValue38, Proofs.Tryd.sizeOf9, h]
theorem el54 : Elem Proofs.Tryd.prog 54 5 1 1 := ⟨Proofs.Tryd.underlying54, Proofs.Tryd.t5, _, by kernel_rfl, rfl, rfl, rfl, rfl⟩
theorem bd102 : ∀ w ps cells, Instr.fill (([(0, 1), (1, 1), (2, 1)] : List (Nat × Nat))[·]?) (Proofs.Tryd.t102.zero.getD undef).cells ps = some cells → (Instr.build 102 ps.toArray).run Proofs.Tryd.prog w = .ok (.agg cells) w := by
  intro w ps cells h
  simp only [Proofs.Tryd.t102, Option.getD] at h
  simp [Instr.build, Proofs.Tryd.runUnderlying102, Proofs.Tryd.zeroValue102, Proofs.Tryd.sizeOf3, Proofs.Tryd.sizeOf54, h]
theorem bd113 : ∀ w ps cells, Instr.fill (([(0, 1), (1, 1), (2, 1)] : List (Nat × Nat))[·]?) (Proofs.Tryd.t113.zero.getD undef).cells ps = some cells → (Instr.build 113 ps.toArray).run Proofs.Tryd.prog w = .ok (.agg cells) w := by
  intro w ps cells h
  simp only [Proofs.Tryd.t113, Option.getD] at h
  simp [Instr.build, Proofs.Tryd.runUnderlying113, Proofs.Tryd.zeroValue113, Proofs.Tryd.sizeOf4, Proofs.Tryd.sizeOf54, h]
theorem bd132 : ∀ w ps cells, Instr.fill (([(0, 1)] : List (Nat × Nat))[·]?) (Proofs.Tryd.t132.zero.getD undef).cells ps = some cells → (Instr.build 132 ps.toArray).run Proofs.Tryd.prog w = .ok (.agg cells) w := by
  intro w ps cells h
  simp only [Proofs.Tryd.t132, Option.getD] at h
  simp [Instr.build, Proofs.Tryd.runUnderlying132, Proofs.Tryd.zeroValue132, Proofs.Tryd.sizeOf9, h]
end Go.V
/-
  Searches in texts: the document's, and package v1's.
-/
namespace Go.V
open Go.RowKit
set_option linter.unusedVariables false
set_option linter.unusedSimpArgs false
set_option maxRecDepth 10000
attribute [local irreducible] Run Ops
/-- a byte as a value -/
def u8 (c : UInt8) : Value := .int .u8 (c.toNat : Int)
theorem spec_firstOf (s : List UInt8) (c : UInt8) (I : Imm) (hs : s.length ≤ 4620000000000000000) :
    Pure Proofs.Tryd.prog 18 [str s, u8 c] I fun v J => v = .int .i64 (ixI c s) := by
  refine Spec.enter 18 [(0, _), (1, _)] Proofs.Tryd.func18 rfl Proofs.Tryd.ntmps18 (by simp) rfl ?_
  intro C hCf hR hCI
  repeat (first | refine Run.seq ?_ | refine Run.region ?_ | refine Ops.nil ?_ | refine Run.block ?_ | refine Ops.pure T rfl (by decide) rfl ?_ | refine Ops.lenS T rfl (by decide) rfl rfl ?_)
  refine Run.keep [0, 1, 7, 8] [_, _, _, _] rfl ?_
  refine Run.rounds (fun m env L J => ∃ i : Nat, m = s.length - i ∧ i ≤ s.length ∧ ix c s = (ix c (s.drop i)).map (· + i) ∧ env = [(0, str s), (1, u8 c), (7, .int .i64 s.length), (8, .int .i64 i)] ∧ L = [] ∧ J = I) s.length ⟨0, by omega, by omega, by simp, rfl, rfl, rfl⟩ ?_
  rintro m env L J ⟨i, rfl, hi, hix, rfl, rfl, rfl⟩ ih
  repeat (first | refine Run.seq ?_ | refine Run.region ?_ | refine Ops.nil ?_ | refine Ops.lss rfl (by decide) rfl rfl ?_)
  refine Run.cond rfl rfl (fun h => ?_) (fun h => ?_)
  all_goals (try rw [h])
  all_goals (try simp only [decide_eq_true_eq, decide_eq_false_iff_not, Bool.not_eq_true', Bool.not_eq_false', Bool.and_eq_true, Bool.or_eq_true, Bool.and_eq_false_imp, Bool.or_eq_false_iff] at h)
  · have hi' : i < s.length := by omega
    have hx := ix_drop c s i hi'
    repeat (first | refine Run.seq ?_ | refine Run.region ?_ | refine Ops.nil ?_ | refine Run.skip ?_ | refine Run.block ?_ | refine Ops.eql rfl (by decide) rfl rfl ?_ | refine Ops.pure T rfl (by decide) rfl ?_ | refine Ops.indexStr rfl (by decide) (T.undOk rfl) rfl rfl (by first | omega | (simp only [List.length_cons, List.length_nil] ; omega) | (simp; omega)) (by first | omega | (simp only [List.length_cons, List.length_nil] ; omega) | (simp; omega)) ?_)
    refine Run.cond rfl rfl (fun h2 => ?_) (fun h2 => ?_)
    all_goals (try rw [h2])
    all_goals (try simp only [decide_eq_true_eq, decide_eq_false_iff_not, Bool.not_eq_true', Bool.not_eq_false', Bool.and_eq_true, Bool.or_eq_true, Bool.and_eq_false_imp, Bool.or_eq_false_iff] at h2)
    · have h3 : s.getD i 0 = c := u8_inj.1 h2
      rw [if_pos h3] at hx
      rw [hx] at hix
      repeat (first | refine Run.seq ?_ | refine Run.region ?_ | refine Ops.nil ?_ | refine Ops.pure T rfl (by decide) rfl ?_)
      refine Run.fin (Run.ret1 (by rw [hCf]; exact Proofs.Tryd.func18) Proofs.Tryd.results18 rfl (hR _ _ _ ?_))
      exact ⟨rfl, by simp [ixI, hix]⟩
    · have h3 : ¬ s.getD i 0 = c := fun h => h2 (u8_inj.2 h)
      rw [if_neg h3] at hx
      repeat (first | refine Run.region ?_ | refine Ops.nil ?_ | refine Run.skip ?_ | refine Run.inBlock ?_ | refine Ops.add rfl (by decide) rfl rfl (wI (by first | omega | (simp only [List.length_cons, List.length_nil] ; omega) | (simp; omega)) (by first | omega | (simp only [List.length_cons, List.length_nil] ; omega) | (simp; omega))) ?_ | refine Ops.pure T rfl (by decide) rfl ?_)
      refine Run.keep [0, 1, 7, 8] [_, _, _, _] rfl ?_
      refine ih (s.length - (i + 1)) _ _ _ (by omega) ⟨i + 1, rfl, by omega, ?_, rfl, rfl, rfl⟩
      rw [hix, hx]; simp [Option.map_map]; congr 1; funext x; simp; omega
  · have hi' : i = s.length := by omega
    subst hi'
    repeat (first | refine Run.seq ?_ | refine Run.region ?_ | refine Ops.nil ?_ | refine Run.exit rfl ?_ | refine Ops.pure T rfl (by decide) rfl ?_)
    refine Run.fin (Run.ret1 (by rw [hCf]; exact Proofs.Tryd.func18) Proofs.Tryd.results18 rfl (hR _ _ _ ?_))
    simp [ix] at hix
    exact ⟨rfl, by simp [ixI, hix]⟩
def lxI (c : UInt8) (s : Tx) : Int := match lx c s with
  | some k => k
  | none => -1
theorem spec_lastOf (s : Tx) (c : UInt8) (I : Imm) (hs : s.length ≤ 4620000000000000000) :
    Pure Proofs.Tryd.prog 19 [str s, u8 c] I fun v J => v = .int .i64 (lxI c s) := by
  refine Spec.enter 19 [(0, _), (1, _)] Proofs.Tryd.func19 rfl Proofs.Tryd.ntmps19 (by simp) rfl ?_
  intro C hCf hR hCI
  repeat (first | refine Run.seq ?_ | refine Run.region ?_ | refine Ops.nil ?_ | refine Run.block ?_ | refine Ops.sub rfl (by decide) rfl rfl (wI (by first | omega | (simp only [List.length_cons, List.length_nil] ; omega) | (simp; omega)) (by first | omega | (simp only [List.length_cons, List.length_nil] ; omega) | (simp; omega))) ?_ | refine Ops.pure T rfl (by decide) rfl ?_ | refine Ops.lenS T rfl (by decide) rfl rfl ?_)
  refine Run.keep [0, 1, 5] [_, _, _] rfl ?_
  refine Run.rounds (fun m env L J => ∃ j : Nat, m = j ∧ j ≤ s.length ∧ hasB c (s.drop j) = false ∧ env = [(0, str s), (1, u8 c), (5, .int .i64 ((j : Int) - 1))] ∧ L = [] ∧ J = I) s.length ⟨s.length, rfl, by omega, by simp [hasB], rfl, rfl, rfl⟩ ?_
  rintro j env L J ⟨_, rfl, hj, hno, rfl, rfl, rfl⟩ ih
  repeat (first | refine Run.seq ?_ | refine Run.region ?_ | refine Ops.nil ?_ | refine Ops.geq rfl (by decide) rfl rfl ?_ | refine Ops.pure T rfl (by decide) rfl ?_)
  refine Run.cond rfl rfl (fun h => ?_) (fun h => ?_)
  all_goals (try rw [h])
  all_goals (try simp only [decide_eq_true_eq, decide_eq_false_iff_not, Bool.not_eq_true', Bool.not_eq_false', Bool.and_eq_true, Bool.or_eq_true, Bool.and_eq_false_imp, Bool.or_eq_false_iff] at h)
  · obtain ⟨i, rfl⟩ : ∃ i, j = i + 1 := ⟨j - 1, by omega⟩
    have hi' : i < s.length := by omega
    have e1 : ((i + 1 : Nat) : Int) - 1 = i := by omega
    rw [e1]
    repeat (first | refine Run.seq ?_ | refine Run.region ?_ | refine Ops.nil ?_ | refine Run.skip ?_ | refine Run.block ?_ | refine Ops.eql rfl (by decide) rfl rfl ?_ | refine Ops.pure T rfl (by decide) rfl ?_ | refine Ops.indexStr rfl (by decide) (T.undOk rfl) rfl rfl (by first | omega | (simp only [List.length_cons, List.length_nil] ; omega) | (simp; omega)) (by first | omega | (simp only [List.length_cons, List.length_nil] ; omega) | (simp; omega)) ?_)
    have hd := drop_cons hi'
    refine Run.cond rfl rfl (fun h2 => ?_) (fun h2 => ?_)
    all_goals (try rw [h2])
    all_goals (try simp only [decide_eq_true_eq, decide_eq_false_iff_not, Bool.not_eq_true', Bool.not_eq_false', Bool.and_eq_true, Bool.or_eq_true, Bool.and_eq_false_imp, Bool.or_eq_false_iff] at h2)
    · have h3 : s.getD i 0 = c := u8_inj.1 (by simpa using h2)
      repeat (first | refine Run.seq ?_ | refine Run.region ?_ | refine Ops.nil ?_ | refine Ops.pure T rfl (by decide) rfl ?_)
      refine Run.fin (Run.ret1 (by rw [hCf]; exact Proofs.Tryd.func19) Proofs.Tryd.results19 rfl (hR _ _ _ ?_))
      refine ⟨rfl, ?_⟩
      have : lx c s = some i := by
        conv => lhs; rw [← List.take_append_drop i s, hd, h3]
        rw [lx_app hno]; simp; omega
      simp [lxI, this]
    · have h3 : ¬ s.getD i 0 = c := fun h => h2 (by simpa using u8_inj.2 h)
      repeat (first | refine Run.region ?_ | refine Ops.nil ?_ | refine Run.skip ?_ | refine Run.inBlock ?_ | refine Ops.sub rfl (by decide) rfl rfl (wI (by first | omega | (simp only [List.length_cons, List.length_nil] ; omega) | (simp; omega)) (by first | omega | (simp only [List.length_cons, List.length_nil] ; omega) | (simp; omega))) ?_ | refine Ops.pure T rfl (by decide) rfl ?_)
      refine Run.keep [0, 1, 5] [_, _, _] rfl ?_
      refine ih i _ _ _ (by omega) ⟨i, rfl, by omega, ?_, rfl, rfl, rfl⟩
      rw [hd, hasB_cons, hno, decide_eq_false h3]; rfl
  · obtain rfl : j = 0 := by omega
    repeat (first | refine Run.seq ?_ | refine Run.region ?_ | refine Ops.nil ?_ | refine Run.exit rfl ?_ | refine Ops.pure T rfl (by decide) rfl ?_)
    refine Run.fin (Run.ret1 (by rw [hCf]; exact Proofs.Tryd.func19) Proofs.Tryd.results19 rfl (hR _ _ _ ?_))
    refine ⟨rfl, ?_⟩
    have : lx c s = none := lx_none.2 (by simpa using hno)
    simp [lxI, this]
/-- is a rune among others -/
def inR (r : Nat) (cs : Tx) : Bool := decide (r ∈ runesW cs 0)
def allR (s cs : Tx) : Bool := (runesW s 0).all fun r => inR r cs
theorem memD (r x : Nat) (l : List Nat) : decide (r ∈ x :: l) = (decide ((r : Int) = (x : Int)) || decide (r ∈ l)) := by
  by_cases h : r = x
  · subst h; simp
  · have : decide ((r : Int) = (x : Int)) = false := decide_eq_false (by omega)
    rw [this]; simp [h]
set_option maxHeartbeats 2000000 in
theorem spec_within (I : Imm) (s cs : Tx) (a b : Nat) (hs : s.length ≤ 4620000000000000000) (hc : cs.length ≤ 4620000000000000000) : Pure Proofs.Tryd.prog 32 [str s, str cs, .int .i64 a, .int .i64 b] I fun w J =>
    w = .bool (allR s cs && (decide (a ≤ (runesW s 0).length) && decide ((runesW s 0).length ≤ b))) := by
  refine Spec.enter 43 [(0, _), (1, _), (2, _), (3, _)] Proofs.Tryd.func32 rfl Proofs.Tryd.ntmps32 (by simp) rfl ?_
  intro C hCf hR hCI
  repeat (first | refine Run.seq ?_ | refine Run.region ?_ | refine Ops.nil ?_ | refine Ops.pure T rfl (by decide) rfl ?_)
  refine Ops.rangeStr T rfl (by decide) rfl rfl (fun b1 => ?_)
  repeat (first | refine Ops.nil ?_ | refine Run.block ?_)
  refine Run.keep [0, 1, 2, 3, 9, 16] [_, _, _, _, _, _] rfl ?_
  refine Run.rounds (fun m env L J => ∃ p k : Nat, m = s.length - p ∧ p ≤ s.length ∧ k ≤ p ∧ k + (runesW s p).length = (runesW s 0).length ∧ ((runesW s p).all fun r => inR r cs) = allR s cs ∧
    env = [(0, str s), (1, str cs), (2, .int .i64 a), (3, .int .i64 b), (9, .int .i64 k), (16, .pointer (some ⟨b1, 0, none⟩))] ∧ L = [(b1, .stringIter (ba s) p)] ∧ J = I) s.length ⟨0, 0, by omega, by omega, by omega, by simp, rfl, rfl, rfl, rfl⟩ ?_
  rintro m env L J ⟨p, k, rfl, hp, hk, hlen, hall, rfl, rfl, rfl⟩ ih
  by_cases hlt : p < s.length
  · have hw := runeAt_width s p
    obtain ⟨_, _, hpw, _, _⟩ := runes_step hlt
    rw [runesW_lt hlt] at hlen hall
    repeat (first | refine Run.seq ?_ | refine Run.region ?_)
    refine Ops.nextStr 0 rfl (by decide) rfl rfl hlt ?_
    generalize runeAt s p = rw at *
    obtain ⟨r, w⟩ := rw
    simp only at hw hpw hlen hall
    repeat (first | refine Run.seq ?_ | refine Run.region ?_ | refine Ops.nil ?_ | refine Run.skip ?_ | refine Run.block ?_ | refine Run.cond_t rfl ?_ | refine Ops.add rfl (by decide) rfl rfl (wI (by first | omega | (simp only [List.length_cons, List.length_nil] ; omega) | (simp; omega)) (by first | omega | (simp only [List.length_cons, List.length_nil] ; omega) | (simp; omega))) ?_ | refine Ops.pure T rfl (by decide) rfl ?_)
    refine Ops.rangeStr T rfl (by decide) rfl rfl (fun b2 => ?_)
    repeat (first | refine Ops.nil ?_ | refine Run.block ?_)
    refine Run.keep [0, 1, 2, 3, 9, 16, 11, 12, 23] [_, _, _, _, _, _, _, _, _] rfl ?_
    refine Run.rounds (fun m env L K => ∃ (q : Nat) (fd : Bool), m = cs.length - q ∧ q ≤ cs.length ∧ (fd || decide (r ∈ runesW cs q)) = inR r cs ∧
      env = [(0, str s), (1, str cs), (2, .int .i64 a), (3, .int .i64 b), (9, .int .i64 ((k : Int) + 1)), (16, .pointer (some ⟨b1, 0, none⟩)), (11, .int .i32 r), (12, .bool fd), (23, .pointer (some ⟨b2, 0, none⟩))] ∧
      L = [(b2, .stringIter (ba cs) q), (b1, .stringIter (ba s) (p + w))] ∧ K = J) cs.length ⟨0, false, by omega, by omega, by simp [inR], rfl, rfl, rfl⟩ ?_
    rintro m env L K ⟨q, fd, rfl, hq, hfd, rfl, rfl, rfl⟩ ih2
    by_cases hqt : q < cs.length
    · have hw2 := runeAt_width cs q
      obtain ⟨_, _, hpw2, _, _⟩ := runes_step hqt
      rw [runesW_lt hqt, memD, ← Bool.or_assoc] at hfd
      repeat (first | refine Run.seq ?_ | refine Run.region ?_)
      refine Ops.nextStr 0 rfl (by decide) rfl rfl hqt ?_
      generalize runeAt cs q = rw at *
      obtain ⟨x, w2⟩ := rw
      simp only at hw2 hpw2 hfd
      cases fd with
      | true =>
        repeat (first | refine Run.seq ?_ | refine Run.region ?_ | refine Ops.nil ?_ | refine Run.skip ?_ | refine Run.block ?_ | refine Run.inBlock ?_ | refine Run.cond_t rfl ?_ | refine Ops.not rfl (by decide) ?_ | refine Ops.pure T rfl (by decide) rfl ?_)
        refine Run.keep [0, 1, 2, 3, 9, 16, 11, 12, 23] [_, _, _, _, _, _, _, _, _] rfl ?_
        refine ih2 (cs.length - (q + w2)) _ _ _ (by omega) ⟨q + w2, true, rfl, by omega, by simpa using hfd, rfl, rfl, rfl⟩
      | false =>
        repeat (first | refine Run.seq ?_ | refine Run.region ?_ | refine Ops.nil ?_ | refine Run.skip ?_ | refine Run.block ?_ | refine Run.inBlock ?_ | refine Run.cond_t rfl ?_ | refine Ops.eql rfl (by decide) rfl rfl ?_ | refine Ops.pure T rfl (by decide) rfl ?_)
        refine Run.keep [0, 1, 2, 3, 9, 16, 11, 12, 23] [_, _, _, _, _, _, _, _, _] rfl ?_
        refine ih2 (cs.length - (q + w2)) _ _ _ (by omega) ⟨q + w2, decide ((r : Int) = (x : Int)), rfl, by omega, by simpa using hfd, rfl, rfl, rfl⟩
    · rw [runesW_end hqt] at hfd
      repeat (first | refine Run.seq ?_ | refine Run.region ?_)
      refine Ops.nextStrEnd 0 rfl (by decide) rfl rfl hqt ?_
      cases fd with
      | false =>
        repeat (first | refine Run.seq ?_ | refine Run.region ?_ | refine Ops.nil ?_ | refine Run.exit rfl ?_ | refine Run.cond_t rfl ?_ | refine Run.cond_f rfl ?_ | refine Ops.pure T rfl (by decide) rfl ?_)
        refine Run.fin (Run.ret1 (by rw [hCf]; exact Proofs.Tryd.func32) Proofs.Tryd.results32 rfl (hR _ _ _ ?_))
        refine ⟨rfl, ?_⟩
        have : inR r cs = false := by rw [← hfd]; simp
        rw [← hall, List.all_cons, this]; rfl
      | true =>
        have hi : inR r cs = true := by rw [← hfd]; simp
        rw [List.all_cons, hi, Bool.true_and] at hall
        repeat (first | refine Run.seq ?_ | refine Run.region ?_ | refine Ops.nil ?_ | refine Run.skip ?_ | refine Run.inBlock ?_ | refine Run.exit rfl ?_ | refine Run.cond_f rfl ?_ | refine Ops.pure T rfl (by decide) rfl ?_)
        refine Run.dropL (List.sublist_cons_self _ _) ?_
        refine Run.keep [0, 1, 2, 3, 9, 16] [_, _, _, _, _, _] rfl ?_
        refine ih (s.length - (p + w)) _ _ _ (by omega) ⟨p + w, k + 1, rfl, by omega, by omega, by simp only [List.length_cons] at hlen; omega, hall, rfl, rfl, rfl⟩
  · rw [runesW_end hlt] at hlen hall
    repeat (first | refine Run.seq ?_ | refine Run.region ?_)
    refine Ops.nextStrEnd 0 rfl (by decide) rfl rfl hlt ?_
    repeat (first | refine Run.seq ?_ | refine Run.region ?_ | refine Ops.nil ?_ | refine Run.exit rfl ?_ | refine Run.cond_f rfl ?_ | refine Ops.geq rfl (by decide) rfl rfl ?_ | refine Ops.pure T rfl (by decide) rfl ?_)
    have hk' : k = (runesW s 0).length := by simpa using hlen
    cases h : decide ((a : Int) ≤ (k : Int)) with
    | false =>
      repeat (first | refine Ops.nil ?_ | refine Ops.not rfl (by decide) ?_ | refine Ops.pure T rfl (by decide) rfl ?_)
      refine Run.fin (Run.ret1 (by rw [hCf]; exact Proofs.Tryd.func32) Proofs.Tryd.results32 rfl (hR _ _ _ ?_))
      have := of_decide_eq_false h
      have h2 : decide (a ≤ (runesW s 0).length) = false := decide_eq_false (by omega)
      exact ⟨rfl, by rw [← hall, h2]; rfl⟩
    | true =>
      repeat (first | refine Ops.nil ?_ | refine Ops.leq rfl (by decide) rfl rfl ?_ | refine Ops.pure T rfl (by decide) rfl ?_)
      refine Run.fin (Run.ret1 (by rw [hCf]; exact Proofs.Tryd.func32) Proofs.Tryd.results32 rfl (hR _ _ _ ?_))
      have := of_decide_eq_true h
      have h2 : decide (a ≤ (runesW s 0).length) = true := decide_eq_true (by omega)
      refine ⟨rfl, ?_⟩
      rw [← hall, h2, ← hk']
      simp only [List.all_nil, Bool.true_and]
      congr 1
      rw [decide_eq_decide]; omega
theorem ixI_none {c : UInt8} {s : Tx} (h : ix c s = none) : ixI c s = -1 := by simp [ixI, h]
theorem ixI_eq {c : UInt8} {s : Tx} {k : Nat} (h : ix c s = some k) : ixI c s = k := by simp [ixI, h]
theorem spec_digestGood (I : Imm) (s : Tx) (hs : s.length ≤ 4620000000000000000) : Pure Proofs.Tryd.prog 20 [str s] I fun w J => w = .bool (digGood s) := by
  refine Spec.enter 16 [(0, _)] Proofs.Tryd.func20 rfl Proofs.Tryd.ntmps20 (by simp) rfl ?_
  intro C hCf hR hCI
  repeat (first | refine Run.seq ?_ | refine Run.region ?_ | refine Ops.nil ?_ | refine Ops.eql rfl (by decide) rfl rfl ?_ | refine Ops.pure T rfl (by decide) rfl ?_ | refine Ops.lenS T rfl (by decide) rfl rfl ?_)
  cases h : decide ((s.length : Int) = 71) with
  | false =>
    repeat (first | refine Ops.nil ?_ | refine Ops.not rfl (by decide) ?_ | refine Ops.pure T rfl (by decide) rfl ?_)
    refine Run.fin (Run.ret1 (by rw [hCf]; exact Proofs.Tryd.func20) Proofs.Tryd.results20 rfl (hR _ _ _ ?_))
    have h' := of_decide_eq_false h
    exact ⟨rfl, by rw [digGood, decide_eq_false (show ¬ s.length = 71 by omega)]; rfl⟩
  | true =>
    have h' := of_decide_eq_true h
    repeat (first | refine Ops.eqlStr rfl (by decide) rfl rfl ?_ | refine Ops.pure T rfl (by decide) rfl ?_ | refine Ops.sliceStrHi rfl (by decide) (T.undOk rfl) rfl rfl (by first | omega | (simp only [List.length_cons, List.length_nil] ; omega) | (simp; omega)) (by first | omega | (simp only [List.length_cons, List.length_nil] ; omega) | (simp; omega)) ?_)
    have e : decide (s.length = 71) = true := decide_eq_true (by omega)
    have e7 : (7 : Int).toNat = 7 := rfl
    rw [e7]
    cases h2 : decide (s.take 7 = [115, 104, 97, 50, 53, 54, 58]) with
    | false =>
      repeat (first | refine Ops.nil ?_ | refine Ops.not rfl (by decide) ?_ | refine Ops.pure T rfl (by decide) rfl ?_)
      refine Run.fin (Run.ret1 (by rw [hCf]; exact Proofs.Tryd.func20) Proofs.Tryd.results20 rfl (hR _ _ _ ?_))
      exact ⟨rfl, by rw [digGood, e, h2]; rfl⟩
    | true =>
      repeat (first | refine Ops.pure T rfl (by decide) rfl ?_ | refine Ops.sliceStrLo rfl (by decide) (T.undOk rfl) rfl rfl (by first | omega | (simp only [List.length_cons, List.length_nil] ; omega) | (simp; omega)) (by first | omega | (simp only [List.length_cons, List.length_nil] ; omega) | (simp; omega)) ?_)
      refine Ops.call ((spec_within I (s.drop 7) hexT 64 64 (by simp; omega) (by decide))) rfl (by decide) Proofs.Tryd.call32 rfl ?_
      rintro _ J l rfl
      repeat (first | refine Ops.nil ?_ | refine Ops.pure T rfl (by decide) rfl ?_)
      refine Run.fin (Run.ret1 (by rw [hCf]; exact Proofs.Tryd.func20) Proofs.Tryd.results20 rfl (hR _ _ _ ?_))
      refine ⟨rfl, ?_⟩
      rw [digGood, e, h2, ← within_eq ascii_hex]
      rfl
set_option maxHeartbeats 400000 in
theorem v1_zzIndex (s : List UInt8) (c : UInt8) (I : Imm) (hs : s.length ≤ 4620000000000000000) :
    Pure Proofs.Tryd.prog 45 [str s, str [c]] I fun v _ => v = .int .i64 (ixI c s) := by
  refine Spec.enter 25 [(0, _), (1, _)] Proofs.Tryd.func45 rfl Proofs.Tryd.ntmps45 (by simp) rfl ?_
  intro C hCf hR hCI
  repeat (first | refine Run.seq ?_ | refine Run.region ?_ | refine Ops.nil ?_ | refine Run.block ?_ | refine Ops.pure T rfl (by decide) rfl ?_)
  refine Run.keep [0, 1, 5] [_, _, _] rfl ?_
  refine Run.rounds (fun m env L J => ∃ i : Nat, m = s.length - i ∧ i ≤ s.length ∧ ix c s = (ix c (s.drop i)).map (· + i) ∧ env = [(0, str s), (1, str [c]), (5, .int .i64 i)] ∧ L = [] ∧ J = I) s.length ⟨0, by omega, by omega, by simp, rfl, rfl, rfl⟩ ?_
  rintro m env L J ⟨i, rfl, hi, hix, rfl, rfl, rfl⟩ ih
  repeat (first | refine Run.seq ?_ | refine Run.region ?_ | refine Ops.nil ?_ | refine Ops.add rfl (by decide) rfl rfl (wI (by first | omega | (simp only [List.length_cons, List.length_nil] ; omega) | (simp; omega)) (by first | omega | (simp only [List.length_cons, List.length_nil] ; omega) | (simp; omega))) ?_ | refine Ops.leq rfl (by decide) rfl rfl ?_ | refine Ops.pure T rfl (by decide) rfl ?_ | refine Ops.lenS T rfl (by decide) rfl rfl ?_)
  refine Run.cond rfl rfl (fun h => ?_) (fun h => ?_)
  all_goals (try rw [h])
  all_goals (try simp only [decide_eq_true_eq, decide_eq_false_iff_not, Bool.not_eq_true', Bool.not_eq_false', Bool.and_eq_true, Bool.or_eq_true, Bool.and_eq_false_imp, Bool.or_eq_false_iff] at h)
  · have hi' : i < s.length := by simp at h; omega
    have hx := ix_drop c s i hi'
    have hcut : List.drop (Int.toNat (i : Int)) (List.take (Int.toNat ((i : Int) + (([c] : List UInt8).length : Int))) s) = [s.getD i 0] := by
      have : Int.toNat ((i : Int) + (([c] : List UInt8).length : Int)) = i + 1 := by simp
      rw [this, Int.toNat_natCast]; exact cut1 s i hi'
    repeat (first | refine Run.seq ?_ | refine Run.region ?_ | refine Ops.nil ?_ | refine Run.skip ?_ | refine Run.block ?_ | refine Ops.add rfl (by decide) rfl rfl (wI (by first | omega | (simp only [List.length_cons, List.length_nil] ; omega) | (simp; omega)) (by first | omega | (simp only [List.length_cons, List.length_nil] ; omega) | (simp; omega))) ?_ | refine Ops.eqlStr rfl (by decide) rfl rfl ?_ | refine Ops.pure T rfl (by decide) rfl ?_ | refine Ops.lenS T rfl (by decide) rfl rfl ?_ | refine Ops.sliceStr rfl (by decide) (T.undOk rfl) rfl rfl rfl (by first | omega | (simp only [List.length_cons, List.length_nil] ; omega) | (simp; omega)) (by first | omega | (simp only [List.length_cons, List.length_nil] ; omega) | (simp; omega)) (by first | omega | (simp only [List.length_cons, List.length_nil] ; omega) | (simp; omega)) ?_)
    rw [hcut]
    refine Run.cond rfl rfl (fun h2 => ?_) (fun h2 => ?_)
    all_goals (try rw [h2])
    all_goals (try simp only [decide_eq_true_eq, decide_eq_false_iff_not, Bool.not_eq_true', Bool.not_eq_false', Bool.and_eq_true, Bool.or_eq_true, Bool.and_eq_false_imp, Bool.or_eq_false_iff] at h2)
    · skip
      repeat (first | refine Run.seq ?_ | refine Run.region ?_ | refine Ops.nil ?_ | refine Ops.pure T rfl (by decide) rfl ?_)
      refine Run.fin (Run.ret1 (by rw [hCf]; exact Proofs.Tryd.func45) Proofs.Tryd.results45 rfl (hR _ _ _ ?_))
      have h3 : s.getD i 0 = c := by simpa using h2
      rw [if_pos h3] at hx
      rw [hx] at hix
      exact ⟨rfl, by simp [ixI, hix]⟩
    · skip
      repeat (first | refine Run.region ?_ | refine Ops.nil ?_ | refine Run.skip ?_ | refine Run.inBlock ?_ | refine Ops.add rfl (by decide) rfl rfl (wI (by first | omega | (simp only [List.length_cons, List.length_nil] ; omega) | (simp; omega)) (by first | omega | (simp only [List.length_cons, List.length_nil] ; omega) | (simp; omega))) ?_ | refine Ops.pure T rfl (by decide) rfl ?_)
      refine Run.keep [0, 1, 5] [_, _, _] rfl ?_
      have h3 : s.getD i 0 ≠ c := by simpa using h2
      rw [if_neg h3] at hx
      refine ih (s.length - (i + 1)) _ _ _ (by omega) ⟨i + 1, rfl, by omega, ?_, ?_, rfl, rfl⟩
      · rw [hix, hx]; simp [Option.map_map]; congr 1; funext x; simp; omega
      · simp
  · have hi' : i = s.length := by simp at h; omega
    repeat (first | refine Run.seq ?_ | refine Run.region ?_ | refine Ops.nil ?_ | refine Run.exit rfl ?_ | refine Ops.pure T rfl (by decide) rfl ?_)
    refine Run.fin (Run.ret1 (by rw [hCf]; exact Proofs.Tryd.func45) Proofs.Tryd.results45 rfl (hR _ _ _ ?_))
    subst hi'
    simp [ix] at hix
    exact ⟨rfl, by simp [ixI, hix]⟩
end Go.V
/-
  Functions that return four or five values, or a struct and two more; calls that leave what was there.
-/
namespace Go.V
open Go.RowKit
set_option linter.unusedVariables false
set_option linter.unusedSimpArgs false
section
variable {P : Program} {n : Nat} {C : Cx} {k : List Item} {env : Env} {L : Own} {I : Imm}
/-- a struct in variable t, and two more -/
theorem Run.retCTT (T : Tab P) (j : Nat) {fn : Func} {t u s b m : Nat} {x y : Value} {vs cs : List Value} {rt t' : TypeId} {todo : List Item} (hfn : P.funcs[C.f]? = some fn) (hres : fn.results = #[.cell t rt, .tmp u, .tmp s]) (hp : look env t = some (.pointer (some ⟨b, 0, none⟩)))
    (hL : L[j]? = some (b, blk cs t')) (ha : T.agg rt = some true) (hs : T.size rt = some m) (hv : (cs.drop 0).take m = vs) (hm : vs.length = m) (hu : look env u = some x) (hy : look env s = some y) (h : C.R (.tuple #[.agg vs.toArray, x, y]) I []) : Run P n C (.code .ret :: todo) env L I := by
  intro bb a cs' W hb hk he hi
  have hr : (results fn a.tmps).run P W = .ok (.tuple #[.agg vs.toArray, x, y]) W := by
    have h1 := run_cellN T hi hL ha hs hv hm
    have hp' := he.at_ _ _ hp
    have e1 := he.at_ _ _ hu
    have e2 := he.at_ _ _ hy
    simp [results, hres, hp', e1, e2, asAddr, h1]
  exact ⟨.returned (.tuple #[.agg vs.toArray, x, y]), W, _, ⟨_, I, [], rfl, h, hi.weakenL (List.nil_sublist _)⟩, Steps.one step_ret, hb, rfl, he.defers, hk, fn, by simpa [Frame.at, hb] using hfn, hr⟩
end
end Go.V
/-
  A statement whose order Go leaves open, whose first operations (in the order of the text) only read, compute or call what leaves all as it is: those are gone over once, in the order of the text; the others in whatever order comes.
-/
namespace Go.V
open Go.RowKit
set_option linter.unusedVariables false
set_option linter.unusedSimpArgs false
def reachB (md : Region.Mode) (ops : Array Oper) : Nat → Nat → Nat → Bool
  | 0, _, _ => false
  | f + 1, t, i => match ops[t]? with
    | none => false
    | some o => o.after.toList.any fun e => Region.binds md e && (Nat.beq e.on i || (Nat.blt i e.on && reachB md ops f e.on i))
/-- ms: which operations are quiet -/
def tailsB (md : Region.Mode) (ops : Array Oper) (ms : List Bool) : Bool := (List.range ops.size).all fun t => ms.getD t false || (List.range ops.size).all fun i => !(ms.getD i false) || reachB md ops ops.size t i
def headB (md : Region.Mode) (ops : Array Oper) : List Bool → Nat → List Bool → Option (List Bool)
  | [], _, l => some l
  | false :: ms, j, l => headB md ops ms (j + 1) l
  | true :: ms, j, l => if (Region.ready md ops l.toArray).contains j && Region.free md ops l.toArray j then headB md ops ms (j + 1) (l.set j true) else none
def quietB (md : Region.Mode) (ops : Array Oper) (ms : List Bool) (lm : List Bool) : Bool :=
  Region.noSelect ops && Nat.ble ms.length ops.size && tailsB md ops ms && (headB md ops ms 0 (List.replicate ops.size false) == some lm) && ((List.range ops.size).all fun i => !(ms.getD i false) || lm.getD i false)
def trues (ms : List Bool) : Nat := (ms.filter id).length
structure Cl (md : Region.Mode) (ops : Array Oper) (listed : Array Bool) : Prop where
  size : listed.size = ops.size
  closed : ∀ (j : Nat) oj, ops[j]? = some oj → listed.getD j false = true → ∀ e ∈ oj.after, Region.binds md e = true → listed.getD e.on false = true
theorem Cl.set {md : Region.Mode} {ops : Array Oper} {listed : Array Bool} {i : Nat} (h : Cl md ops listed) (hi : i ∈ Region.ready md ops listed) : Cl md ops (listed.setIfInBounds i true) := by
  obtain ⟨_, oi, hoi, hall⟩ := mem_ready.1 hi
  refine ⟨by simp [h.size], fun j oj hj hl e he hb => ?_⟩
  by_cases hij : i = j
  · subst hij
    obtain rfl : oj = oi := Option.some.inj (hj.symm.trans hoi)
    exact getD_set_true (hall e he hb)
  · rw [getD_set_ne false hij] at hl
    exact getD_set_true (h.closed j oj hj hl e he hb)
theorem reach_listed {md : Region.Mode} {ops : Array Oper} {listed : Array Bool} (h : Cl md ops listed) : ∀ (f t i : Nat), (∀ o, ops[t]? = some o → ∀ e ∈ o.after, Region.binds md e = true → listed.getD e.on false = true) →
    reachB md ops f t i = true → listed.getD i false = true
  | 0, t, i, _, hr => by cases hr
  | f + 1, t, i, hp, hr => by
    simp only [reachB] at hr
    split at hr
    · cases hr
    · rename_i o ho
      obtain ⟨e, he, hb⟩ := List.any_eq_true.1 hr
      simp only [Bool.and_eq_true, Bool.or_eq_true] at hb
      have he' : e ∈ o.after := by simpa using he
      have h1 := hp o ho e he' hb.1
      rcases hb.2 with h2 | ⟨_, h2⟩
      · rw [← Nat.eq_of_beq_eq_true h2]; exact h1
      · exact reach_listed h f e.on i (fun o' ho' e' he'' hb' => h.closed e.on o' ho' h1 e' he'' hb') h2
theorem ready_head {md : Region.Mode} {ops : Array Oper} {listed : Array Bool} {ms : List Bool} {i : Nat} (h : Cl md ops listed) (ht : tailsB md ops ms = true) (hi : ms.getD i false = true) (his : i < ops.size) (hun : listed.getD i true = false) : ∀ t ∈ Region.ready md ops listed, ms.getD t false = true := by
  intro t hr
  cases htm : ms.getD t false with
  | true => rfl
  | false =>
    exfalso
    obtain ⟨_, ot, hot, hall⟩ := mem_ready.1 hr
    have htlt : t < ops.size := (Array.getElem?_eq_some_iff.1 hot).1
    have h1 := List.all_eq_true.1 ht t (List.mem_range.2 htlt)
    rw [htm, Bool.false_or] at h1
    have h2 := List.all_eq_true.1 h1 i (List.mem_range.2 his)
    rw [hi, Bool.not_true, Bool.false_or] at h2
    have h3 := reach_listed h _ _ _ (fun o ho e he hb => by
      obtain rfl : o = ot := Option.some.inj (ho.symm.trans hot)
      exact hall e he hb) h2
    rw [getD_both hun] at h3
    cases h3
/-- the first operations in whatever order -/
def wpHead (P : Program) (md : Region.Mode) (ops : Array Oper) (S : World → Prop) (m : List Bool) (G : Array Bool → Act → Prop) : Nat → Array Bool → Act → Prop
  | 0, listed, a => G listed a
  | f + 1, listed, a => Region.ready md ops listed ≠ [] ∧ ∀ i ∈ Region.ready md ops listed, m.getD i false = true ∧ qOp P ops S i (wpHead P md ops S m G f (listed.setIfInBounds i true)) a
theorem wpAny_of_wpHead {P : Program} {md : Region.Mode} {ops : Array Oper} {S : World → Prop} {m : List Bool} {g : Nat} {G : Array Bool → Act → Prop} {Q' : Exit → Act → World → Prop} (hG : ∀ listed a w, S w → G listed a → wpAny P md ops Q' g listed a w) :
    ∀ (f : Nat) (listed : Array Bool) (a : Act) (w : World), S w → wpHead P md ops S m G f listed a → wpAny P md ops Q' (f + g) listed a w
  | 0, listed, a, w, hw, h => by rw [Nat.zero_add]; exact hG _ _ _ hw h
  | f + 1, listed, a, w, hw, h => by
    rw [show f + 1 + g = (f + g) + 1 by omega]
    exact ⟨fun h0 => absurd h0 h.1, fun i hi => wpOp_of_qOp hw (fun a' w' hw' => wpAny_of_wpHead hG f _ a' w' hw') (h.2 i hi).2⟩
theorem wpHead_first {P : Program} {md : Region.Mode} {ops : Array Oper} {S : World → Prop} {m : List Bool} {i : Nat} {oi : Oper} {v : Value} {G : Array Bool → Act → Prop} (hi : ops[i]? = some oi) (hsel : ∀ (j : Nat) (o : Oper) cs b, ops[j]? = some o → o.op ≠ .select cs b)
    (ht : tailsB md ops m = true) (him : m.getD i false = true) (hdone : ∀ listed a, G listed a → ∀ j, j < ops.size → m.getD j false = true → listed.getD j true = true) :
    ∀ (f : Nat) (listed : Array Bool) (a : Act), Cl md ops listed →
      (∀ j oj, ops[j]? = some oj → j ≠ i → listed.getD j true = false → (∀ e ∈ oj.after, Region.binds md e = true → e.on ≠ i) → oi.apart ops oj = true) →
      i ∈ Region.ready md ops listed → YieldsIn P ops S oi v a →
      wpHead P md ops S m G f (listed.setIfInBounds i true) (a.put oi.dst v) → wpHead P md ops S m G (f + 1) listed a := by
  intro f
  induction f with
  | zero =>
    intro listed a inv _ hr hy H
    have hun := (mem_ready.1 hr).1
    refine ⟨fun h => (by rw [h] at hr; cases hr), fun j hj => ?_⟩
    have hjn := ready_head inv ht him (Array.getElem?_eq_some_iff.1 hi).1 hun j hj
    refine ⟨hjn, ?_⟩
    by_cases hji : j = i
    · subst hji; exact hy.qOp hi H
    · obtain ⟨_, oj, hoj, _⟩ := mem_ready.1 hj
      have h1 := hdone _ _ H j (Array.getElem?_eq_some_iff.1 hoj).1 hjn
      rw [getD_set_ne true (Ne.symm hji), (mem_ready.1 hj).1] at h1
      cases h1
  | succ f ih =>
    intro listed a inv hfree hr hy H
    have hun := (mem_ready.1 hr).1
    refine ⟨fun h => (by rw [h] at hr; cases hr), fun j hj => ?_⟩
    have hjn := ready_head inv ht him (Array.getElem?_eq_some_iff.1 hi).1 hun j hj
    refine ⟨hjn, ?_⟩
    by_cases hji : j = i
    · subst hji; exact hy.qOp hi H
    · have h1 := (H.2 j (ready_mono hj hji)).2
      obtain ⟨hjun, oj, hoj, hall⟩ := mem_ready.1 hj
      have hnot : ∀ e ∈ oj.after, Region.binds md e = true → e.on ≠ i := fun e he hb heq => by
        have h1 := hall e he hb
        rw [heq, getD_both hun] at h1
        cases h1
      have h2 := qOp_put hoj (hfree j oj hoj hji hjun hnot) (fun cs b => hsel i oi cs b hi) (fun cs b => hsel j oj cs b hoj) hy h1
      have hfree' : ∀ k ok, ops[k]? = some ok → k ≠ i → (listed.setIfInBounds j true).getD k true = false →
          (∀ e ∈ ok.after, Region.binds md e = true → e.on ≠ i) → oi.apart ops ok = true := fun k ok hk hki hkun hno => by
        refine hfree k ok hk hki ?_ hno
        by_cases hjk : j = k
        · subst hjk; exact hjun
        · rw [getD_set_ne true hjk] at hkun; exact hkun
      refine qOp_mono (fun a' h3 => ih (listed.setIfInBounds j true) a' (inv.set hj) hfree' (ready_mono hr (Ne.symm hji)) h3.1 ?_) h2
      rw [Array.setIfInBounds_comm _ _ hji]
      exact h3.2
section
variable {P : Program} {n : Nat} {C : Cx} {k : List Item} {env : Env} {L : Own} {I : Imm} {ops : Array Oper} {i : Nat} {l : List Oper} {o : Oper}
variable {ty : TypeId} {ps : String} {af : Array Edge} {g : Option (Nat × Bool)} {d : Nat}
/-- a guard's test, as far as it is known, by the places of the results alone -/
def wantD (env : Env) (D : List (Option Nat)) : Option (Nat × Bool) → Option Bool
  | none => some true
  | some (j, b) =>
    match (D[j]?).getD none with
    | some d => match look env d with
      | some (.bool t) => some (t == b)
      | some (.tuple vs) => if vs.toList.isEmpty then some false else none
      | _ => none
    | none => none
theorem wantD_spec {D : List (Option Nat)} {o : Oper} {r : Bool} {a : Act} (hD : ops.toList.map (·.dst) = D) (he : EnvOk n env a) (h : wantD env D o.guard = some r) : Region.wanted o (yielded ops a.tmps) = r := by
  unfold wantD at h
  split at h
  · rename_i hg
    simp only [Region.wanted, hg]
    simpa using h
  · rename_i j b hg
    have hj : (ops[j]?).bind (·.dst) = (D[j]?).getD none := by
      subst hD
      rw [List.getElem?_map, Array.getElem?_toList]
      cases ops[j]? <;> rfl
    split at h
    · rename_i d hd
      rw [hd] at hj
      split at h
      · rename_i t ht
        simp only [Region.wanted, hg, yielded, hj, Option.bind_some, he.at_ _ _ ht]
        cases h
        cases t <;> cases b <;> rfl
      · rename_i vs hv
        split at h
        · cases h
          simp only [Region.wanted, hg, yielded, hj, Option.bind_some, he.at_ _ _ hv]
          rfl
        · cases h
      · cases h
    · cases h
/-- one after the other: those of which ms says so -/
def QD (P : Program) (n : Nat) (C : Cx) (D : List (Option Nat)) (L : Own) (I : Imm) (Z : Env → Prop) : List Bool → List Oper → Env → Prop
  | [], _, env => Z env
  | _ :: _, [], _ => False
  | false :: ms, _ :: r, env => QD P n C D L I Z ms r env
  | true :: ms, o :: r, env => ∃ v, (∀ t, o.dst = some t → t < n) ∧ (∀ ops : Array Oper, ops.toList.map (·.dst) = D → ∀ a, EnvOk n env a → YieldsIn P ops (fun W => Inv C.w0 C.I0 C.L0 I L W) o v a) ∧ QD P n C D L I Z ms r (V.put env o.dst v)
theorem QD.nil {D : List (Option Nat)} {Z : Env → Prop} (h : Z env) : QD P n C D L I Z [] l env := h
theorem list_set_toArray (l : List Bool) (j : Nat) : (l.set j true).toArray = l.toArray.setIfInBounds j true := by
  apply Array.ext'; simp
theorem wpHead_lex {D : List (Option Nat)} {Z : Env → Prop} {mm : List Bool} {lm : List Bool} (hD : ops.toList.map (·.dst) = D) (hsel : Region.noSelect ops = true) (ht : tailsB .any ops mm = true) (hlm : ((List.range ops.size).all fun i => !(mm.getD i false) || lm.getD i false) = true) :
    ∀ (ms : List Bool) (j : Nat) (l : List Oper) (listed : List Bool) (env : Env) (a : Act), (∀ q, l[q]? = ops[j + q]?) → (∀ q, ms.getD q false = true → mm.getD (j + q) false = true) → Cl .any ops listed.toArray →
    headB .any ops ms j listed = some lm → QD P n C D L I Z ms l env → EnvOk n env a →
    wpHead P .any ops (fun W => Inv C.w0 C.I0 C.L0 I L W) mm (fun listed' a' => listed' = lm.toArray ∧ ∃ env', EnvOk n env' a' ∧ Z env') (trues ms) listed.toArray a
  | [], j, l, listed, env, a, _, _, _, hB, h, he => by
    simp only [headB, Option.some.injEq] at hB
    subst hB
    exact ⟨rfl, env, he, h⟩
  | m :: ms, j, [], listed, env, a, hl, hj, inv, hB, h, he => by
    cases m <;> exact h.elim
  | false :: ms, j, o :: l, listed, env, a, hl, hj, inv, hB, h, he => by
    refine wpHead_lex hD hsel ht hlm ms (j + 1) l listed env a (fun q => ?_) (fun q hq => ?_) inv hB h he
    · have := hl (q + 1)
      simpa [Nat.add_assoc, Nat.add_comm 1 q] using this
    · have := hj (q + 1) hq
      rwa [show j + (q + 1) = j + 1 + q by omega] at this
  | true :: ms, j, o :: l, listed, env, a, hl, hj, inv, hB, h, he => by
    have h0 : ops[j]? = some o := by simpa using (hl 0).symm
    have hjm : mm.getD j false = true := hj 0 rfl
    simp only [headB] at hB
    split at hB
    · rename_i hc
      simp only [Bool.and_eq_true] at hc
      obtain ⟨v, hd, hy, hK⟩ := h
      have hr' : j ∈ Region.ready .any ops listed.toArray := by simpa using hc.1
      refine wpHead_first h0 (Region.noSelect_spec hsel) ht hjm (fun listed' a' hL q hqs hq => ?_) (trues ms) listed.toArray a inv (Region.free_spec h0 hc.2) hr' (hy ops hD a he) ?_
      · obtain ⟨rfl, _⟩ := hL
        have := List.all_eq_true.1 hlm q (List.mem_range.2 hqs)
        rw [hq, Bool.not_true, Bool.false_or] at this
        simp only [List.getD_eq_getElem?_getD] at this
        cases hlq : lm[q]? with
        | none => rw [hlq] at this; cases this
        | some b => rw [hlq] at this; simp only [Option.getD_some] at this; subst this; simp [hlq]
      · rw [← list_set_toArray]
        refine wpHead_lex hD hsel ht hlm ms (j + 1) l (listed.set j true) _ _ (fun q => ?_) (fun q hq => ?_) (by rw [list_set_toArray]; exact inv.set hr') hB hK (he.put hd)
        · have := hl (q + 1)
          simpa [Nat.add_assoc, Nat.add_comm 1 q] using this
        · have := hj (q + 1) hq
          rwa [show j + (q + 1) = j + 1 + q by omega] at this
    · cases hB
theorem cl_none (ops : Array Oper) : Cl .any ops (List.replicate ops.size false).toArray :=
  ⟨by simp, fun j oj hj hl => by
    exfalso
    simp only [Array.getD_eq_getD_getElem?, List.getElem?_toArray, List.getElem?_replicate] at hl
    split at hl <;> simp at hl⟩
/-- the order is drawn; those of which ms says so are quiet -/
theorem Run.regionT {id : Nat} {l : List Oper} {D : List (Option Nat)} (S : World → Prop) (ms : List Bool) (lm : List Bool) (fuel : Nat) (hm : P.follows .mixedOrders = true) (hB : quietB .any l.toArray ms lm = true) (hf : Nat.beq (trues ms + fuel) l.length = true) (hD : l.map (·.dst) = D)
    (h : ∀ Z : Env → Prop, (∀ e, RAny P n C l.toArray S k fuel lm e L I → Z e) → QD P n C D L I Z ms l env) : Run P n C (.code (.region id l.toArray true) :: k) env L I := by
  have head := h _ fun _ h => h
  intro b a cs W hb hk he hi
  simp only [quietB, Bool.and_eq_true, beq_iff_eq] at hB
  obtain ⟨⟨⟨⟨hsel, hms⟩, ht⟩, hhead⟩, hlm⟩ := hB
  have hw : (Code.region id l.toArray true).wp P (Qk P n C k) a W := by
    refine wp_region_any hm ?_
    have H := wpHead_lex (P := P) (n := n) (C := C) (L := L) (I := I) (ops := l.toArray) (D := D) (by simpa using hD) hsel ht hlm ms 0 l (List.replicate l.toArray.size false) env a (fun q => by simp) (fun q hq => by rwa [Nat.zero_add]) (cl_none _) hhead head he
    have := wpAny_of_wpHead (Q' := Qk P n C k) (g := fuel) (fun listed a' w hw hG => by
      obtain ⟨rfl, env', he', hz⟩ := hG
      exact wpAny_of_held _ _ _ _ (hz a' w he' hw)) _ _ _ _ hi.drew H
    rw [show trues ms + fuel = l.toArray.size by have := Nat.eq_of_beq_eq_true hf; simpa using this] at this
    have e : (List.replicate l.toArray.size false).toArray = Array.replicate l.toArray.size false := by apply Array.ext'; simp
    rw [e] at this
    exact this
  obtain ⟨e, a', W', hq, harr⟩ := hw b k cs
  cases e with
  | normal =>
    obtain ⟨env', L', I', he', hi', hrun⟩ := hq
    obtain ⟨e, W2, fr, h1, h2, h3⟩ := hrun b a' cs W' hb hk he' hi'
    exact ⟨e, W2, fr, h1, Comes.of_steps harr h2, h3⟩
  | _ => exact hq.elim
/-- the order is drawn; all of it is quiet -/
theorem Run.regionQ {id : Nat} {l : List Oper} {D : List (Option Nat)} (ms : List Bool) (lm : List Bool) (hm : P.follows .mixedOrders = true) (hB : quietB .any l.toArray ms lm = true) (hf : Nat.beq (trues ms + 0) l.length = true) (hr : Region.ready .any l.toArray lm.toArray = []) (hD : l.map (·.dst) = D)
    (h : ∀ Z : Env → Prop, (∀ e, Run P n C k e L I → Z e) → QD P n C D L I Z ms l env) : Run P n C (.code (.region id l.toArray true) :: k) env L I :=
  Run.regionT (fun _ => True) ms lm 0 hm hB hf hD fun Z hZ => h Z fun e he => hZ e (RAny.done _ hr he)
/-- in the order of the text: the first m are quiet -/
theorem Ops.quiet {D : List (Option Nat)} {Z : Env → Prop} (hD : ops.toList.map (·.dst) = D) : ∀ (ms : List Bool) (hms : ms.all id = true) (i : Nat) (l : List Oper) (env : Env), QD P n C D L I Z ms l env → (∀ e, Z e → Ops P n C ops (i + ms.length) (l.drop ms.length) k e L I) → Ops P n C ops i l k env L I
  | [], _, i, l, env, h, next => next env h
  | m :: ms, _, i, [], env, h, next => by cases m <;> exact h.elim
  | false :: ms, hms, i, o :: l, env, h, next => by simp at hms
  | true :: ms, hms, i, o :: l, env, h, next => by
    obtain ⟨v, hd, hy, hK⟩ := h
    have ih := Ops.quiet hD ms (by simpa using hms) (i + 1) l _ hK (fun e he => by have := next e he; simp only [List.length_cons, List.drop_succ_cons] at this; rwa [show i + 1 + ms.length = i + (ms.length + 1) by omega])
    intro hl
    obtain ⟨ho, hl'⟩ := Ops.head hl
    intro b a cs W hb hk he hi
    rcases hy ops hD a he with ⟨hw, hq⟩ | ⟨hw, rfl⟩
    · have hqW := hq W hi
      unfold Oper.quietAt at hqW
      have fin : ∀ W', Inv C.w0 C.I0 C.L0 I L W' → Steps P (lone (b.at a (.inRegion ops (i :: List.range' (i + 1) l.length) :: k)) cs W) (lone (b.at (a.put o.dst v) (.inRegion ops (List.range' (i + 1) l.length) :: k)) cs W') →
          ∃ e W'' fr, Ends C.w0 C.I0 C.L0 C.R e W'' ∧ Comes P (lone (b.at a (.inRegion ops (List.range' i (o :: l).length) :: k)) cs W) (lone fr cs W'') e ∧ fr.fn = C.f ∧ fr.leaving P W'' e := fun W' hi' hs => by
        obtain ⟨e, W2, fr, h1, h2, h3⟩ := ih hl' b _ cs W' hb hk (he.put hd) hi'
        refine ⟨e, W2, fr, h1, Comes.of_steps ?_ h2, h3⟩
        simpa [List.range'_succ] using hs
      generalize hr : (execOp a.eval o).run P W = r at hqW
      cases r with
      | ok nx w' =>
        cases nx <;> simp only [Oper.quietUpon] at hqW
        case value u =>
          obtain ⟨rfl, rfl⟩ := hqW
          exact fin _ hi (steps_value ho hw hr)
        case skip =>
          obtain ⟨rfl, rfl⟩ := hqW
          exact fin _ hi (steps_skip ho hw hr)
        case enter f args =>
          obtain ⟨rfl, hc⟩ := hqW
          obtain ⟨v', W2, ⟨hv, hi2⟩, hs⟩ := steps_call (k := k) (b := b) (cs := cs) (rest := List.range' (i + 1) l.length) ho hw hr hc (fun e w'' ⟨he, _⟩ => ⟨v, he⟩)
          cases hv
          exact fin _ hi2 hs
      | halt x w' => simp only [Oper.quietUpon] at hqW
    · have hs := step_op_skip (P := P) (b := b) (a := a) (k := k) (cs := cs) (w := W) (ops := ops) (i := i) (rest := List.range' (i + 1) l.length) (by simp [ho, hw])
      simp only [ho, Option.bind_some] at hs
      obtain ⟨e, W', fr, h1, h2, h3⟩ := ih hl' b _ cs W hb hk (he.put hd) hi
      refine ⟨e, W', fr, h1, Comes.of_steps (.one ?_) h2, h3⟩
      simpa [List.range'_succ] using hs
theorem Run.regionP {id : Nat} {l l2 : List Oper} {D : List (Option Nat)} (ms : List Bool) (m : Nat) (hms : ms.all (fun b => b) = true) (hml : ms.length = m) (hD : l.map (·.dst) = D) (hl : l.drop m = l2) (h : ∀ Z : Env → Prop, (∀ e, Ops P n C l.toArray m l2 k e L I → Z e) → QD P n C D L I Z ms l env) :
    Run P n C (.code (.region id l.toArray false) :: k) env L I := by
  subst hl; subst hml
  exact Run.region (Ops.quiet (by simpa using hD) ms hms 0 l env (h _ fun _ h => h) fun e he => by simpa using he)
theorem Run.regionO {id : Nat} {l : List Oper} {D : List (Option Nat)} (ms : List Bool) (hms : ms.all (fun b => b) = true) (hD : l.map (·.dst) = D) (hm : l.length = ms.length) (h : ∀ Z : Env → Prop, (∀ e, Run P n C k e L I → Z e) → QD P n C D L I Z ms l env) :
    Run P n C (.code (.region id l.toArray false) :: k) env L I :=
  Run.regionP ms ms.length hms rfl hD (by rw [← hm]; exact List.drop_length) fun Z hZ => h Z fun e he => hZ e (Ops.nil he)
/-! the single operations -/
variable {D : List (Option Nat)} {Z : Env → Prop} {m : List Bool} {r : List Oper}
/-- v is yielded in worlds in which S holds -/
def Yv (P : Program) (n : Nat) (env : Env) (S : World → Prop) (op : Op) (v : Value) : Prop := ∀ a W, EnvOk n env a → S W → ∀ dst ty ps af g, (execOp a.eval ⟨dst, op, ty, ps, af, g⟩).run P W = .ok (.value v) W
theorem QD.yv {op : Op} {v : Value} (hd : d < n) (hg : wantD env D g = some true) (hy : Yv P n env (Holds I L) op v) (next : QD P n C D L I Z m r ((d, v) :: env)) : QD P n C D L I Z (true :: m) (⟨some d, op, ty, ps, af, g⟩ :: r) env :=
  ⟨v, dOk hd, fun ops hD a he => .inl ⟨wantD_spec hD he hg, fun W hi => by
      unfold Oper.quietAt
      rw [hy a W he (hi.holds (Le.refl _) fun _ h => h)]
      exact ⟨rfl, rfl⟩⟩, next⟩
theorem QD.ev {op : Op} {v : Value} (T : Tab P) (hd : d < n) (hg : wantD env D g = some true) (h : evalOp T env op = some v) (next : QD P n C D L I Z m r ((d, v) :: env)) : QD P n C D L I Z (true :: m) (⟨some d, op, ty, ps, af, g⟩ :: r) env :=
  QD.yv hd hg (fun a W he _ _ _ _ _ _ => evalOp_ok h he W) next
theorem QD.off {op : Op} (hd : d < n) (hg : wantD env D g = some false) (next : QD P n C D L I Z m r ((d, undef) :: env)) : QD P n C D L I Z (true :: m) (⟨some d, op, ty, ps, af, g⟩ :: r) env :=
  ⟨undef, dOk hd, fun ops hD a he => .inr ⟨wantD_spec hD he hg, rfl⟩, next⟩
theorem QD.callW {op : Op} {f : FuncId} {args : List Value} {v : Value} (hd : d < n) (hg : wantD env D g = some true)
    (hr : ∀ a W, EnvOk n env a → (execOp a.eval ⟨some d, op, ty, ps, af, g⟩).run P W = .ok (.enter f args.toArray) W) (hs : Pure P f args I fun w J => w = v ∧ J = I)
    (next : QD P n C D L I Z m r ((d, v) :: env)) : QD P n C D L I Z (true :: m) (⟨some d, op, ty, ps, af, g⟩ :: r) env :=
  ⟨v, dOk hd, fun ops hD a he => .inl ⟨wantD_spec hD he hg, fun W hi => by
    unfold Oper.quietAt
    rw [hr a W he]
    refine ⟨rfl, ?_⟩
    have hE : Eff P n C env L I ⟨some d, op, ty, ps, af, g⟩ fun w L1 I1 => w = v ∧ L1 = L ∧ I1 = I :=
      Eff.callW (M := []) (N := L) hr (.refl _) hs fun w J M' hle ⟨hM, hw, hJ⟩ => ⟨hw, by rw [hM]; rfl, hJ⟩
    rcases hE a W he hi with ⟨v1, W1, L1, I1, h1, _⟩ | ⟨f', args', h1, h2⟩
    · exfalso
      rw [hr a W he] at h1
      rcases h1 with h1 | ⟨h1, _⟩ <;> cases h1
    · rw [hr a W he] at h1
      cases h1
      exact h2.mono fun e W' ⟨w, L1, I1, e1, e2, e3, e4, e5⟩ => ⟨by rw [e1, e3], by rw [← e4, ← e5]; exact e2⟩⟩, next⟩
theorem Pure.keeps {f : FuncId} {args : List Value} {v : Value} (h : Pure P f args I fun w J => w = v) : Pure P f args I fun w J => w = v ∧ J = I := by
  intro w0 hf
  refine (h w0 hf).mono ?_
  rintro e W ⟨v', J, M, rfl, ⟨rfl, rfl⟩, hi⟩
  exact ⟨_, I, [], rfl, ⟨rfl, rfl, rfl⟩, { hi with fits := ⟨fun b o hb => hi.fits.imm b o (hi.ext b o hb), hi.fits.own, fun b o hm => by simp at hm, hi.fits.nd⟩, ext := Le.refl _, newI := fun b o hb => .inl hb }⟩
theorem QD.call {f : FuncId} {xs : List Operand} {ats : Array TypeId} {vs : List Value} {v : Value} (hs : Pure P f vs I fun w J => w = v) (hd : d < n) (hg : wantD env D g = some true)
    (hc : ∀ args w, (callFunc f args).run P w = .ok (.enter f args) w) (hx : opnds env xs = some vs)
    (next : QD P n C D L I Z m r ((d, v) :: env)) : QD P n C D L I Z (true :: m) (⟨some d, .call ⟨.value (.func f), xs.toArray, ats⟩, ty, ps, af, g⟩ :: r) env :=
  QD.callW hd hg (fun a W he => run_callF hc he hx) hs.keeps next
theorem Yv.load {J : Imm} {M : Own} {t : TypeId} {x : Operand} {b off : Nat} {v : Value} (j : Nat) {cs : List Value} {t' : TypeId} (T : Tab P) (hx : opnd env x = some (.pointer (some ⟨b, off, none⟩)))
    (hM : M[j]? = some (b, blk cs t')) (ha : T.agg t = some false) (hv : cs[off]? = some v) : Yv P n env (Holds J M) (.load t x) v :=
  fun a W he hS _ _ _ _ _ => by simp [execOp, Instr.loadAt, Instr.sureAddr, eval_opnd he hx, run_loadVar1 (T.aggOk ha) (hS.own j hM hv)]
theorem Yv.loadI {J : Imm} {M : Own} {t : TypeId} {x : Operand} {b off : Nat} {v : Value} (T : Tab P) (hA : At J b off [v]) (hx : opnd env x = some (.pointer (some ⟨b, off, none⟩)))
    (ha : T.agg t = some false) : Yv P n env (Holds J M) (.load t x) v :=
  fun a W he hS _ _ _ _ _ => by simp [execOp, Instr.loadAt, Instr.sureAddr, eval_opnd he hx, run_loadVar1 (T.aggOk ha) (by simpa using hS.cell hA 0 v rfl)]
theorem Yv.loadN {J : Imm} {M : Own} {t : TypeId} {x : Operand} {b off q : Nat} {vs : List Value} (j : Nat) {cs : List Value} {t' : TypeId} (T : Tab P) (hx : opnd env x = some (.pointer (some ⟨b, off, none⟩)))
    (hM : M[j]? = some (b, blk cs t')) (ha : T.agg t = some true) (hs : T.size t = some q) (hv : (cs.drop off).take q = vs) (hm : vs.length = q) : Yv P n env (Holds J M) (.load t x) (.agg vs.toArray) :=
  fun a W he hS _ _ _ _ _ => by
    have hc : ∀ j v, vs[j]? = some v → W.cell? ⟨b, off + j, none⟩ = some v := fun q v h => by
      rw [cell_blk (hS.2 b _ (List.mem_of_getElem? hM))]
      rw [← hv, List.getElem?_take] at h
      split at h
      · simpa using h
      · cases h
    simp [execOp, Instr.loadAt, Instr.sureAddr, eval_opnd he hx, run_loadVarN (T.aggOk ha) (T.sizeOk hs) hm hc]
theorem Eff.yv {op : Op} {v : Value} {K : Value → Own → Imm → Prop} (hy : Yv P n env (Holds I L) op v) (next : K v L I) : Eff P n C env L I ⟨some d, op, ty, ps, af, g⟩ K :=
  Eff.valW fun a W he hi => ⟨v, W, L, I, .inl (hy a W he (hi.holds (Le.refl _) fun _ h => h) _ _ _ _ _), hi, next⟩
theorem Yld.yv {S : World → Prop} {op : Op} {v : Value} (hg : want env ops g = some true) (hy : ∀ W, S W → Holds I L W) (h : Yv P n env (Holds I L) op v) : Yld P n env ops S ⟨some d, op, ty, ps, af, g⟩ v :=
  .inl ⟨hg, fun a W he hS => h a W he (hy W hS) _ _ _ _ _⟩
end
end Go.V
/-
  Numbers without a sign, as Lean's own; rules that serve in whatever order.
-/
namespace Go.V
open Go.RowKit
set_option linter.unusedVariables false
set_option linter.unusedSimpArgs false
/-- an operation that yields v whatever the world -/
def Ev (P : Program) (n : Nat) (env : Env) (op : Op) (v : Value) : Prop := ∀ (a : Act) (W : World), EnvOk n env a → ∀ dst ty ps af g, (execOp a.eval ⟨dst, op, ty, ps, af, g⟩).run P W = .ok (.value v) W
abbrev w8 (a : UInt8) : Value := .int .u8 (a.toNat : Int)
section
variable {P : Program} {n : Nat} {C : Cx} {k : List Item} {env : Env} {L : Own} {I : Imm} {ops : Array Oper} {i : Nat} {l : List Oper} {S : World → Prop}
variable {ty : TypeId} {ps : String} {af : Array Edge} {g : Option (Nat × Bool)} {d : Nat}
theorem Ops.ev {op : Op} {v : Value} (h : Ev P n env op v) (hg : want env ops g = some true) (hd : d < n) (next : Ops P n C ops (i + 1) l k ((d, v) :: env) L I) : Ops P n C ops i (⟨some d, op, ty, ps, af, g⟩ :: l) k env L I :=
  Ops.val hg (dOk hd) (fun a W he _ => h a W he _ _ _ _ _) next
theorem Yld.ev {op : Op} {v : Value} (h : Ev P n env op v) (hg : want env ops g = some true) : Yld P n env ops S ⟨some d, op, ty, ps, af, g⟩ v := .inl ⟨hg, fun a W he _ => h a W he _ _ _ _ _⟩
theorem Ev.yv {op : Op} {v : Value} (h : Ev P n env op v) : Yv P n env S op v := fun a W he _ dst ty ps af g => h a W he dst ty ps af g
theorem QD.e {D : List (Option Nat)} {Z : Env → Prop} {m : List Bool} {r : List Oper} {op : Op} {v : Value} (h : Ev P n env op v) (hd : d < n) (hg : wantD env D g = some true) (next : QD P n C D L I Z m r ((d, v) :: env)) : QD P n C D L I Z (true :: m) (⟨some d, op, ty, ps, af, g⟩ :: r) env :=
  QD.yv hd hg h.yv next
theorem Ev.as {op : Op} {v v' : Value} (h : Ev P n env op v) (e : v = v') : Ev P n env op v' := e ▸ h
variable {x y : Operand} {t t' : TypeId}
theorem Ev.of2 {op : BinOp} {v u r : Value} (hx : opnd env x = some v) (hy : opnd env y = some u) (h : ∀ W, (eqGuard op t x y v u).run P W = .ok () W) (h2 : ∀ W, (binOp op t v u).run P W = .ok r W) : Ev P n env (.binOp op t x y t') r :=
  fun a W he _ _ _ _ _ => by simp [execOp, eval_opnd he hx, eval_opnd he hy, h, h2]
section
variable {a b : UInt32}
end
section
variable {a b : UInt64}
end
theorem Ev.conv {src dst : TypeId} {ks kd : IntKind} {a r : Int} (T : Tab P) (hs : T.und src = some (.int ks)) (ht : T.und dst = some (.int kd)) (hx : opnd env x = some (.int ks a)) (hr : kd.wrap a = r) : Ev P n env (.convert src dst x) (.int kd r) :=
  fun c W he _ _ _ _ _ => by
    subst hr
    simp [execOp, eval_opnd he hx, convert, T.undOk hs, T.undOk ht, Conv.intToInt]
theorem Ev.indexS {ts e : TypeId} {ix : Operand} {kd : IntKind} {j : Int} {len c b off size : Nat} (T : Tab P) (hu : T.und ts = some (.slice e)) (hz : T.size e = some size) (hx : opnd env x = some (.slice (some ⟨b, off, none⟩) len c)) (hi : opnd env ix = some (.int kd j))
    (h0 : 0 ≤ j) (h1 : j < len) : Ev P n env (.indexAddr ts x ix) (.pointer (some ⟨b, off + j.toNat * size, none⟩)) :=
  fun c W he _ _ _ _ _ => by
    simp [execOp, Instr.indexAt, eval_opnd he hx, eval_opnd he hi, asIntOf, T.undOk hu, T.sizeOk hz, h0, h1, add_off]
/-- x[i] of a text -/
theorem Ev.indexT {ts : TypeId} {ix : Operand} {kd : IntKind} {j : Int} {s : List UInt8} (T : Tab P) (hu : T.und ts = some .string) (hx : opnd env x = some (str s)) (hi : opnd env ix = some (.int kd j)) (h0 : 0 ≤ j) (h1 : j < s.length) :
    Ev P n env (.index ts x ix) (w8 (s.getD j.toNat 0)) :=
  fun c W he _ _ _ _ _ => by
    have hj : j.toNat < s.length := by omega
    have : (⟨s.toArray⟩ : ByteArray)[j.toNat]? = some (s.getD j.toNat 0) := by
      rw [getElem?_pos (⟨s.toArray⟩ : ByteArray) j.toNat (by rw [str_size]; exact hj)]
      simp [List.getD_eq_getElem?_getD, hj, ByteArray.getElem_eq_getElem_data]
    simp [execOp, Instr.index, eval_opnd he hx, eval_opnd he hi, asIntOf, T.undOk hu, str, h0, this]
/-! whole numbers with a sign -/
section
variable {kd : IntKind} {a b r : Int}
theorem Ev.addI (hx : opnd env x = some (.int kd a)) (hy : opnd env y = some (.int kd b)) (hr : kd.wrap (a + b) = r) : Ev P n env (.binOp .add t x y t') (.int kd r) :=
  Ev.of2 hx hy (fun _ => run_eqGuard_int ..) fun W => by subst hr; simp [binOp, Op.intArith]
theorem Ev.mulI (hx : opnd env x = some (.int kd a)) (hy : opnd env y = some (.int kd b)) (hr : kd.wrap (a * b) = r) : Ev P n env (.binOp .mul t x y t') (.int kd r) :=
  Ev.of2 hx hy (fun _ => run_eqGuard_int ..) fun W => by subst hr; simp [binOp, Op.intArith]
theorem Ev.lss (hx : opnd env x = some (.int kd a)) (hy : opnd env y = some (.int kd b)) : Ev P n env (.binOp .lss t x y t') (.bool (decide (a < b))) := Ev.of2 hx hy (fun _ => run_eqGuard_int ..) fun W => by simp [binOp, Op.intCmp]
theorem Ev.leq (hx : opnd env x = some (.int kd a)) (hy : opnd env y = some (.int kd b)) : Ev P n env (.binOp .leq t x y t') (.bool (decide (a ≤ b))) := Ev.of2 hx hy (fun _ => run_eqGuard_int ..) fun W => by simp [binOp, Op.intCmp]
theorem Ev.gtr (hx : opnd env x = some (.int kd a)) (hy : opnd env y = some (.int kd b)) : Ev P n env (.binOp .gtr t x y t') (.bool (decide (b < a))) := Ev.of2 hx hy (fun _ => run_eqGuard_int ..) fun W => by simp [binOp, Op.intCmp]
theorem Ev.geq (hx : opnd env x = some (.int kd a)) (hy : opnd env y = some (.int kd b)) : Ev P n env (.binOp .geq t x y t') (.bool (decide (b ≤ a))) := Ev.of2 hx hy (fun _ => run_eqGuard_int ..) fun W => by simp [binOp, Op.intCmp]
theorem Ev.eqlI (hx : opnd env x = some (.int kd a)) (hy : opnd env y = some (.int kd b)) : Ev P n env (.binOp .eql t x y t') (.bool (decide (a = b))) := Ev.of2 hx hy (fun _ => run_eqGuard_int ..) fun W => by simp [binOp, Op.intCmp]; rfl
theorem Ev.neqI (hx : opnd env x = some (.int kd a)) (hy : opnd env y = some (.int kd b)) : Ev P n env (.binOp .neq t x y t') (.bool (!decide (a = b))) := Ev.of2 hx hy (fun _ => run_eqGuard_int ..) fun W => by simp [binOp, Op.intCmp]; rfl
end
/-! texts -/
section
variable {s u : List UInt8}
theorem Ev.lenS {ts : TypeId} (T : Tab P) (hu : T.und ts = some .string) (hx : opnd env x = some (str s)) : Ev P n env (.call ⟨.builtin .len, #[x], #[ts]⟩) (.int .i64 s.length) :=
  fun a W he _ _ _ _ _ => by simp [execOp, resolve, invoke, builtin, Builtin.len_, eval_opnd he hx, T.undOk hu, str, goInt, str_size]
theorem Ev.catS (hx : opnd env x = some (str s)) (hy : opnd env y = some (str u)) (hlen : s.length + u.length ≤ 9223372036854775807) : Ev P n env (.binOp .add t x y t') (str (s ++ u)) :=
  Ev.of2 hx hy (fun _ => run_eqGuard_string ..) fun W => by simp [str, binOp, Op.stringOp, str_size, str_append]; omega
theorem Ev.eqlS (hx : opnd env x = some (str s)) (hy : opnd env y = some (str u)) : Ev P n env (.binOp .eql t x y t') (.bool (decide (s = u))) :=
  Ev.of2 hx hy (fun _ => run_eqGuard_string ..) fun W => by
    have : (s == u) = decide (s = u) := by rw [Bool.eq_iff_iff]; simp
    simp [str, binOp, Op.stringOp, str_toList, this]
theorem Ev.cutSLo {ts : TypeId} {lo : Operand} {kd : IntKind} {j : Int} (T : Tab P) (hu : T.und ts = some .string) (hx : opnd env x = some (str s)) (hlo : opnd env lo = some (.int kd j)) (h0 : 0 ≤ j) (h1 : j ≤ s.length) :
    Ev P n env (.slice ts x (some lo) none none) (str (s.drop j.toNat)) :=
  fun a W he _ _ _ _ _ => by
    have hj := run_sliceBound (P := P) (v := .int kd j) (y := s.length) (code := .sliceB) rfl h0 (by omega) W
    have ht : s.take s.length = s := List.take_length
    simp [execOp, Instr.sliceAt, Instr.slice, Instr.sliceBounds, eval_opnd he hx, eval_opnd he hlo, T.undOk hu, str, str_size, hj, str_extract, ht]
theorem Ev.cutSHi {ts : TypeId} {hi : Operand} {kd : IntKind} {q : Int} (T : Tab P) (hu : T.und ts = some .string) (hx : opnd env x = some (str s)) (hhi : opnd env hi = some (.int kd q)) (h0 : 0 ≤ q) (h1 : q ≤ s.length) :
    Ev P n env (.slice ts x none (some hi) none) (str (s.take q.toNat)) :=
  fun a W he _ _ _ _ _ => by
    have hm := run_sliceBound (P := P) (v := .int kd q) (y := s.length) (code := .sliceAlen) rfl (by omega) (by omega) W
    simp [execOp, Instr.sliceAt, Instr.slice, Instr.sliceBounds, eval_opnd he hx, eval_opnd he hhi, T.undOk hu, str, str_size, hm, str_extract]
end
theorem Ev.neqB {p q : Bool} (hx : opnd env x = some (.bool p)) (hy : opnd env y = some (.bool q)) (T : Tab P) (hu : T.und t = some .bool) : Ev P n env (.binOp .neq t x y t') (.bool (!(p == q))) := fun a W he dst ty ps af g => by
  rcases Yld.neqB (n := n) (env := env) (ops := #[]) (S := fun _ => True) (d := 0) (ty := ty) (ps := ps) (af := af) (g := none) (t' := t') T rfl hu hx hy with ⟨_, h⟩ | ⟨h, _⟩
  · exact h a W he trivial
  · cases h
theorem Ev.eqlNil {u : TypeDesc} {v z : Value} {r : Bool} (T : Tab P) (hu : T.und t = some u) (hz : nilOf u = some z) (hx : opnd env x = some v) (hv : isNilV v = some r) (hf : fitsNil u v = true) : Ev P n env (.binOp .eql t x (.const z) t') (.bool r) :=
  fun a W he _ _ _ _ _ => by
    have h1 := run_eqGuard_nil (op := .eql) (t := t) (x := x) (v := v) (z := z) (c := z) (P := P) hz W
    have h2 := run_equal_nil (P := P) (T.undOk hu) hz hv hf W
    have h3 : binOp .eql t v z = (Op.equal t v z >>= fun b => pure (.bool b)) := by
      cases v <;> simp [isNilV] at hv <;> rfl
    have hz2 : a.eval (.const z) = z := rfl
    simp only [execOp, eval_opnd he hx, hz2, Sem.run_bind, h1, Result.andThen_ok, h3, h2]
    rfl
theorem Ev.neqNil {u : TypeDesc} {v z : Value} {r : Bool} (T : Tab P) (hu : T.und t = some u) (hz : nilOf u = some z) (hx : opnd env x = some v) (hv : isNilV v = some r) (hf : fitsNil u v = true) : Ev P n env (.binOp .neq t x (.const z) t') (.bool (!r)) :=
  fun a W he _ _ _ _ _ => by
    have h1 := run_eqGuard_nil (op := .neq) (t := t) (x := x) (v := v) (z := z) (c := z) (P := P) hz W
    have h2 := run_equal_nil (P := P) (T.undOk hu) hz hv hf W
    have h3 : binOp .neq t v z = (Op.equal t v z >>= fun b => pure (.bool (!b))) := by
      cases v <;> simp [isNilV] at hv <;> rfl
    have hz2 : a.eval (.const z) = z := rfl
    simp only [execOp, eval_opnd he hx, hz2, Sem.run_bind, h1, Result.andThen_ok, h3, h2]
    rfl
theorem Ev.buildS {xs : List (Nat × Operand)} {vs : List (Nat × Value)} {pl : List (Nat × Nat)} {z : Array Value} {cs : List Value}
    (hb : ∀ w ps cells, Instr.fill (pl[·]?) z ps = some cells → (Instr.build t ps.toArray).run P w = .ok (.agg cells) w) (hx : parts env xs = some vs) (hf : fillL pl z.toList vs = some cs) : Ev P n env (.build t xs.toArray) (.agg cs.toArray) :=
  fun a W he _ _ _ _ _ => by
    have h := hb W vs cs.toArray (by simpa using fillL_ok pl vs z.toList cs hf)
    rw [← parts_spec he hx] at h
    simp only [execOp, List.map_toArray, Sem.run_bind]
    have hm : (List.map (fun (x : Nat × Operand) => match x with | (i, x) => (i, a.eval x)) xs) = xs.map (fun (p : Nat × Operand) => (p.1, a.eval p.2)) := rfl
    rw [hm, h]; rfl
end
end Go.V
/-
  Rows of bytes that a call owns and cuts; blocks that are lent to a call; slices made; interfaces asked and compared.
-/
namespace Go.V
open Go.RowKit
set_option linter.unusedVariables false
set_option linter.unusedSimpArgs false
abbrev wb (xs : List UInt8) : List Value := xs.map w8
/-- a slice of bytes that stands in a block which is owned -/
def Buf (e : TypeId) (v : Value) (xs : List UInt8) (M : Own) : Prop :=
  (v = .slice none 0 0 ∧ xs = [] ∧ M = []) ∨
  ∃ b pre post cap, v = .slice (some ⟨b, pre.length, none⟩) xs.length cap ∧ M = [(b, blk (pre ++ wb xs ++ post) e)] ∧ xs.length ≤ cap ∧ cap ≤ xs.length + post.length
theorem Buf.nil (e : TypeId) : Buf e (.slice none 0 0) [] [] := .inl ⟨rfl, rfl, rfl⟩
theorem Buf.isSl {e : TypeId} {v : Value} {xs : List UInt8} {M : Own} (h : Buf e v xs M) : ∃ A c, v = .slice A xs.length c := by
  rcases h with ⟨rfl, rfl, _⟩ | ⟨b, pre, post, cap, rfl, _⟩
  · exact ⟨none, 0, rfl⟩
  · exact ⟨_, _, rfl⟩
/-- bytes of a slice that is read: where they stand -/
theorem Sl.ofBytes {J : Imm} {b cap : Nat} {pre post : List Value} {xs : List UInt8} {e : TypeId} (hb : J b = some (blk (pre ++ wb xs ++ post) e)) (hc : xs.length ≤ cap) : Sl tU8 J (.slice (some ⟨b, pre.length, none⟩) xs.length cap) xs := by
  refine ⟨_, _, rfl, hc, .inr ⟨b, pre.length, rfl, fun i x hx => ⟨[w8 x], rfl, _, _, _, hb, fun j v hv => ?_⟩⟩⟩
  have hj : j = 0 := by
    cases j with
    | zero => rfl
    | succ j => simp at hv
  subst hj
  simp at hv; subst hv
  have hi : i < xs.length := (List.getElem?_eq_some_iff.1 hx).1
  simp only [show tU8.size = 1 from rfl, Nat.mul_one, Nat.add_zero]
  rw [List.getElem?_toArray, List.append_assoc, List.getElem?_append_right (by omega), Nat.add_sub_cancel_left, List.getElem?_append_left (by simpa using hi), List.getElem?_map, hx]
  rfl
theorem Buf.sl {e : TypeId} {v : Value} {xs : List UInt8} {M : Own} {J : Imm} (h : Buf e v xs M) (hJ : ∀ b o, (b, o) ∈ M → J b = some o) : Sl tU8 J v xs := by
  rcases h with ⟨rfl, rfl, _⟩ | ⟨b, pre, post, cap, rfl, rfl, hc, _⟩
  · exact Sl.nil _ _
  · exact Sl.ofBytes (hJ b _ (List.mem_singleton.2 rfl)) hc
theorem zeroCells_u8 (k : Nat) : (Builtin.zeroCells #[Value.int .u8 0] k).toList = wb (List.replicate k 0) := by
  simp [Builtin.zeroCells, wb, Array.toList_range]
  apply List.ext_getElem
  · simp
  · intro i h1 h2
    simp [Nat.mod_one]
section
variable {P : Program} {n : Nat} {C : Cx} {k : List Item} {env : Env} {L : Own} {I : Imm} {ops : Array Oper} {i : Nat} {l : List Oper}
variable {ty : TypeId} {ps : String} {af : Array Edge} {g : Option (Nat × Bool)} {d : Nat}
theorem Buf.cut {e : TypeId} {v : Value} {xs : List UInt8} {M : Own} (h : Buf e v xs M) {A : Option Addr} {m c lo : Nat} (hv : v = .slice A m c) (hlo : lo ≤ xs.length) :
    Buf e (.slice (if c = lo then A else A.map (·.add lo)) (m - lo) (c - lo)) (xs.drop lo) M := by
  rcases h with ⟨rfl, rfl, rfl⟩ | ⟨b, pre, post, cap, rfl, rfl, hc, hc2⟩
  · cases hv
    have : lo = 0 := by simpa using hlo
    subst this
    exact .inl ⟨rfl, rfl, rfl⟩
  · cases hv
    refine .inr ?_
    by_cases he : c = lo
    · rw [if_pos he]
      have hx : xs.length = lo := by omega
      have hx2 : xs.drop lo = [] := List.drop_eq_nil_of_le (by omega)
      rw [hx2]
      refine ⟨b, pre, wb xs ++ post, c - lo, by simp [hx], by simp, by simp, by simp; omega⟩
    · rw [if_neg he]
      refine ⟨b, pre ++ wb (xs.take lo), post, c - lo, ?_, ?_, by simp; omega, by simp; omega⟩
      · simp only [List.length_append, List.length_map, List.length_take, List.length_drop, Nat.min_eq_left hlo, Option.map_some, add_off]
      · have e3 : wb xs = wb (xs.take lo) ++ wb (xs.drop lo) := by rw [wb, wb, wb, ← List.map_append, List.take_append_drop]
        rw [e3]
        simp only [List.append_assoc]
theorem run_append_buf {ts tx e : TypeId} (hE : Elem P ts e 1 1) (hz : ∃ iE, P.info? e = some iE ∧ iE.zero = some (.int .u8 0)) {W : World} {w0 : World} {I0 : Imm} {L0 : List Nat} {M N : Own} {v x : Value} {xs ys : List UInt8} (hi : Inv w0 I0 L0 I (M ++ N) W)
    (hG : Buf e v xs M) (hx : Src P 1 tx x ys.length (wb ys) W) (hbytes : 2 * (xs.length + ys.length) + 512 ≤ 281474976710656) (h63 : xs.length + ys.length ≤ 4611686018427387904) :
    ∃ v' W' M', (Builtin.append_ #[ts, tx] ty #[v, x]).run P W = .ok v' W' ∧ Buf e v' (xs ++ ys) M' ∧ Inv w0 I0 L0 I (M' ++ N) W' := by
  obtain ⟨iE, z, hinfo, hzero, hs1, hb1, hzs⟩ := hE.info
  obtain ⟨iE', hinfo', hz'⟩ := hz
  obtain rfl : iE' = iE := Option.some.inj (hinfo'.symm.trans hinfo)
  obtain rfl : z = .int .u8 0 := Option.some.inj (hzero.symm.trans hz')
  have grow : ∀ (base : Option Addr) (cap : Nat), v = .slice base xs.length cap → cap < xs.length + ys.length → (Builtin.firstCells 1 xs.length (.slice base xs.length cap)).run P W.drew = .ok (wb xs).toArray W.drew →
      ∃ v' W' M', (Builtin.append_ #[ts, tx] ty #[v, x]).run P W = .ok v' W' ∧ Buf e v' (xs ++ ys) M' ∧ Inv w0 I0 L0 I (M' ++ N) W' := by
    intro base cap hv hcap hold
    have hr := run_append_grow_src (P := P) W ts tx ty e iE' _ hE.under hinfo hzero base xs.length cap (wb xs) (by rw [hs1]; exact hold) x ys.length (wb ys) (by rw [hs1]; exact hx) hcap (by omega)
      (by rw [hb1, Nat.mul_one]; exact Nat.le_trans (nextcap_le _ _ hcap) (by omega))
    subst hv
    have hge := grownCap_ge W (xs.length + ys.length) cap e
    have hcells : (wb xs ++ wb ys).toArray ++ Builtin.zeroCells (Value.int .u8 0).cells (grownCap W (xs.length + ys.length) cap e - (xs.length + ys.length)) =
        (([] : List Value) ++ wb (xs ++ ys) ++ wb (List.replicate (grownCap W (xs.length + ys.length) cap e - (xs.length + ys.length)) 0)).toArray := by
      apply Array.ext'
      rw [Array.toList_append, show (Value.int .u8 0).cells = #[Value.int .u8 0] from rfl, zeroCells_u8]
      simp
    rw [hcells] at hr
    refine ⟨_, _, [(W.heap.size, blk (([] : List Value) ++ wb (xs ++ ys) ++ wb (List.replicate (grownCap W (xs.length + ys.length) cap e - (xs.length + ys.length)) 0)) e)], hr, .inr ⟨W.heap.size, [], _, grownCap W (xs.length + ys.length) cap e, by simp, rfl, by simpa using hge, by simp; omega⟩, ?_⟩
    have h1 : Inv w0 I0 L0 I N W := hi.weakenL (List.sublist_append_right _ _)
    exact h1.drew.alloc _
  rcases hG with ⟨rfl, rfl, rfl⟩ | ⟨b, pre, post, cap, rfl, rfl, hmc, hcs⟩
  · by_cases hq : ys = []
    · subst hq
      refine ⟨.slice none 0 0, W, [], ?_, Buf.nil e, hi⟩
      have hx' : Src P iE'.size tx x 0 [] W := by rw [hs1]; exact hx
      rcases hx.kind with ⟨e', hk⟩ | hk <;>
        simp [Builtin.append_, run_underlying hE.under, run_underlying hk, sizeOf, typeInfo, hinfo, hx'.len, hx'.cells]
    · exact grow none 0 rfl (by have : 0 < ys.length := List.length_pos_iff.2 hq; simp; exact this) (by simp [Builtin.firstCells])
  · have hW := hi.fits.own b _ (List.mem_append_left _ (List.mem_singleton.2 rfl))
    by_cases hroom : xs.length + ys.length ≤ cap
    · have hsz : (pre ++ wb xs ++ post).toArray.size = pre.length + xs.length + post.length := by simp; omega
      have hr := run_append_room_src (P := P) W ts tx ty e iE' hE.under hinfo b pre.length xs.length cap x ys.length (wb ys) (by rw [hs1]; exact hx) hroom
        (fun j hj => by rw [cell_blk hW, hs1]; simp at hj ⊢; omega) (fun j hj => by simp [World.frozen?, hW, blk])
      have hst := run_storeCells_at P b (pre.length + xs.length) e (wb ys) 0 (pre ++ wb xs ++ post).toArray W hW (by rw [hsz]; simp; omega) hx.one
      have hst2 := run_storeCells_cells (P := P) b (pre.length + xs.length) (wb ys) 0 W (fun j hj => by rw [cell_blk hW]; simp at hj ⊢; omega) (fun j hj => by simp [World.frozen?, hW, blk]) hx.one
      rw [hst] at hst2
      simp only [Nat.add_zero, hs1, Nat.mul_one] at hst2 hr
      have hcs2 : (((pre ++ wb xs ++ post).toArray.toList.take (pre.length + xs.length) ++ wb ys ++ (pre ++ wb xs ++ post).toArray.toList.drop (pre.length + xs.length + (wb ys).length)).toArray) = (pre ++ wb (xs ++ ys) ++ post.drop ys.length).toArray := by
        congr 1
        show (pre ++ wb xs ++ post).take _ ++ wb ys ++ (pre ++ wb xs ++ post).drop _ = _
        have hlx : (pre ++ wb xs).length = pre.length + xs.length := by simp
        rw [← hlx, List.take_left, List.drop_append]
        simp
      rw [hcs2] at hst2
      have hw : W.setCells b (pre.length + xs.length) (wb ys) = W.setRow b (pre ++ wb (xs ++ ys) ++ post.drop ys.length).toArray := by
        injection hst2 with _ h; exact h.symm
      rw [hw] at hr
      refine ⟨_, _, [(b, blk (pre ++ wb (xs ++ ys) ++ post.drop ys.length) e)], hr, .inr ⟨b, pre, post.drop ys.length, cap, by simp, rfl, by simpa using hroom, by simp; omega⟩, ?_⟩
      exact hi.upd rfl rfl rfl (by simp) (fun c _ hcb => setRow_other W b c _ hcb) (setRow_heap W b _ _ e _ hW)
    · refine grow (some ⟨b, pre.length, none⟩) cap rfl (by omega) ?_
      have hl := run_firstCells_some (P := P) W.drew 1 xs.length ⟨b, pre.length, none⟩ xs.length cap (wb xs) (by simp) (fun j u hu => by
        rw [add_off, World.cell?_drew, cell_blk hW]
        have hj : j < xs.length := by simpa using (List.getElem?_eq_some_iff.1 hu).1
        rw [List.getElem?_toArray, List.append_assoc, List.getElem?_append_right (by omega), Nat.add_sub_cancel_left, List.getElem?_append_left (by simpa using hj)]
        exact hu)
      exact hl
/-- what is known of a type of bytes -/
structure Bt (P : Program) (ts e : TypeId) : Prop where
  el : Elem P ts e 1 1
  zero : ∃ iE, P.info? e = some iE ∧ iE.zero = some (.int .u8 0)
theorem Eff.appBuf {s x : Operand} {ts tx e : TypeId} {M N : Own} {v xv : Value} {xs ys : List UInt8} {K : Value → Own → Imm → Prop} (hE : Bt P ts e) (hs : opnd env s = some v) (hx : opnd env x = some xv) (hL : L.Perm (M ++ N)) (hG : Buf e v xs M)
    (hsrc : ∀ W, Inv C.w0 C.I0 C.L0 I L W → Src P 1 tx xv ys.length (wb ys) W) (hbytes : 2 * (xs.length + ys.length) + 512 ≤ 281474976710656)
    (next : ∀ v' M', Buf e v' (xs ++ ys) M' → K v' (M' ++ N) I) : Eff P n C env L I ⟨some d, .call ⟨.builtin .append, #[s, x], #[ts, tx]⟩, ty, ps, af, g⟩ K :=
  Eff.valW fun a W he hi => by
    obtain ⟨v', W', M', hr, hG', hi'⟩ := run_append_buf (P := P) (ty := ty) hE.el hE.zero (hi.perm hL) hG (hsrc W hi) hbytes (by omega)
    refine ⟨v', W', M' ++ N, I, .inl ?_, hi', next v' M' hG'⟩
    simp [execOp, resolve, Go.invoke, builtin, eval_opnd he hs, eval_opnd he hx, hr]
theorem Ops.appBuf {s x : Operand} {ts tx e : TypeId} {M N : Own} {v xv : Value} {xs ys : List UInt8} (hE : Bt P ts e) (hG : Buf e v xs M) (hg : want env ops g = some true) (hd : d < n) (hs : opnd env s = some v) (hx : opnd env x = some xv) (hL : L.Perm (M ++ N))
    (hsrc : ∀ W, Inv C.w0 C.I0 C.L0 I L W → Src P 1 tx xv ys.length (wb ys) W) (hbytes : 2 * (xs.length + ys.length) + 512 ≤ 281474976710656)
    (next : ∀ v' M', Buf e v' (xs ++ ys) M' → Ops P n C ops (i + 1) l k ((d, v') :: env) (M' ++ N) I) : Ops P n C ops i (⟨some d, .call ⟨.builtin .append, #[s, x], #[ts, tx]⟩, ty, ps, af, g⟩ :: l) k env L I :=
  Ops.eff hg (dOk hd) (Eff.appBuf hE hs hx hL hG hsrc hbytes next)
theorem src_own {ts e e' : TypeId} {b c : Nat} {ys : List UInt8} {pre post : List Value} (hu : P.underlying ts = some (.slice e)) {w0 : World} {I0 : Imm} {L0 : List Nat} {W : World} (hi : Inv w0 I0 L0 I L W) (hm : (b, blk (pre ++ wb ys ++ post) e') ∈ L) :
    Src P 1 ts (.slice (some ⟨b, pre.length, none⟩) ys.length c) ys.length (wb ys) W :=
  Src.ofSlice W hu ⟨b, pre.length, none⟩ ys.length c _ (by simp) (fun j u hj => by
    have hjl : j < ys.length := by simpa using (List.getElem?_eq_some_iff.1 hj).1
    rw [add_off, cell_blk (hi.fits.own b _ hm), List.getElem?_toArray, List.append_assoc, List.getElem?_append_right (by omega), Nat.add_sub_cancel_left, List.getElem?_append_left (by simpa using hjl)]
    exact hj) (fun u hu => by
        obtain ⟨y, _, rfl⟩ := List.mem_map.1 hu
        rfl)
theorem src_str {tx : TypeId} {z : List UInt8} (hu : P.underlying tx = some .string) (W : World) : Src P 1 tx (str z) z.length (wb z) W := by
  have := Src.ofString (P := P) W hu ⟨z.toArray⟩
  rw [str_size] at this
  have e : Go.byteCells ⟨z.toArray⟩ = wb z := by simp [Go.byteCells, wb]
  rw [e] at this; exact this
/-- append of a literal, whose block goes; the slice's block stands last -/
theorem Ops.appLit {s x : Operand} {ts e : TypeId} {b q c : Nat} {M N : Own} {v : Value} {xs : List UInt8} {news : List Value} (ys : List UInt8) (hE : Bt P ts e) (hG : Buf e v xs M) (hg : want env ops g = some true) (hd : d < n) (hs : opnd env s = some v) (hx : opnd env x = some (.slice (some ⟨b, 0, none⟩) q c))
    (hL : L = (b, blk news e) :: (N ++ M)) (hn : news = wb ys) (hq : ys.length = q) (hbytes : 2 * (xs.length + ys.length) + 512 ≤ 281474976710656)
    (next : ∀ v' M', Buf e v' (xs ++ ys) M' → Ops P n C ops (i + 1) l k ((d, v') :: env) (N ++ M') I) : Ops P n C ops i (⟨some d, .call ⟨.builtin .append, #[s, x], #[ts, ts]⟩, ty, ps, af, g⟩ :: l) k env L I := by
  subst hL; subst hn; subst hq
  refine Ops.appBuf (M := M) (N := (b, blk (wb ys) e) :: N) hE hG hg hd hs hx ?_ ?_ hbytes fun v' M' h => ?_
  · exact (List.Perm.cons _ List.perm_append_comm).trans List.perm_middle.symm
  · intro W hi
    have := src_own (P := P) (ts := ts) (pre := []) (post := []) (ys := ys) (b := b) (c := c) (e' := e) hE.el.under hi (by simp)
    simpa using this
  · exact Ops.dropL (List.Sublist.append_left (List.sublist_cons_self _ _) _) (Ops.perm List.perm_append_comm (next v' M' h))
/-! slices cut -/
variable {x : Operand} {ts e : TypeId}
theorem Ev.sliceLo {A : Option Addr} {m c : Nat} {lo : Operand} {kd : IntKind} {j : Nat} {size : Nat} (T : Tab P) (hu : T.und ts = some (.slice e)) (hz : T.size e = some size) (hx : opnd env x = some (.slice A m c)) (hlo : opnd env lo = some (.int kd (j : Int))) (h1 : j ≤ m) (h2 : m ≤ c) :
    Ev P n env (.slice ts x (some lo) none none) (.slice (if c = j then A else A.map (·.add (j * size))) (m - j) (c - j)) :=
  fun a W he _ _ _ _ _ => by
    have hb := run_sliceBounds (P := P) (hi := none) (lo := some (a.eval lo)) (len := m) (cap := c) (l := j) (h := m) (kd := .i64) (kd' := kd) (.inl ⟨rfl, rfl⟩) (.inr (by simp [eval_opnd he hlo])) h2 h1 W
    simp [execOp, Instr.sliceAt, Instr.slice, eval_opnd he hx, T.undOk hu, hb, T.sizeOk hz]
end
end Go.V
