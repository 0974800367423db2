/-
  Comparisons and sums where the order is drawn; literals and appends there.
-/
import Derived.Test.YtmdpfceigmimhaaMV18
namespace Go.V
open Go.RowKit
set_option linter.unusedVariables false
set_option linter.unusedSimpArgs false
section
variable {P : Program} {n : Nat} {C : Cx} {env : Env} {L : Own} {I : Imm} {ops : Array Oper} {S : World → Prop}
variable {d : Nat} {ty : TypeId} {ps : String} {af : Array Edge} {g : Option (Nat × Bool)} {t t' : TypeId} {x y : Operand} {kd : IntKind} {a b r : Int} {s u : List UInt8}
theorem Yld.lss (hg : want env ops g = some true) (hx : opnd env x = some (.int kd a)) (hy : opnd env y = some (.int kd b)) : Yld P n env ops S ⟨some d, .binOp .lss t x y t', ty, ps, af, g⟩ (.bool (decide (a < b))) :=
  Yld.val hg fun c W he _ => by simp [execOp, eval_opnd he hx, eval_opnd he hy, run_eqGuard_int, binOp, Op.intCmp]
theorem Yld.leq (hg : want env ops g = some true) (hx : opnd env x = some (.int kd a)) (hy : opnd env y = some (.int kd b)) : Yld P n env ops S ⟨some d, .binOp .leq t x y t', ty, ps, af, g⟩ (.bool (decide (a ≤ b))) :=
  Yld.val hg fun c W he _ => by simp [execOp, eval_opnd he hx, eval_opnd he hy, run_eqGuard_int, binOp, Op.intCmp]
theorem Yld.gtr (hg : want env ops g = some true) (hx : opnd env x = some (.int kd a)) (hy : opnd env y = some (.int kd b)) : Yld P n env ops S ⟨some d, .binOp .gtr t x y t', ty, ps, af, g⟩ (.bool (decide (b < a))) :=
  Yld.val hg fun c W he _ => by simp [execOp, eval_opnd he hx, eval_opnd he hy, run_eqGuard_int, binOp, Op.intCmp]
theorem Yld.sub (hg : want env ops g = some true) (hx : opnd env x = some (.int kd a)) (hy : opnd env y = some (.int kd b)) (hr : kd.wrap (a - b) = r) : Yld P n env ops S ⟨some d, .binOp .sub t x y t', ty, ps, af, g⟩ (.int kd r) :=
  Yld.val hg fun c W he _ => by subst hr; simp [execOp, eval_opnd he hx, eval_opnd he hy, run_eqGuard_int, binOp, Op.intArith]
theorem Yld.add (hg : want env ops g = some true) (hx : opnd env x = some (.int kd a)) (hy : opnd env y = some (.int kd b)) (hr : kd.wrap (a + b) = r) : Yld P n env ops S ⟨some d, .binOp .add t x y t', ty, ps, af, g⟩ (.int kd r) :=
  Yld.val hg fun c W he _ => by subst hr; simp [execOp, eval_opnd he hx, eval_opnd he hy, run_eqGuard_int, binOp, Op.intArith]
theorem Yld.leqS (hg : want env ops g = some true) (hx : opnd env x = some (str s)) (hy : opnd env y = some (str u)) : Yld P n env ops S ⟨some d, .binOp .leq t x y t', ty, ps, af, g⟩ (.bool (Op.bytesLess s u || s == u)) :=
  Yld.val hg fun c W he _ => by simp [execOp, eval_opnd he hx, eval_opnd he hy, str, run_eqGuard_string, binOp, Op.stringOp, str_toList]
theorem Yld.lenS {ts : TypeId} (T : Tab P) (hg : want env ops g = some true) (hu : T.und ts = some .string) (hx : opnd env x = some (str s)) : Yld P n env ops S ⟨some d, .call ⟨.builtin .len, #[x], #[ts]⟩, ty, ps, af, g⟩ (.int .i64 s.length) :=
  Yld.val hg fun c W he _ => by simp [execOp, resolve, invoke, builtin, Builtin.len_, eval_opnd he hx, T.undOk hu, str, goInt, str_size]
theorem Eff.buildSlice {t e : TypeId} {len size : Nat} {xs : List (Nat × Operand)} {vs : List (Nat × Value)} {z : Value} {cs : List Value} {K : Value → Own → Imm → Prop}
    (hu : ∀ w, (underlying t).run P w = .ok (.slice e) w) (hz : ∀ w, (zeroValue e).run P w = .ok z w) (hs : ∀ w, (sizeOf e).run P w = .ok size w)
    (hlen : len * size ≤ 16777216) (hx : parts env xs = some vs) (hf : Instr.fill (fun i => some (i * size, size)) ((Array.range (len * size)).map (z.cells[· % z.cells.size]!)) vs = some cs.toArray)
    (next : ∀ b, K (.slice (some ⟨b, 0, none⟩) len len) ((b, blk cs e) :: L) I) : Eff P n C env L I ⟨some d, .buildSlice t len xs.toArray, ty, ps, af, g⟩ K :=
  Eff.valW fun a W he hi => ⟨.slice (some ⟨W.heap.size, 0, none⟩) len len, W.alloc (blk cs e), (W.heap.size, blk cs e) :: L, I,
    .inl (by
      have h1 : ¬ (len * size > 2 ^ 24) := by omega
      have h2 := parts_spec he hx
      have hmap : (List.map (fun (x : Nat × Operand) => match x with | (i, x) => (i, a.eval x)) xs) = vs := h2
      simp only [execOp, Instr.buildSlice, Sem.run_bind, hu, hs, Result.andThen_ok, h1, if_false, List.map_toArray, hmap, pure_bind, Sem.run_pure]
      by_cases h0 : len * size = 0
      · rw [if_pos h0]
        have hf' : Instr.fill (fun i => some (i * size, size)) ((Array.range (len * size)).map ((#[] : Array Value)[· % (#[] : Array Value).size]!)) vs = some cs.toArray := by
          have e : ∀ f : Nat → Value, (Array.range 0).map f = #[] := fun f => by simp
          rw [h0, e] at hf ⊢; exact hf
        simp only [hf']
        rfl
      · rw [if_neg h0]
        simp only [Sem.run_bind, hz, Result.andThen_ok, hf]
        rfl), hi.alloc _, next _⟩
theorem Eff.lit0 {t e : TypeId} {K : Value → Own → Imm → Prop} {z : Value} (T : Tab P) (hu : T.und t = some (.slice e)) {size : Nat} (hs : T.size e = some size) (hz : T.zero e = some z) (next : ∀ b, K (.slice (some ⟨b, 0, none⟩) 0 0) ((b, blk [] e) :: L) I) :
    Eff P n C env L I ⟨some d, .buildSlice t 0 #[], ty, ps, af, g⟩ K :=
  Eff.buildSlice (xs := []) (vs := []) (cs := []) (T.undOk hu) (T.zeroOk hz) (T.sizeOk hs) (by omega) rfl (by simp [Instr.fill]) next
theorem Eff.append {s x : Operand} {ts tx e : TypeId} {size bytes : Nat} {M N : Own} {v xv : Value} {m q : Nat} {xs news : List Value} {K : Value → Own → Imm → Prop} (hE : Elem P ts e size bytes)
    (hs : opnd env s = some v) (hx : opnd env x = some xv) (hL : L.Perm (M ++ N)) (hG : Grows e size v m xs M)
    (hsrc : ∀ W, Inv C.w0 C.I0 C.L0 I L W → Src P size tx xv q news W) (hbytes : (2 * (m + q) + 512) * bytes ≤ 281474976710656) (h63 : m + q ≤ 4611686018427387904)
    (next : ∀ v' M', Grows e size v' (m + q) (xs ++ news) M' → K v' (M' ++ N) I) :
    Eff P n C env L I ⟨some d, .call ⟨.builtin .append, #[s, x], #[ts, tx]⟩, ty, ps, af, g⟩ K :=
  Eff.valW fun a W he hi => by
    obtain ⟨v', W', M', hr, hG', hi'⟩ := run_append_grows (P := P) (ty := ty) hE (hi.perm hL) hG (hsrc W hi) hbytes h63
    refine ⟨v', W', M' ++ N, I, .inl ?_, hi', next v' M' hG'⟩
    simp [execOp, resolve, invoke, builtin, eval_opnd he hs, eval_opnd he hx, hr]
theorem Eff.appSl {α : Type} {t : Ty α} {s x : Operand} {ts e : TypeId} {bytes : Nat} {M N : Own} {v w : Value} {xs ys : List α} {K : Value → Own → Imm → Prop} (hE : Elem P ts e t.size bytes) (hG : Gr t I e v xs M) (hS : Sl t I w ys) (hone : ∀ cs, Cells t I cs ys → one cs = true)
    (hs : opnd env s = some v) (hx : opnd env x = some w) (hL : L.Perm (M ++ N)) (hbytes : (2 * (xs.length + ys.length) + 512) * bytes ≤ 281474976710656) (h63 : xs.length + ys.length ≤ 4611686018427387904)
    (next : ∀ v' M', Gr t I e v' (xs ++ ys) M' → K v' (M' ++ N) I) :
    Eff P n C env L I ⟨some d, .call ⟨.builtin .append, #[s, x], #[ts, ts]⟩, ty, ps, af, g⟩ K := by
  obtain ⟨cs, hG1, hC1⟩ := hG
  obtain ⟨A, c, rfl, hc, hrow⟩ := hS
  have key : ∃ news, Cells t I news ys ∧ (∀ W, Inv C.w0 C.I0 C.L0 I L W → Src P t.size ts (.slice A ys.length c) ys.length news W) := by
    rcases hrow with rfl | ⟨b, off, rfl, hrow⟩
    · refine ⟨[], Cells.nil t I, fun W hi => ?_⟩
      cases A with
      | none => exact Src.ofNil W hE.under c
      | some a => exact Src.ofSlice W hE.under a 0 c [] (by simp) (fun j u hu => by simp at hu) (fun u hu => by cases hu)
    · obtain ⟨news, hC, hA⟩ := hrow.cells
      refine ⟨news, hC, fun W hi => ?_⟩
      rcases hA with rfl | hA
      · have h0 : news = [] := List.eq_nil_of_length_eq_zero (by rw [hC.flat_len]; simp)
        subst h0
        exact Src.ofSlice W hE.under ⟨b, off, none⟩ 0 c [] (by simp) (fun j u hu => by simp at hu) (fun u hu => by cases hu)
      · exact Src.ofSlice W hE.under ⟨b, off, none⟩ ys.length c news hC.flat_len (fun j u hu => by rw [add_off]; exact hA.cell hi j u hu) (one_spec (hone _ hC))
  obtain ⟨news, hC, hsrc⟩ := key
  exact Eff.append hE hs hx hL hG1 hsrc hbytes h63 fun v' M' h => next v' M' ⟨cs ++ news, by rw [List.length_append]; exact h, hC1.append hC⟩
end
theorem Yld.as {P : Program} {n : Nat} {env : Env} {ops : Array Oper} {S : World → Prop} {o : Oper} {v v' : Value} (h : Yld P n env ops S o v) (e : v = v') : Yld P n env ops S o v' := e ▸ h
theorem bless_eq : ∀ (x y : List UInt8), Op.bytesLess x y = decide (x < y)
  | [], [] => by simp [Op.bytesLess]
  | _ :: _, [] => by simp [Op.bytesLess]
  | [], _ :: _ => by simp [Op.bytesLess]
  | a :: x, b :: y => by
    rw [Op.bytesLess, bless_eq x y]
    simp only [List.cons_lt_cons_iff]
    by_cases h1 : a < b <;> by_cases h2 : a = b <;> by_cases h3 : x < y <;> simp [h1, h2, h3]
end Go.V
