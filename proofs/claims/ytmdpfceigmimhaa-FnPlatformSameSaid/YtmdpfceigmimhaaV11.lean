/-
  Bytes that grow; what is appended whole; pointers turned about; bytes read as a text.
-/
import Derived.Test.YtmdpfceigmimhaaV10
import Derived.Lib.Builder
import Derived.Lib.UnsafeStr
namespace Go.V
open Go.RowKit
set_option linter.unusedVariables false
set_option linter.unusedSimpArgs false

def tU8 : Ty UInt8 := ⟨1, fun _ cs x => cs = [.int .u8 (x.toNat : Int)], fun h => by subst h; rfl, fun h _ => h⟩

section
variable {P : Program} {n : Nat} {C : Cx} {k : List Item} {env : Env} {L : Own} {I : Imm} {ops : Array Oper} {i : Nat} {l : List Oper}
variable {ty : TypeId} {ps : String} {af : Array Edge} {g : Option (Nat × Bool)} {d : Nat}

theorem Cells.bytes (xs : List UInt8) : Cells tU8 I (xs.map fun b => Value.int .u8 (b.toNat : Int)) xs := Cells.one1 (fun b : UInt8 => Value.int .u8 (b.toNat : Int)) (fun _ => rfl) xs
theorem Cells.bytes_eq {cs : List Value} {xs : List UInt8} (h : Cells tU8 I cs xs) : cs = xs.map fun b => Value.int .u8 (b.toNat : Int) := by
  obtain ⟨css, rfl, h2, h3⟩ := h
  induction css generalizing xs with
  | nil => cases xs with
    | nil => rfl
    | cons x r => simp at h2
  | cons c css ih => cases xs with
    | nil => simp at h2
    | cons x r =>
      have h0 : c = [Value.int .u8 (x.toNat : Int)] := h3 0 x c rfl rfl
      subst h0
      have := ih (xs := r) (by simpa using h2) (fun i y d hy hd => h3 (i + 1) y d (by simpa using hy) (by simpa using hd))
      simp [this]

theorem Cells.flat_len {α : Type} {t : Ty α} {cs : List Value} {xs : List α} (h : Cells t I cs xs) : cs.length = xs.length * t.size := by
  obtain ⟨css, rfl, h2, h3⟩ := h
  have hs := Cells.sizes h2 h3
  rw [← h2]
  clear h2 h3
  induction css with
  | nil => simp
  | cons c r ih => simp only [List.flatten_cons, List.length_append, List.length_cons, Nat.add_mul, Nat.one_mul]; rw [ih (fun c hc => hs c (List.mem_cons_of_mem _ hc)), hs c List.mem_cons_self]; omega

/-- the cells behind a slice's elements -/
theorem RowAt.cells {α : Type} {t : Ty α} {b : Nat} : ∀ {ys : List α} {off : Nat}, RowAt t I b off ys → ∃ cs, Cells t I cs ys ∧ (ys = [] ∨ At I b off cs)
  | [], off, _ => ⟨[], Cells.nil t I, .inl rfl⟩
  | y :: r, off, h => by
    obtain ⟨c0, hr0, hA0⟩ := h 0 y rfl
    have hrest : RowAt t I b (off + t.size) r := by
      intro i x hx
      obtain ⟨cs, h1, h2⟩ := h (i + 1) x (by simpa using hx)
      exact ⟨cs, h1, by rw [Nat.add_mul, Nat.one_mul] at h2; rw [Nat.add_assoc, Nat.add_comm t.size]; exact h2⟩
    obtain ⟨cs, hC, hA⟩ := RowAt.cells hrest
    refine ⟨c0 ++ cs, Cells.cons hr0 hC, .inr ?_⟩
    have hl0 := t.len hr0
    obtain ⟨cc, tt, fr, hb, hv⟩ := hA0
    refine ⟨cc, tt, fr, hb, fun j v hj => ?_⟩
    by_cases hlt : j < c0.length
    · rw [List.getElem?_append_left hlt] at hj
      simpa using hv j v hj
    · rw [List.getElem?_append_right (by omega)] at hj
      rcases hA with rfl | ⟨cc', tt', fr', hb', hv'⟩
      · obtain ⟨css, rfl, h2, _⟩ := hC
        have : css = [] := List.eq_nil_of_length_eq_zero (by simpa using h2)
        subst this
        simp at hj
      · rw [hb] at hb'; cases hb'
        have := hv' _ v hj
        rw [show off + t.size + (j - c0.length) = off + j by omega] at this
        exact this

/-- a slice that is read, appended whole -/
theorem Ops.appSl {α : Type} {t : Ty α} {s x : Operand} {ts e : TypeId} {bytes : Nat} {M N : Own} {v w : Value} {xs ys : List α} (hE : Elem P ts e t.size bytes) (hG : Gr t I e v xs M) (hS : Sl t I w ys) (hone : ∀ cs, Cells t I cs ys → one cs = true) (hg : want env ops g = some true) (hd : d < n)
    (hs : opnd env s = some v) (hx : opnd env x = some w) (hL : L = N ++ M) (hbytes : (2 * (xs.length + ys.length) + 512) * bytes ≤ 281474976710656) (h63 : xs.length + ys.length ≤ 4611686018427387904)
    (next : ∀ v' M', Gr t I e v' (xs ++ ys) M' → Ops P n C ops (i + 1) l k ((d, v') :: env) (N ++ M') I) :
    Ops P n C ops i (⟨some d, .call ⟨.builtin .append, #[s, x], #[ts, ts]⟩, ty, ps, af, g⟩ :: l) k env L I := by
  subst hL
  obtain ⟨cs, hG1, hC1⟩ := hG
  obtain ⟨A, c, rfl, hc, hrow⟩ := hS
  have key : ∃ news, Cells t I news ys ∧ (∀ W, Inv C.w0 C.I0 C.L0 I (M ++ N) W → Src P t.size ts (.slice A ys.length c) ys.length news W) := by
    rcases hrow with rfl | ⟨b, off, rfl, hrow⟩
    · refine ⟨[], Cells.nil t I, fun W hi => ?_⟩
      cases A with
      | none => exact Src.ofNil W hE.under c
      | some a => exact Src.ofSlice W hE.under a 0 c [] (by simp) (fun j u hu => by simp at hu) (fun u hu => by cases hu)
    · obtain ⟨news, hC, hA⟩ := hrow.cells
      refine ⟨news, hC, fun W hi => ?_⟩
      rcases hA with rfl | hA
      · have h0 : news = [] := List.eq_nil_of_length_eq_zero (by rw [hC.flat_len]; simp)
        subst h0
        exact Src.ofSlice W hE.under ⟨b, off, none⟩ 0 c [] (by simp) (fun j u hu => by simp at hu) (fun u hu => by cases hu)
      · exact Src.ofSlice W hE.under ⟨b, off, none⟩ ys.length c news hC.flat_len (fun j u hu => by rw [add_off]; exact hA.cell hi j u hu) (one_spec (hone _ hC))
  obtain ⟨news, hC, hsrc⟩ := key
  refine Ops.perm List.perm_append_comm ?_
  exact Ops.append hE hg hd hs hx (.refl _) hG1 hsrc hbytes h63 fun v' M' h => Ops.perm List.perm_append_comm (next v' M' ⟨cs ++ news, by rw [List.length_append]; exact h, hC1.append hC⟩)
/-- a text's bytes appended -/
theorem Ops.appStr {s x : Operand} {ts tx e : TypeId} {M N : Own} {v : Value} {xs z : List UInt8} (hE : Elem P ts e 1 1) (hG : Gr tU8 I e v xs M) (hu : P.underlying tx = some .string) (hg : want env ops g = some true) (hd : d < n)
    (hs : opnd env s = some v) (hx : opnd env x = some (str z)) (hL : L = N ++ M) (hbytes : 2 * (xs.length + z.length) + 512 ≤ 281474976710656) (h63 : xs.length + z.length ≤ 4611686018427387904)
    (next : ∀ v' M', Gr tU8 I e v' (xs ++ z) M' → Ops P n C ops (i + 1) l k ((d, v') :: env) (N ++ M') I) :
    Ops P n C ops i (⟨some d, .call ⟨.builtin .append, #[s, x], #[ts, tx]⟩, ty, ps, af, g⟩ :: l) k env L I := by
  subst hL
  obtain ⟨cs, hG1, hC1⟩ := hG
  have hsrc : ∀ W, Inv C.w0 C.I0 C.L0 I (M ++ N) W → Src P 1 tx (str z) z.length (z.map fun b => Value.int .u8 (b.toNat : Int)) W := fun W hi => by
    have := Src.ofString (P := P) W hu ⟨z.toArray⟩
    rw [str_size] at this
    have e : Go.byteCells ⟨z.toArray⟩ = z.map fun b => Value.int .u8 (b.toNat : Int) := by simp [Go.byteCells]
    rw [e] at this; exact this
  refine Ops.perm List.perm_append_comm ?_
  exact Ops.append hE hg hd hs hx (.refl _) hG1 hsrc (by rw [Nat.mul_one]; exact hbytes) h63 fun v' M' h => Ops.perm List.perm_append_comm (next v' M' ⟨cs ++ z.map _, by rw [List.length_append]; exact h, hC1.append (Cells.bytes z)⟩)

/-! pointers turned about -/
theorem Ops.toUnsafe {src dst t e : TypeId} {x : Operand} {b : Nat} {cs : List Value} {tj : TypeInfo} (j : Nat) (hg : want env ops g = some true) (hd : d < n) (hx : opnd env x = some (.pointer (some ⟨b, 0, none⟩))) (hL : L[j]? = some (b, blk cs e)) (hpos : 0 < cs.length)
    (hs : P.underlying src = some (.pointer t)) (hdt : P.underlying dst = some .unsafePointer) (ht : P.info? t = some tj) (htj : tj.size ≠ 0)
    (next : Ops P n C ops (i + 1) l k ((d, .pointer (some ⟨b, 0, none⟩)) :: env) L I) : Ops P n C ops i (⟨some d, .convert src dst x, ty, ps, af, g⟩ :: l) k env L I :=
  Ops.val hg (dOk hd) (fun a W he hi => by
    have hW := hi.fits.own b _ (List.mem_of_getElem? hL)
    have hsh : W.shape? (⟨b, 0, none⟩ : Addr).block = some (e, cs.length) := by simp [World.shape?, hW, blk]
    have := Lib.run_to_unsafe (P := P) W ⟨b, 0, none⟩ hs hdt ht htj hsh hpos
    simp only [execOp, eval_opnd he hx, Sem.run_bind, this, Result.andThen_ok]; rfl) next
theorem Ops.fromUnsafe {src dst u e : TypeId} {x : Operand} {b : Nat} {cs : List Value} {tj : TypeInfo} (j : Nat) (hg : want env ops g = some true) (hd : d < n) (hx : opnd env x = some (.pointer (some ⟨b, 0, none⟩))) (hL : L[j]? = some (b, blk cs e))
    (hs : P.underlying src = some .unsafePointer) (hdt : P.underlying dst = some (.pointer u)) (hu : P.info? u = some tj) (hlies : liesAt P P.depth e (cs.length / P.cellsOf e) 0 u 1 = true)
    (next : Ops P n C ops (i + 1) l k ((d, .pointer (some ⟨b, 0, none⟩)) :: env) L I) : Ops P n C ops i (⟨some d, .convert src dst x, ty, ps, af, g⟩ :: l) k env L I :=
  Ops.val hg (dOk hd) (fun a W he hi => by
    have hW := hi.fits.own b _ (List.mem_of_getElem? hL)
    have hsh : W.shape? (⟨b, 0, none⟩ : Addr).block = some (e, cs.length) := by simp [World.shape?, hW, blk]
    have := Lib.run_from_unsafe (P := P) W ⟨b, 0, none⟩ hs hdt hu hsh hlies
    simp only [execOp, eval_opnd he hx, Sem.run_bind, this, Result.andThen_ok]; rfl) next
/-- a function of the machine's own, that yields a value -/
theorem Ops.extern {f : FuncId} {xs : List Operand} {ats : Array TypeId} {vs : List Value} {v : Value} (hg : want env ops g = some true) (hd : d < n) (hc : ∀ w, (callFunc f vs.toArray).run P w = .ok (.value v) w) (hx : opnds env xs = some vs)
    (next : Ops P n C ops (i + 1) l k ((d, v) :: env) L I) : Ops P n C ops i (⟨some d, .call ⟨.value (.func f), xs.toArray, ats⟩, ty, ps, af, g⟩ :: l) k env L I :=
  Ops.val hg (dOk hd) (fun a W he _ => by
    have h := eval_opnds he hx
    simp [execOp, resolve, Act.eval, Deferred.ofValue, Go.invoke, h, hc]) next
theorem Ops.neqPtr {t t' te : TypeId} {tj : TypeInfo} {x y : Operand} {a0 : Addr} (hg : want env ops g = some true) (hd : d < n) (hp : P.underlying t = some (.pointer te)) (hte : P.info? te = some tj) (hx : opnd env x = some (.pointer (some a0))) (hy : opnd env y = some (.pointer (some a0)))
    (next : Ops P n C ops (i + 1) l k ((d, .bool false) :: env) L I) : Ops P n C ops i (⟨some d, .binOp .neq t x y t', ty, ps, af, g⟩ :: l) k env L I :=
  Ops.val hg (dOk hd) (fun a W he hi => by
    have h1 := Lib.run_neq_ptr_same (P := P) W a0 hp hte
    have h2 : (eqGuard .neq t x y (.pointer (some a0)) (.pointer (some a0))).run P W = .ok () W := rfl
    simp only [execOp, eval_opnd he hx, eval_opnd he hy, Sem.run_bind, h2, h1, Result.andThen_ok]; rfl) next

/-! bytes as a text -/
theorem Yld.sliceData {S : World → Prop} {x : Operand} {a0 : Addr} {len c : Nat} {ats : Array TypeId} (hg : want env ops g = some true) (hx : opnd env x = some (.slice (some a0) len c)) (hc : c ≠ 0) : Yld P n env ops S ⟨some d, .call ⟨.builtin .unsafeSliceData, #[x], ats⟩, ty, ps, af, g⟩ (.pointer (some a0)) :=
  Yld.val hg (fun a W he _ => by
    have := Lib.run_unsafeSliceData_row (P := P) W ats ty a0 len c hc
    simp [execOp, resolve, Go.invoke, builtin, eval_opnd he hx, this])
theorem Yld.lenV {S : World → Prop} {x : Operand} {A : Option Addr} {m c : Nat} {ts e : TypeId} (T : Tab P) (hg : want env ops g = some true) (hx : opnd env x = some (.slice A m c)) (hu : T.und ts = some (.slice e)) : Yld P n env ops S ⟨some d, .call ⟨.builtin .len, #[x], #[ts]⟩, ty, ps, af, g⟩ (.int .i64 m) :=
  Yld.val hg (fun a W he _ => by simp [execOp, resolve, Go.invoke, builtin, Builtin.len_, eval_opnd he hx, T.undOk hu, goInt])
variable {K : Value → Own → Imm → Prop}
theorem Eff.unsafeStr {x y : Operand} {pt it e : TypeId} {b : Nat} {cs : Array Value} {xs : List UInt8} (j : Nat) (hx : opnd env x = some (.pointer (some ⟨b, 0, none⟩))) (hy : opnd env y = some (.int .i64 xs.length)) (hL : L[j]? = some (b, .cells cs e (0, 0)))
    (hp : P.underlying pt = some (.pointer e)) (hc : P.cellsOf e = 1) (h0 : xs ≠ []) (hlen : xs.length ≤ cs.size) (h63 : xs.length ≤ 9223372036854775807) (hcs : cs.toList.take xs.length = xs.map fun b => Value.int .u8 (b.toNat : Int))
    (next : K (str xs) (L.eraseIdx j) I) : Eff P n C env L I ⟨some d, .call ⟨.builtin .unsafeString, #[x, y], #[pt, it]⟩, ty, ps, af, g⟩ K :=
  Eff.valW fun a W he hi => by
    have hi' := hi.perm (perm_get L j _ hL)
    have hW := hi'.fits.own b _ List.mem_cons_self
    have hsh : W.shape? b = some (e, cs.size) := by simp [World.shape?, hW]
    have hcell : ∀ j x, xs[j]? = some x → W.cell? ((⟨b, 0, none⟩ : Addr).add j) = some (.int .u8 x.toNat) := fun q u hu => by
      rw [add_off, cell_blk hW, Nat.zero_add]
      have h1 : (cs.toList.take xs.length)[q]? = some (.int .u8 (u.toNat : Int)) := by rw [hcs]; simp [hu]
      have hq : q < xs.length := (List.getElem?_eq_some_iff.1 hu).1
      rw [List.getElem?_take_of_lt hq] at h1
      simpa using h1
    have hr := Lib.run_unsafeString_row (P := P) W pt it ty e hp hc b cs.size hsh xs h0 hlen h63 hcell
    refine ⟨str xs, W.freeze ⟨b, 0, none⟩ xs.length, L.eraseIdx j, I, .inl ?_, ?_, next⟩
    · simp [execOp, resolve, Go.invoke, builtin, eval_opnd he hx, eval_opnd he hy, hr]; rfl
    · have hn0 : xs.length ≠ 0 := by simpa using h0
      have hheap : (W.freeze ⟨b, 0, none⟩ xs.length).heap[b]? = some (.cells cs e (0, 0 + xs.length)) := by
        simp [World.freeze, hn0, Array.getElem?_modify, hW]
      refine ((hi'.upd (W' := W.freeze ⟨b, 0, none⟩ xs.length) (o' := .cells cs e (0, 0 + xs.length)) ?_ ?_ ?_ ?_ ?_ hheap).weakenL (List.sublist_cons_self _ _))
      · simp [World.freeze, hn0]
      · simp [World.freeze, hn0]
      · simp [World.freeze, hn0]
      · simp [World.freeze, hn0]
      · intro c _ hcb
        simp [World.freeze, hn0, Array.getElem?_modify, Ne.symm hcb]

end
end Go.V
