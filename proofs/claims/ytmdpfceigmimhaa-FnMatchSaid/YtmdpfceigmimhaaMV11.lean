/-
  Bytes that grow; what is appended whole; pointers turned about; bytes read as a text.
-/
import Derived.Test.YtmdpfceigmimhaaMV10
import Derived.Lib.Builder
import Derived.Lib.UnsafeStr
namespace Go.V
open Go.RowKit
set_option linter.unusedVariables false
set_option linter.unusedSimpArgs false
def tU8 : Ty UInt8 := ⟨1, fun _ cs x => cs = [.int .u8 (x.toNat : Int)], fun h => by subst h; rfl, fun h _ => h⟩
section
variable {P : Program} {n : Nat} {C : Cx} {k : List Item} {env : Env} {L : Own} {I : Imm} {ops : Array Oper} {i : Nat} {l : List Oper}
variable {ty : TypeId} {ps : String} {af : Array Edge} {g : Option (Nat × Bool)} {d : Nat}
theorem Cells.bytes (xs : List UInt8) : Cells tU8 I (xs.map fun b => Value.int .u8 (b.toNat : Int)) xs := Cells.one1 (fun b : UInt8 => Value.int .u8 (b.toNat : Int)) (fun _ => rfl) xs
theorem Cells.flat_len {α : Type} {t : Ty α} {cs : List Value} {xs : List α} (h : Cells t I cs xs) : cs.length = xs.length * t.size := by
  obtain ⟨css, rfl, h2, h3⟩ := h
  have hs := Cells.sizes h2 h3
  rw [← h2]
  clear h2 h3
  induction css with
  | nil => simp
  | cons c r ih => simp only [List.flatten_cons, List.length_append, List.length_cons, Nat.add_mul, Nat.one_mul]; rw [ih (fun c hc => hs c (List.mem_cons_of_mem _ hc)), hs c List.mem_cons_self]; omega
/-- the cells behind a slice's elements -/
theorem RowAt.cells {α : Type} {t : Ty α} {b : Nat} : ∀ {ys : List α} {off : Nat}, RowAt t I b off ys → ∃ cs, Cells t I cs ys ∧ (ys = [] ∨ At I b off cs)
  | [], off, _ => ⟨[], Cells.nil t I, .inl rfl⟩
  | y :: r, off, h => by
    obtain ⟨c0, hr0, hA0⟩ := h 0 y rfl
    have hrest : RowAt t I b (off + t.size) r := by
      intro i x hx
      obtain ⟨cs, h1, h2⟩ := h (i + 1) x (by simpa using hx)
      exact ⟨cs, h1, by rw [Nat.add_mul, Nat.one_mul] at h2; rw [Nat.add_assoc, Nat.add_comm t.size]; exact h2⟩
    obtain ⟨cs, hC, hA⟩ := RowAt.cells hrest
    refine ⟨c0 ++ cs, Cells.cons hr0 hC, .inr ?_⟩
    have hl0 := t.len hr0
    obtain ⟨cc, tt, fr, hb, hv⟩ := hA0
    refine ⟨cc, tt, fr, hb, fun j v hj => ?_⟩
    by_cases hlt : j < c0.length
    · rw [List.getElem?_append_left hlt] at hj
      simpa using hv j v hj
    · rw [List.getElem?_append_right (by omega)] at hj
      rcases hA with rfl | ⟨cc', tt', fr', hb', hv'⟩
      · obtain ⟨css, rfl, h2, _⟩ := hC
        have : css = [] := List.eq_nil_of_length_eq_zero (by simpa using h2)
        subst this
        simp at hj
      · rw [hb] at hb'; cases hb'
        have := hv' _ v hj
        rw [show off + t.size + (j - c0.length) = off + j by omega] at this
        exact this
/-- a slice that is read, appended whole -/
theorem Ops.appSl {α : Type} {t : Ty α} {s x : Operand} {ts e : TypeId} {bytes : Nat} {M N : Own} {v w : Value} {xs ys : List α} (hE : Elem P ts e t.size bytes) (hG : Gr t I e v xs M) (hS : Sl t I w ys) (hone : ∀ cs, Cells t I cs ys → one cs = true) (hg : want env ops g = some true) (hd : d < n)
    (hs : opnd env s = some v) (hx : opnd env x = some w) (hL : L = N ++ M) (hbytes : (2 * (xs.length + ys.length) + 512) * bytes ≤ 281474976710656) (h63 : xs.length + ys.length ≤ 4611686018427387904)
    (next : ∀ v' M', Gr t I e v' (xs ++ ys) M' → Ops P n C ops (i + 1) l k ((d, v') :: env) (N ++ M') I) :
    Ops P n C ops i (⟨some d, .call ⟨.builtin .append, #[s, x], #[ts, ts]⟩, ty, ps, af, g⟩ :: l) k env L I := by
  subst hL
  obtain ⟨cs, hG1, hC1⟩ := hG
  obtain ⟨A, c, rfl, hc, hrow⟩ := hS
  have key : ∃ news, Cells t I news ys ∧ (∀ W, Inv C.w0 C.I0 C.L0 I (M ++ N) W → Src P t.size ts (.slice A ys.length c) ys.length news W) := by
    rcases hrow with rfl | ⟨b, off, rfl, hrow⟩
    · refine ⟨[], Cells.nil t I, fun W hi => ?_⟩
      cases A with
      | none => exact Src.ofNil W hE.under c
      | some a => exact Src.ofSlice W hE.under a 0 c [] (by simp) (fun j u hu => by simp at hu) (fun u hu => by cases hu)
    · obtain ⟨news, hC, hA⟩ := hrow.cells
      refine ⟨news, hC, fun W hi => ?_⟩
      rcases hA with rfl | hA
      · have h0 : news = [] := List.eq_nil_of_length_eq_zero (by rw [hC.flat_len]; simp)
        subst h0
        exact Src.ofSlice W hE.under ⟨b, off, none⟩ 0 c [] (by simp) (fun j u hu => by simp at hu) (fun u hu => by cases hu)
      · exact Src.ofSlice W hE.under ⟨b, off, none⟩ ys.length c news hC.flat_len (fun j u hu => by rw [add_off]; exact hA.cell hi j u hu) (one_spec (hone _ hC))
  obtain ⟨news, hC, hsrc⟩ := key
  refine Ops.perm List.perm_append_comm ?_
  exact Ops.append hE hg hd hs hx (.refl _) hG1 hsrc hbytes h63 fun v' M' h => Ops.perm List.perm_append_comm (next v' M' ⟨cs ++ news, by rw [List.length_append]; exact h, hC1.append hC⟩)
theorem Yld.lenV {S : World → Prop} {x : Operand} {A : Option Addr} {m c : Nat} {ts e : TypeId} (T : Tab P) (hg : want env ops g = some true) (hx : opnd env x = some (.slice A m c)) (hu : T.und ts = some (.slice e)) : Yld P n env ops S ⟨some d, .call ⟨.builtin .len, #[x], #[ts]⟩, ty, ps, af, g⟩ (.int .i64 m) :=
  Yld.val hg (fun a W he _ => by simp [execOp, resolve, Go.invoke, builtin, Builtin.len_, eval_opnd he hx, T.undOk hu, goInt])
variable {K : Value → Own → Imm → Prop}
end
end Go.V
