/-
  Branches that meet again; calls that are handed blocks, which stand last.
-/
import Derived.Test.YtmdpfceigmimhaaMV11
namespace Go.V
open Go.RowKit
set_option linter.unusedVariables false
set_option linter.unusedSimpArgs false
section
variable {P : Program} {n : Nat} {C : Cx} {k : List Item} {env : Env} {L : Own} {I : Imm} {ops : Array Oper} {i : Nat} {l : List Oper}
variable {ty : TypeId} {ps : String} {af : Array Edge} {g : Option (Nat × Bool)} {d : Nat}
/-- two branches that meet again -/
theorem Run.merge {s : Nat} {x y : Code} {b : Bool} (Φ : Env → Own → Imm → Prop) (hl : look env s = some (.bool b))
    (ht : b = true → ∀ k', (∀ env' L' I', Φ env' L' I' → Run P n C k' env' L' I') → Run P n C (.code x :: k') env L I)
    (hf : b = false → ∀ k', (∀ env' L' I', Φ env' L' I' → Run P n C k' env' L' I') → Run P n C (.code y :: k') env L I)
    (next : ∀ env' L' I', Φ env' L' I' → Run P n C k env' L' I') : Run P n C (.code (.cond (.tmp s) x y) :: k) env L I :=
  Run.cond rfl hl (fun h => ht h k next) (fun h => hf h k next)
/-- the same of any piece of code -/
theorem Run.piece {x : Code} (Φ : Env → Own → Imm → Prop) (h : ∀ k', (∀ env' L' I', Φ env' L' I' → Run P n C k' env' L' I') → Run P n C (.code x :: k') env L I)
    (next : ∀ env' L' I', Φ env' L' I' → Run P n C k env' L' I') : Run P n C (.code x :: k) env L I := h k next
theorem Ops.callP {f : FuncId} {xs : List Operand} {ats : Array TypeId} {vs : List Value} {M N : Own} {R : Value → Imm → Own → Prop} (hs : Spec P f vs I M R) (hL : L.Perm (N ++ M)) (hg : want env ops g = some true) (hd : d < n) (hc : ∀ args w, (callFunc f args).run P w = .ok (.enter f args) w)
    (hx : opnds env xs = some vs) (next : ∀ v J M', Le I J → R v J M' → Ops P n C ops (i + 1) l k ((d, v) :: env) (N ++ M') J) :
    Ops P n C ops i (⟨some d, .call ⟨.value (.func f), xs.toArray, ats⟩, ty, ps, af, g⟩ :: l) k env L I :=
  Ops.callM (N := N) hs (hL.trans List.perm_append_comm) hg hd hc hx fun v J M hle hR => Ops.perm List.perm_append_comm (next v J M hle hR)
/-- a guard that speaks of an operation which was itself left out -/
def wantU (env : Env) (ops : Array Oper) : Option (Nat × Bool) → Bool
  | some (j, _) => match (ops[j]?).bind (·.dst) with
    | some d => match look env d with
      | some (.tuple vs) => vs.toList.isEmpty
      | _ => false
    | none => false
  | none => false
theorem Ops.offW {o : Oper} (hw : ∀ a, EnvOk n env a → Region.wanted o (yielded ops a.tmps) = false) (hd : ∀ t, o.dst = some t → t < n)
    (next : Ops P n C ops (i + 1) l k (V.put env o.dst undef) L I) : Ops P n C ops i (o :: l) k env L I := by
  intro hl
  obtain ⟨ho, hl'⟩ := Ops.head hl
  intro b a cs W hb hk he hi
  have hw' := hw a he
  have hs := step_op_skip (P := P) (b := b) (a := a) (k := k) (cs := cs) (w := W) (ops := ops) (i := i) (rest := List.range' (i + 1) l.length) (by simp [ho, hw'])
  simp only [ho, Option.bind_some] at hs
  obtain ⟨e, W', fr, h1, h2, h3⟩ := next hl' b _ cs W hb hk (he.put hd) hi
  refine ⟨e, W', fr, h1, Comes.of_steps (.one ?_) h2, h3⟩
  simpa [List.range'_succ] using hs
theorem wantU_spec {o : Oper} {a : Act} (he : EnvOk n env a) (h : wantU env ops o.guard = true) : Region.wanted o (yielded ops a.tmps) = false := by
  unfold wantU at h
  split at h
  · rename_i j b hg
    split at h
    · rename_i d hd
      split at h
      · rename_i vs hv
        simp only [Region.wanted, hg, yielded, hd, Option.bind_some, he.at_ _ _ hv]
        rfl
      · cases h
    · cases h
  · cases h
theorem Ops.notU {op : Op} (hg : wantU env ops g = true) (hd : d < n) (next : Ops P n C ops (i + 1) l k ((d, undef) :: env) L I) : Ops P n C ops i (⟨some d, op, ty, ps, af, g⟩ :: l) k env L I :=
  Ops.offW (fun a he => wantU_spec he hg) (dOk hd) next
theorem Ops.notUS {op : Op} (hg : wantU env ops g = true) (next : Ops P n C ops (i + 1) l k env L I) : Ops P n C ops i (⟨none, op, ty, ps, af, g⟩ :: l) k env L I :=
  Ops.offW (fun a he => wantU_spec he hg) dNo next
theorem Run.le (h : ∀ J, Le I J → J = I → Run P n C k env L J) : Run P n C k env L I := h I (Le.refl I) rfl
theorem Sl.isSl {α : Type} {t : Ty α} {v : Value} {xs : List α} (h : Sl t I v xs) : ∃ A c, v = .slice A xs.length c := let ⟨A, c, h, _⟩ := h; ⟨A, c, h⟩
theorem Gr.isSl {α : Type} {t : Ty α} {e : TypeId} {v : Value} {xs : List α} {M : Own} (h : Gr t I e v xs M) : ∃ A c, v = .slice A xs.length c := by
  rcases h.sl with ⟨h1, h2⟩ | ⟨b, c, h⟩
  · exact ⟨none, 0, by rw [h1, h2]; rfl⟩
  · exact ⟨_, _, h⟩
theorem Cells.one_of {α : Type} {t : Ty α} (h : ∀ cs x, t.rel I cs x → V.one cs = true) {cs : List Value} {xs : List α} (hC : Cells t I cs xs) : V.one cs = true := by
  obtain ⟨css, rfl, h2, h3⟩ := hC
  have hall : ∀ c ∈ css, V.one c = true := by
    intro c hc
    obtain ⟨i, hi⟩ := List.getElem?_of_mem hc
    have hlt : i < xs.length := by rw [← h2]; exact (List.getElem?_eq_some_iff.1 hi).1
    exact h c _ (h3 i _ c (List.getElem?_eq_getElem hlt) hi)
  clear h2 h3
  induction css with
  | nil => rfl
  | cons c r ih =>
    have h1 := hall c List.mem_cons_self
    have h2 := ih (fun d hd => hall d (List.mem_cons_of_mem _ hd))
    unfold V.one at *
    simp only [List.flatten_cons, List.all_append, Bool.and_eq_true]
    exact ⟨h1, h2⟩
theorem Cells.one_str {cs : List Value} {xs : List (List UInt8)} (hC : Cells tStr I cs xs) : V.one cs = true := hC.one_of fun cs x h => by
  obtain rfl : cs = [str x] := h
  rfl
end
end Go.V
