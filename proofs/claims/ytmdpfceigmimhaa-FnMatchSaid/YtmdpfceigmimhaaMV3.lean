/-
  Blocks: made, read, written; slices that a call builds and owns; what immutable blocks hold.
-/
import Derived.Test.YtmdpfceigmimhaaMV2
import Derived.Deep.AppendSrc
namespace Go.V
open Go.RowKit
set_option linter.unusedVariables false
set_option linter.unusedSimpArgs false
section
variable {w0 : World} {I0 : Imm} {L0 : List Nat} {I : Imm} {L : Own} {W W' : World} {b : Nat} {o o' : Obj}
/-- a new block -/
theorem Inv.new (h : Inv w0 I0 L0 I L W) (hos : W'.os = W.os) (ht : W'.tape = W.tape) (hout : W'.output = W.output) (hs : W.heap.size ≤ W'.heap.size)
    (hold : ∀ c, c < W.heap.size → W'.heap[c]? = W.heap[c]?) (hb : W.heap.size ≤ b) (hn : W'.heap[b]? = some o) : Inv w0 I0 L0 I ((b, o) :: L) W' := by
  have hlt : ∀ c p, (c, p) ∈ L → c < W.heap.size := fun c p hm => (Array.getElem?_eq_some_iff.1 (h.fits.own c p hm)).1
  have hlI : ∀ c p, I c = some p → c < W.heap.size := fun c p hm => (Array.getElem?_eq_some_iff.1 (h.fits.imm c p hm)).1
  refine ⟨hos.trans h.os, ht.trans h.tape, hout.trans h.output, Nat.le_trans h.size hs, ?_, ⟨?_, ?_, ?_, ?_⟩, h.ext, h.newI, ?_⟩
  · intro c hc hcL
    rw [hold c (Nat.lt_of_lt_of_le hc h.size)]; exact h.old c hc hcL
  · intro c p hc
    rw [hold c (hlI c p hc)]; exact h.fits.imm c p hc
  · intro c p hm
    rcases List.mem_cons.1 hm with hm | hm
    · cases hm; exact hn
    · rw [hold c (hlt c p hm)]; exact h.fits.own c p hm
  · intro c p hm
    rcases List.mem_cons.1 hm with hm | hm
    · cases hm
      cases hI : I b with
      | none => rfl
      | some q => exact absurd (hlI b q hI) (Nat.not_lt.2 hb)
    · exact h.fits.sep c p hm
  · rw [List.map_cons, List.nodup_cons]
    refine ⟨?_, h.fits.nd⟩
    intro hm
    obtain ⟨⟨c, p⟩, hm, heq⟩ := List.mem_map.1 hm
    have := hlt c p hm
    simp only at heq
    omega
  · intro c p hm
    rcases List.mem_cons.1 hm with hm | hm
    · cases hm; exact .inl (Nat.le_trans h.size hb)
    · exact h.newL c p hm
theorem Inv.alloc (h : Inv w0 I0 L0 I L W) (o : Obj) : Inv w0 I0 L0 I ((W.heap.size, o) :: L) (W.alloc o) :=
  h.new rfl rfl rfl (by simp) (fun c hc => Below.heap_alloc W o c hc) (Nat.le_refl _) (heap_alloc_new W o)
/-- a world that holds the same -/
theorem Inv.same (h : Inv w0 I0 L0 I L W) (hos : W'.os = W.os) (ht : W'.tape = W.tape) (hout : W'.output = W.output) (hh : W'.heap = W.heap) : Inv w0 I0 L0 I L W' :=
  ⟨hos.trans h.os, ht.trans h.tape, hout.trans h.output, by rw [hh]; exact h.size, fun c hc hcL => by rw [hh]; exact h.old c hc hcL,
    ⟨fun c p hc => by rw [hh]; exact h.fits.imm c p hc, fun c p hm => by rw [hh]; exact h.fits.own c p hm, h.fits.sep, h.fits.nd⟩, h.ext, h.newI, h.newL⟩
theorem Inv.drew (h : Inv w0 I0 L0 I L W) : Inv w0 I0 L0 I L W.drew := h.same rfl rfl rfl rfl
/-- an owned block is written -/
theorem Inv.upd (h : Inv w0 I0 L0 I ((b, o) :: L) W) (hos : W'.os = W.os) (ht : W'.tape = W.tape) (hout : W'.output = W.output) (hs : W.heap.size ≤ W'.heap.size)
    (hold : ∀ c, c < W.heap.size → c ≠ b → W'.heap[c]? = W.heap[c]?) (hn : W'.heap[b]? = some o') : Inv w0 I0 L0 I ((b, o') :: L) W' := by
  have hnd : b ∉ L.map Prod.fst ∧ (L.map Prod.fst).Nodup := by simpa using h.fits.nd
  have hlt : ∀ c p, (c, p) ∈ (b, o) :: L → c < W.heap.size := fun c p hm => (Array.getElem?_eq_some_iff.1 (h.fits.own c p hm)).1
  have hlI : ∀ c p, I c = some p → c < W.heap.size := fun c p hm => (Array.getElem?_eq_some_iff.1 (h.fits.imm c p hm)).1
  have hbI := h.fits.sep b o List.mem_cons_self
  refine ⟨hos.trans h.os, ht.trans h.tape, hout.trans h.output, Nat.le_trans h.size hs, ?_, ⟨?_, ?_, ?_, ?_⟩, h.ext, h.newI, ?_⟩
  · intro c hc hcL
    have hne : c ≠ b := fun e => by
      rcases h.newL b o List.mem_cons_self with hh | hh
      · omega
      · exact hcL (e ▸ hh)
    rw [hold c (Nat.lt_of_lt_of_le hc h.size) hne]; exact h.old c hc hcL
  · intro c p hc
    have hne : c ≠ b := fun e => by rw [e, hbI] at hc; cases hc
    rw [hold c (hlI c p hc) hne]; exact h.fits.imm c p hc
  · intro c p hm
    rcases List.mem_cons.1 hm with hm | hm
    · cases hm; exact hn
    · have hne : c ≠ b := fun e => hnd.1 (e ▸ List.mem_map.2 ⟨(c, p), hm, rfl⟩)
      rw [hold c (hlt c p (List.mem_cons_of_mem _ hm)) hne]; exact h.fits.own c p (List.mem_cons_of_mem _ hm)
  · intro c p hm
    rcases List.mem_cons.1 hm with hm | hm
    · cases hm; exact hbI
    · exact h.fits.sep c p (List.mem_cons_of_mem _ hm)
  · simpa using hnd
  · intro c p hm
    rcases List.mem_cons.1 hm with hm | hm
    · cases hm; exact h.newL b o List.mem_cons_self
    · exact h.newL c p (List.mem_cons_of_mem _ hm)
theorem Inv.lt (h : Inv w0 I0 L0 I L W) (hm : (b, o) ∈ L) : b < W.heap.size := (Array.getElem?_eq_some_iff.1 (h.fits.own b o hm)).1
end
def upL (L : Own) (j : Nat) (o : Obj) : Own :=
  match L, j with
  | [], _ => []
  | (b, _) :: r, 0 => (b, o) :: r
  | x :: r, j + 1 => x :: upL r j o
theorem upL_perm : ∀ (L : Own) (j : Nat) (b : Nat) (o o' : Obj), L[j]? = some (b, o) → ∃ R, L.Perm ((b, o) :: R) ∧ (upL L j o').Perm ((b, o') :: R)
  | [], j, b, o, o', h => by simp at h
  | (c, p) :: r, 0, b, o, o', h => by
    simp at h; obtain ⟨rfl, rfl⟩ := h
    exact ⟨r, .refl _, .refl _⟩
  | x :: r, j + 1, b, o, o', h => by
    obtain ⟨R, h1, h2⟩ := upL_perm r j b o o' (by simpa using h)
    exact ⟨x :: R, (h1.cons x).trans (.swap _ _ _), (h2.cons x).trans (.swap _ _ _)⟩
theorem cell_blk {W : World} {b off : Nat} {cs : Array Value} {t : TypeId} {fr : Nat × Nat} (h : W.heap[b]? = some (.cells cs t fr)) : W.cell? ⟨b, off, none⟩ = cs[off]? := cell_of_row W b off cs t fr h
section
variable {P : Program} {n : Nat} {C : Cx} {k : List Item} {env : Env} {L : Own} {I : Imm} {ops : Array Oper} {i : Nat} {l : List Oper}
variable {ty : TypeId} {ps : String} {af : Array Edge} {g : Option (Nat × Bool)} {d : Nat}
/-- a variable is made -/
theorem Ops.alloc {t : TypeId} {z : Value} {cs : List Value} (hg : want env ops g = some true) (hd : d < n) (hz : ∀ w, (zeroValue t).run P w = .ok z w) (hc : z.cells = cs.toArray)
    (next : ∀ b, Ops P n C ops (i + 1) l k ((d, .pointer (some ⟨b, 0, none⟩)) :: env) ((b, blk cs t) :: L) I) : Ops P n C ops i (⟨some d, .alloc t, ty, ps, af, g⟩ :: l) k env L I :=
  Ops.valW hg (dOk hd) fun a W he hi => ⟨.pointer (some ⟨W.heap.size, 0, none⟩), W.alloc (blk cs t), (W.heap.size, blk cs t) :: L, I,
    .inl (by
      have : ({ W with heap := W.heap.push (.cells cs.toArray t (0, 0)) } : World) = W.alloc (blk cs t) := rfl
      simp [execOp, Instr.alloc, hz, newVar, newRow, newObj, Sem.run, hc, this]; try rfl), hi.alloc _, next _⟩
theorem Ops.box {t : TypeId} {x : Operand} {z : Value} {cs : List Value} (hg : want env ops g = some true) (hd : d < n) (hx : opnd env x = some z) (hc : z.cells = cs.toArray)
    (next : ∀ b, Ops P n C ops (i + 1) l k ((d, .pointer (some ⟨b, 0, none⟩)) :: env) ((b, blk cs t) :: L) I) : Ops P n C ops i (⟨some d, .box t x, ty, ps, af, g⟩ :: l) k env L I :=
  Ops.valW hg (dOk hd) fun a W he hi => ⟨.pointer (some ⟨W.heap.size, 0, none⟩), W.alloc (blk cs t), (W.heap.size, blk cs t) :: L, I,
    .inl (by
      have : ({ W with heap := W.heap.push (.cells cs.toArray t (0, 0)) } : World) = W.alloc (blk cs t) := rfl
      simp [execOp, Instr.box, eval_opnd he hx, newVar, newRow, newObj, Sem.run, hc, this]; try rfl), hi.alloc _, next _⟩
theorem run_loadVar1 {t : TypeId} {b off : Nat} {v : Value} {W : World} (ha : ∀ w, (isAgg t).run P w = .ok false w) (hv : W.cell? ⟨b, off, none⟩ = some v) : (loadVar t ⟨b, off, none⟩).run P W = .ok v W := by
  simp [loadVar, ha, hv]
theorem add_off (b off j : Nat) : (⟨b, off, none⟩ : Addr).add j = ⟨b, off + j, none⟩ := by unfold Addr.add; split <;> simp_all
theorem run_loadVarN {t : TypeId} {b off m : Nat} {vs : List Value} {W : World} (ha : ∀ w, (isAgg t).run P w = .ok true w) (hs : ∀ w, (sizeOf t).run P w = .ok m w) (hm : vs.length = m)
    (hv : ∀ j v, vs[j]? = some v → W.cell? ⟨b, off + j, none⟩ = some v) : (loadVar t ⟨b, off, none⟩).run P W = .ok (.agg vs.toArray) W := by
  have := run_loadCells_list (P := P) W ⟨b, off, none⟩ vs (fun j v h => by rw [add_off]; exact hv j v h)
  rw [hm] at this
  simp [loadVar, ha, hs, this]
/-- an owned block is read: one cell -/
theorem Ops.load {t : TypeId} {x : Operand} {b off : Nat} {v : Value} (j : Nat) {cs : List Value} {t' : TypeId} (hg : want env ops g = some true) (hd : d < n) (hx : opnd env x = some (.pointer (some ⟨b, off, none⟩)))
    (hL : L[j]? = some (b, blk cs t')) (ha : ∀ w, (isAgg t).run P w = .ok false w) (hv : cs[off]? = some v)
    (next : Ops P n C ops (i + 1) l k ((d, v) :: env) L I) : Ops P n C ops i (⟨some d, .load t x, ty, ps, af, g⟩ :: l) k env L I :=
  Ops.val hg (dOk hd) (fun a W he hi => by
    have hc : W.cell? ⟨b, off, none⟩ = some v := by rw [cell_blk (hi.fits.own b _ (List.mem_of_getElem? hL))]; simpa using hv
    simp [execOp, Instr.loadAt, Instr.sureAddr, eval_opnd he hx, run_loadVar1 ha hc]) next
/-- a struct or array -/
theorem Ops.loadN {t : TypeId} {x : Operand} {b off m : Nat} {vs : List Value} (j : Nat) {cs : List Value} {t' : TypeId} (hg : want env ops g = some true) (hd : d < n) (hx : opnd env x = some (.pointer (some ⟨b, off, none⟩)))
    (hL : L[j]? = some (b, blk cs t')) (ha : ∀ w, (isAgg t).run P w = .ok true w) (hs : ∀ w, (sizeOf t).run P w = .ok m w) (hv : (cs.drop off).take m = vs) (hm : vs.length = m)
    (next : Ops P n C ops (i + 1) l k ((d, .agg vs.toArray) :: env) L I) : Ops P n C ops i (⟨some d, .load t x, ty, ps, af, g⟩ :: l) k env L I :=
  Ops.val hg (dOk hd) (fun a W he hi => by
    have hc : ∀ j v, vs[j]? = some v → W.cell? ⟨b, off + j, none⟩ = some v := fun j v h => by
      rw [cell_blk (hi.fits.own b _ (List.mem_of_getElem? hL))]
      rw [← hv, List.getElem?_take] at h
      split at h
      · simpa using h
      · cases h
    simp [execOp, Instr.loadAt, Instr.sureAddr, eval_opnd he hx, run_loadVarN ha hs hm hc]) next
/-- what stands in immutable blocks from an address on -/
def At (I : Imm) (b off : Nat) (vs : List Value) : Prop := ∃ cs t fr, I b = some (.cells cs t fr) ∧ ∀ j v, vs[j]? = some v → cs[off + j]? = some v
theorem At.mono {J : Imm} {b off : Nat} {vs : List Value} (h : At I b off vs) (hle : Le I J) : At J b off vs :=
  let ⟨cs, t, fr, h1, h2⟩ := h; ⟨cs, t, fr, hle _ _ h1, h2⟩
theorem At.cell {b off : Nat} {vs : List Value} {w0 : World} {I0 : Imm} {L0 : List Nat} {W : World} (h : At I b off vs) (hi : Inv w0 I0 L0 I L W) : ∀ j v, vs[j]? = some v → W.cell? ⟨b, off + j, none⟩ = some v := by
  obtain ⟨cs, t, fr, h1, h2⟩ := h
  intro j v hv
  rw [cell_blk (hi.fits.imm b _ h1)]; exact h2 j v hv
theorem Ops.loadI {t : TypeId} {x : Operand} {b off : Nat} {v : Value} (hg : want env ops g = some true) (hd : d < n) (hx : opnd env x = some (.pointer (some ⟨b, off, none⟩)))
    (hA : At I b off [v]) (ha : ∀ w, (isAgg t).run P w = .ok false w)
    (next : Ops P n C ops (i + 1) l k ((d, v) :: env) L I) : Ops P n C ops i (⟨some d, .load t x, ty, ps, af, g⟩ :: l) k env L I :=
  Ops.val hg (dOk hd) (fun a W he hi => by
    have hc : W.cell? ⟨b, off, none⟩ = some v := by simpa using hA.cell hi 0 v rfl
    simp [execOp, Instr.loadAt, Instr.sureAddr, eval_opnd he hx, run_loadVar1 ha hc]) next
theorem Ops.loadIN {t : TypeId} {x : Operand} {b off m : Nat} {vs : List Value} (hg : want env ops g = some true) (hd : d < n) (hx : opnd env x = some (.pointer (some ⟨b, off, none⟩)))
    (hA : At I b off vs) (ha : ∀ w, (isAgg t).run P w = .ok true w) (hs : ∀ w, (sizeOf t).run P w = .ok m w) (hm : vs.length = m)
    (next : Ops P n C ops (i + 1) l k ((d, .agg vs.toArray) :: env) L I) : Ops P n C ops i (⟨some d, .load t x, ty, ps, af, g⟩ :: l) k env L I :=
  Ops.val hg (dOk hd) (fun a W he hi => by
    simp [execOp, Instr.loadAt, Instr.sureAddr, eval_opnd he hx, run_loadVarN ha hs hm (hA.cell hi)]) next
/-- cells written from a place on -/
def setAt (cs : List Value) (off : Nat) (vs : List Value) : List Value := cs.take off ++ vs ++ cs.drop (off + vs.length)
def one (vs : List Value) : Bool := vs.all fun | .agg _ | .tuple _ => false | _ => true
theorem one_spec {vs : List Value} (h : one vs = true) : ∀ v ∈ vs, v.oneCell' = true := by
  intro v hv
  have := List.all_eq_true.1 h v hv
  cases v <;> first | rfl | (simp at this)
/-- an owned block is written -/
theorem Ops.store {t : TypeId} {x y : Operand} {b off m : Nat} {v : Value} (j : Nat) {cs vs cs' : List Value} {t' : TypeId} (hg : want env ops g = some true) (hx : opnd env x = some (.pointer (some ⟨b, off, none⟩))) (hy : opnd env y = some v)
    (hc : v.cells = vs.toArray) (hL : L[j]? = some (b, blk cs t')) (hs : ∀ w, (sizeOf t).run P w = .ok m w) (hm : vs.length = m) (hle : off + m ≤ cs.length) (h1 : one vs = true) (hcs : setAt cs off vs = cs')
    (next : Ops P n C ops (i + 1) l k env (upL L j (blk cs' t')) I) : Ops P n C ops i (⟨none, .store t x y, ty, ps, af, g⟩ :: l) k env L I :=
  Ops.valW hg dNo fun a W he hi => by
    obtain ⟨R, hp, hp'⟩ := upL_perm L j b (blk cs t') (blk cs' t') hL
    have hW := hi.fits.own b _ (List.mem_of_getElem? hL)
    have hr := run_storeCells_at P b off t' vs 0 cs.toArray W hW (by simp; omega) (one_spec h1)
    simp only [Nat.add_zero] at hr
    have hcs' : (cs.toArray.toList.take off ++ vs ++ cs.toArray.toList.drop (off + vs.length)).toArray = cs'.toArray := by rw [← hcs]; rfl
    rw [hcs'] at hr
    refine ⟨undef, W.setRow b cs'.toArray, upL L j (blk cs' t'), I, .inr ⟨?_, rfl⟩, ?_, next⟩
    · simp [execOp, Instr.storeAt, Instr.sureAddr, eval_opnd he hx, eval_opnd he hy, storeVar, hc, hs, hm, hr]
    · exact ((hi.perm hp).upd (W' := W.setRow b cs'.toArray) rfl rfl rfl (by simp) (fun c _ hcb => setRow_other W b c _ hcb) (setRow_heap W b cs.toArray cs'.toArray t' _ hW)).perm hp'.symm
theorem Ops.fieldAddr {s : TypeId} {x : Operand} {b off m q : Nat} {fl : Nat} {fs : Array Field} {f : Field} (hg : want env ops g = some true) (hd : d < n) (hx : opnd env x = some (.pointer (some ⟨b, off, none⟩)))
    (hu : ∀ w, (underlying s).run P w = .ok (.struct fs) w) (hf : fs[fl]? = some f) (hs : ∀ w, (sizeOf f.type).run P w = .ok (m + 1) w) (hq : off + f.offset = q)
    (next : Ops P n C ops (i + 1) l k ((d, .pointer (some ⟨b, q, none⟩)) :: env) L I) : Ops P n C ops i (⟨some d, .fieldAddr s x fl, ty, ps, af, g⟩ :: l) k env L I :=
  Ops.val hg (dOk hd) (fun a W he hi => by
    subst hq
    simp [execOp, Instr.fieldAt, Instr.sureAddr, eval_opnd he hx, hu, hf, fieldPlace, hs, add_off]) next
end
end Go.V
