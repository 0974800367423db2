import Derived.Test.YtbalfblfkfbejaaGreatDoorWM3
import Derived.Laws.BytesString
import Derived.Test.YtbalfblfkfbejaaGreatDoorWM2
import Derived.LaidLaws
import Derived.MakeChecks
import Derived.ChangeBears2
import Derived.Lay
import Derived.Stop.Joined
import Derived.Deep.DeepHandedRow
namespace Go.V
open Go.RowKit
set_option linter.unusedVariables false
set_option linter.unusedSimpArgs false
section
variable {P : Program} {n : Nat} {C : Cx} {k : List Item} {env : Env} {L : Own} {I : Imm} {ops : Array Oper} {i : Nat} {l : List Oper} {S : World → Prop}
variable {ty : TypeId} {ps : String} {af : Array Edge} {g : Option (Nat × Bool)} {d : Nat}
variable {x y : Operand} {t t' : TypeId} {kd kd' : IntKind}
theorem Ev.shrI {a j : Int} (hx : opnd env x = some (.int kd a)) (hy : opnd env y = some (.int kd' j)) (h0 : 0 ≤ j) (h1 : j.toNat ≤ kd.bits) : Ev P n env (.binOp .shr t x y t') (.int kd (a.fdiv (2 ^ j.toNat))) :=
  Ev.of2 hx hy (fun _ => run_eqGuard_int ..) fun W => by
    have e : Op.shift .shr kd a kd' j = pure (.int kd (a.fdiv (2 ^ min j.toNat kd.bits))) := by unfold Op.shift; rw [if_neg (Int.not_lt.2 h0)]
    rw [Nat.min_eq_left h1] at e
    simp only [binOp, e]
    rfl
theorem foldl_push (xs : List UInt8) : ∀ s : ByteArray, (xs.map fun b => (b.toNat : Int)).foldl (fun r (n : Int) => r.push (UInt8.ofNat n.toNat)) s = ⟨s.data ++ xs.toArray⟩ := by
  induction xs with
  | nil => intro s; simp
  | cons x r ih =>
    intro s
    simp only [List.map_cons, List.foldl_cons]
    rw [ih]
    apply ByteArray.ext
    simp [ByteArray.push]
theorem run_bytesStr {src dst e : TypeId} {b off c : Nat} {xs : List UInt8} {W : World} (T : Tab P) (hs : T.und src = some (.slice e)) (ht : T.und dst = some .string) (he : T.und e = some (.int .u8))
    (hc : ∀ j u, (wb xs)[j]? = some u → W.cell? ⟨b, off + j, none⟩ = some u) : (convert src dst (.slice (some ⟨b, off, none⟩) xs.length c)).run P W = .ok (str xs) W := by
  have hl := run_loadCells_list (P := P) W ⟨b, off, none⟩ (wb xs) (fun j u hj => by rw [add_off]; exact hc j u hj)
  have e1 : (wb xs).length = xs.length := by simp
  rw [e1] at hl
  rw [run_convert_bytes_string W src dst e _ _ _ (und_of_run (T.undOk hs W)) (und_of_run (T.undOk he W)) (und_of_run (T.undOk ht W))]
  rw [run_bytesToString W ⟨b, off, none⟩ xs.length c (xs.map fun b => (b.toNat : Int)) (by rw [hl, List.map_map]; rfl), foldl_push]
  simp [str]
theorem run_bytesNil {src dst e : TypeId} {c : Nat} {W : World} (T : Tab P) (hs : T.und src = some (.slice e)) (ht : T.und dst = some .string) (he : T.und e = some (.int .u8)) : (convert src dst (.slice none 0 c)).run P W = .ok (str []) W := by
  rw [run_convert_bytes_string W src dst e _ _ _ (und_of_run (T.undOk hs W)) (und_of_run (T.undOk he W)) (und_of_run (T.undOk ht W))]
  rfl
theorem Yv.bytesBuf {src dst e e' : TypeId} {v : Value} {xs : List UInt8} {J : Imm} {M N : Own} (T : Tab P) (hG : Buf e' v xs N) (hm : ∀ x, x ∈ N → x ∈ M) (hs : T.und src = some (.slice e)) (ht : T.und dst = some .string) (he : T.und e = some (.int .u8)) (hx : opnd env x = some v) :
    Yv P n env (Holds J M) (.convert src dst x) (str xs) :=
  fun a W hen hS _ _ _ _ _ => by
    rcases hG with ⟨rfl, rfl, _⟩ | ⟨b, pre, post, cap, rfl, rfl, hc, _⟩
    · simp only [execOp, eval_opnd hen hx, Sem.run_bind, run_bytesNil T hs ht he, Result.andThen_ok]; rfl
    · have hW := hS.2 b _ (hm _ (List.mem_singleton.2 rfl))
      have := run_bytesStr (P := P) (c := cap) (b := b) (off := pre.length) (xs := xs) (W := W) T hs ht he (fun j u hj => by
        have hjl : j < xs.length := by simpa using (List.getElem?_eq_some_iff.1 hj).1
        rw [cell_blk hW, List.getElem?_toArray, List.append_assoc, List.getElem?_append_right (by omega), Nat.add_sub_cancel_left, List.getElem?_append_left (by simpa using hjl)]
        exact hj)
      simp only [execOp, eval_opnd hen hx, Sem.run_bind, this, Result.andThen_ok]; rfl
theorem Yv.bytesSl {src dst e : TypeId} {v : Value} {xs : List UInt8} {J : Imm} {M : Own} (T : Tab P) (hG : Sl tU8 J v xs) (hs : T.und src = some (.slice e)) (ht : T.und dst = some .string) (he : T.und e = some (.int .u8)) (hx : opnd env x = some v) :
    Yv P n env (Holds J M) (.convert src dst x) (str xs) :=
  fun a W hen hS _ _ _ _ _ => by
    obtain ⟨A, c, rfl, hc, hrow⟩ := hG
    have key : ∀ b off, (∀ j u, (wb xs)[j]? = some u → W.cell? ⟨b, off + j, none⟩ = some u) → A = some ⟨b, off, none⟩ → (execOp a.eval ⟨‹Option Tmp›, .convert src dst x, ‹TypeId›, ‹String›, ‹Array Edge›, ‹Option (Nat × Bool)›⟩).run P W = .ok (.value (str xs)) W := by
      rintro b off hcell rfl
      have := run_bytesStr (P := P) (c := c) (b := b) (off := off) (xs := xs) (W := W) T hs ht he hcell
      simp only [execOp, eval_opnd hen hx, Sem.run_bind, this, Result.andThen_ok]; rfl
    rcases hrow with rfl | ⟨b, off, rfl, hrow⟩
    · cases A with
      | none =>
        have := run_bytesNil (P := P) (c := c) (W := W) T hs ht he
        simp only [execOp, eval_opnd hen hx, Sem.run_bind, List.length_nil, this, Result.andThen_ok]; rfl
      | some a0 =>
        have hl := run_loadCells_list (P := P) W a0 [] (fun j u hj => by simp at hj)
        have h3 : (convert src dst (.slice (some a0) 0 c)).run P W = .ok (str []) W := by
          rw [run_convert_bytes_string W src dst e _ _ _ (und_of_run (T.undOk hs W)) (und_of_run (T.undOk he W)) (und_of_run (T.undOk ht W))]
          exact run_bytesToString W a0 0 c [] hl
        simp only [execOp, eval_opnd hen hx, Sem.run_bind, List.length_nil, h3, Result.andThen_ok]; rfl
    · refine key b off (fun j u hj => ?_) rfl
      have hjl : j < xs.length := by simpa using (List.getElem?_eq_some_iff.1 hj).1
      obtain ⟨cs, hr, hA⟩ := hrow j xs[j] (List.getElem?_eq_getElem hjl)
      obtain rfl : cs = _ := hr
      have h4 := hS.cell hA 0 _ rfl
      rw [List.getElem?_map, List.getElem?_eq_getElem hjl] at hj
      simp only [Option.map_some, Option.some.injEq] at hj
      subst hj
      simpa [tU8] using h4
end
end Go.V
namespace Go.V
open Go.RowKit
set_option linter.unusedVariables false
set_option linter.unusedSimpArgs false
section
variable {P : Program} {n : Nat} {C : Cx} {k : List Item} {env : Env} {L : Own} {I : Imm} {ops : Array Oper} {i : Nat} {l : List Oper} {S : World → Prop}
variable {ty : TypeId} {ps : String} {af : Array Edge} {g : Option (Nat × Bool)} {d : Nat}
variable {x y : Operand} {t t' : TypeId} {kd kd' : IntKind}
theorem Ev.nilCheckM {u : Value} {name : String} (hx : opnd env x = some (.func (.method name) #[.iface t u] #[])) (hm : ∀ w, (nilAhead (P.types.size + Made.depth) t u name).run P w = .ok (some false) w) : Ev P n env (.nilCheck x) (.func (.method name) #[.iface t u] #[]) :=
  fun a W he _ _ _ _ _ => by
    have hp : (program).run P W = .ok P W := rfl
    simp [execOp, eval_opnd he hx, hp, hm]
variable {K : Value → Own → Imm → Prop}
theorem Eff.invokeM {f : FuncId} {m : String} {xs : List Operand} {ats : Array TypeId} {u rv : Value} {vs : List Value} {M N : Own} {R : Value → Imm → Own → Prop} (hs : Spec P f (rv :: vs) I M R) (hL : L.Perm (M ++ N)) (hc : ∀ args w, (callFunc f args).run P w = .ok (.enter f args) w)
    (hf : opnd env x = some (.iface t u)) (hm : ∀ w, (method (P.types.size + Made.depth) t u m).run P w = .ok (f, rv) w) (hx : opnds env xs = some vs) (next : ∀ v J M', Le I J → R v J M' → K v (M' ++ N) J) :
    Eff P n C env L I ⟨some d, .call ⟨.invoke x m, xs.toArray, ats⟩, ty, ps, af, g⟩ K :=
  Eff.callW (fun a W he => run_invoke hc he hf hm hx) hL hs next
theorem QD.invoke {D : List (Option Nat)} {Z : Env → Prop} {m : List Bool} {r : List Oper} {f : FuncId} {nm : String} {xs : List Operand} {ats : Array TypeId} {u rv v : Value} {vs : List Value} (hs : Pure P f (rv :: vs) I fun w J => w = v) (hd : d < n) (hg : wantD env D g = some true) (hc : ∀ args w, (callFunc f args).run P w = .ok (.enter f args) w)
    (hf : opnd env x = some (.iface t u)) (hm : ∀ w, (method (P.types.size + Made.depth) t u nm).run P w = .ok (f, rv) w) (hx : opnds env xs = some vs)
    (next : QD P n C D L I Z m r ((d, v) :: env)) : QD P n C D L I Z (true :: m) (⟨some d, .call ⟨.invoke x nm, xs.toArray, ats⟩, ty, ps, af, g⟩ :: r) env :=
  QD.callW hd hg (fun a W he => run_invoke hc he hf hm hx) hs.keeps next
def bobj (pre : List Value) (xs : List UInt8) (post : List Value) (e : TypeId) : Obj := blk (pre ++ wb xs ++ post) e
theorem run_copy_at {dT sT e : TypeId} (hE : Bt P dT e) {W : World} {w0 : World} {I0 : Imm} {L0 : List Nat} {N : Own} {b cap : Nat} {pre post : List Value} {xs s : List UInt8} (hi : Inv w0 I0 L0 I ((b, bobj pre xs post e) :: N) W) :
    ∃ W', (Builtin.copy_ #[dT, sT] ty #[.slice (some ⟨b, pre.length, none⟩) xs.length cap, str s]).run P W = .ok (.int .i64 (min s.length xs.length : Nat)) W' ∧ Inv w0 I0 L0 I ((b, bobj pre (s.take xs.length ++ xs.drop s.length) post e) :: N) W' := by
  obtain ⟨iE, z, hinfo, hzero, hs1, hb1, hzs⟩ := hE.el.info
  have hfirst : ∀ m, (Builtin.firstCells 1 m (str s)).run P W = .ok (wb (s.take m)).toArray W := by
    intro m
    simp only [Builtin.firstCells, str, Nat.mul_one]
    show Result.ok _ W = _
    congr 1
    apply Array.ext'
    simp [wb, ByteArray.data_extract]
  have hW := hi.fits.own b _ List.mem_cons_self
  have hmin : (s.take xs.length).length = min s.length xs.length := by simp [Nat.min_comm]
  have hfl : ∀ m, m = min s.length xs.length → s.take m = s.take xs.length := by
    intro m hm; subst hm; rw [List.take_eq_take_iff]; omega
  have hst := run_storeCells_at P b pre.length e (wb (s.take xs.length)) 0 (pre ++ wb xs ++ post).toArray W hW (by simp; omega) (fun u hu => by
      obtain ⟨y, _, rfl⟩ := List.mem_map.1 hu
      rfl)
  have hcs2 : (((pre ++ wb xs ++ post).toArray.toList.take pre.length ++ wb (s.take xs.length) ++ (pre ++ wb xs ++ post).toArray.toList.drop (pre.length + (wb (s.take xs.length)).length)).toArray) = (pre ++ wb (s.take xs.length ++ xs.drop s.length) ++ post).toArray := by
    congr 1
    show (pre ++ wb xs ++ post).take _ ++ _ ++ (pre ++ wb xs ++ post).drop _ = _
    rw [List.append_assoc pre, List.take_left, List.drop_append]
    simp only [List.length_map, hmin, List.map_append]
    rw [show List.drop (pre.length + min s.length xs.length) pre = [] from List.drop_eq_nil_of_le (by omega), Nat.add_sub_cancel_left, List.drop_append]
    rw [show min s.length xs.length - (List.map w8 xs).length = 0 by simp; omega, List.drop_zero, List.nil_append, ← List.map_drop]
    have e3 : xs.drop (min s.length xs.length) = xs.drop s.length := by
      by_cases hle : s.length ≤ xs.length
      · rw [Nat.min_eq_left hle]
      · rw [Nat.min_eq_right (by omega), List.drop_length, List.drop_eq_nil_of_le (by omega)]
    rw [e3]
    simp [wb]
  simp only [Nat.add_zero] at hst
  rw [hcs2] at hst
  refine ⟨W.setRow b (pre ++ wb (s.take xs.length ++ xs.drop s.length) ++ post).toArray, ?_, hi.upd rfl rfl rfl (by simp) (fun c _ hcb => setRow_other W b c _ hcb) (setRow_heap W b _ _ e _ hW)⟩
  have h1 := hfirst (Nat.min s.length xs.length)
  rw [hfl _ rfl] at h1
  have e4 : (Builtin.copy_ #[dT, sT] ty #[.slice (some ⟨b, pre.length, none⟩) xs.length cap, str s]).run P W = ((Builtin.firstCells 1 (Nat.min s.length xs.length) (str s)).run P W).andThen (fun cells w => (storeCells ⟨b, pre.length, none⟩ cells.toList).run P w |>.andThen fun _ w => .ok (goInt (Nat.min s.length xs.length)) w) := by
    simp [Builtin.copy_, run_underlying hE.el.under, Builtin.lenOf, str, str_size, sizeOf, typeInfo, hinfo, hs1]
  rw [e4, h1]
  simp only [Result.andThen]
  show (Sem.run P (storeCells ⟨b, pre.length, none⟩ (wb (List.take xs.length s))) W).andThen _ = _
  rw [hst]
  rfl
theorem Eff.copyAt {s x : Operand} {ts tx e : TypeId} {N : Own} {b cap : Nat} {pre post : List Value} {xs ys : List UInt8} (hE : Bt P ts e) (hs : opnd env s = some (.slice (some ⟨b, pre.length, none⟩) xs.length cap)) (hx : opnd env x = some (str ys)) (hL : L.Perm ((b, bobj pre xs post e) :: N))
    (next : K (.int .i64 (min ys.length xs.length : Nat)) ((b, bobj pre (ys.take xs.length ++ xs.drop ys.length) post e) :: N) I) : Eff P n C env L I ⟨some d, .call ⟨.builtin .copy, #[s, x], #[ts, tx]⟩, ty, ps, af, g⟩ K :=
  Eff.valW fun a W he hi => by
    obtain ⟨W', hr, hi'⟩ := run_copy_at (P := P) (ty := ty) (sT := tx) (s := ys) (cap := cap) hE (hi.perm hL)
    refine ⟨_, W', _, I, .inl ?_, hi', next⟩
    simp [execOp, resolve, Go.invoke, builtin, eval_opnd he hs, eval_opnd he hx, hr]
end
end Go.V
namespace Go.V
open Go.RowKit
set_option linter.unusedVariables false
set_option linter.unusedSimpArgs false
section
variable {P : Program} {n : Nat} {C : Cx} {k : List Item} {env : Env} {L : Own} {I : Imm} {ops : Array Oper} {i : Nat} {l : List Oper} {S : World → Prop}
variable {ty : TypeId} {ps : String} {af : Array Edge} {g : Option (Nat × Bool)} {d : Nat} {ts e : TypeId} {K : Value → Own → Imm → Prop}
theorem Eff.makeBuf {x y : Operand} {kl kc : IntKind} {a c : Nat} (hE : Bt P ts e) (hx : opnd env x = some (.int kl (a : Int))) (hy : opnd env y = some (.int kc (c : Int))) (hac : a ≤ c) (hc : c ≤ 281474976710656)
    (next : ∀ b, Buf e (.slice (some ⟨b, 0, none⟩) a c) (List.replicate a 0) [(b, blk (wb (List.replicate c 0)) e)] → K (.slice (some ⟨b, 0, none⟩) a c) ((b, blk (wb (List.replicate c 0)) e) :: L) I) :
    Eff P n C env L I ⟨some d, .makeSlice ts x y, ty, ps, af, g⟩ K :=
  Eff.valW fun a0 W he hi => by
    obtain ⟨iE, z, hinfo, hzero, hs1, hb1, hzs⟩ := hE.el.info
    obtain ⟨iE', hinfo', hz'⟩ := hE.zero
    obtain rfl : iE' = iE := Option.some.inj (hinfo'.symm.trans hinfo)
    obtain rfl : z = .int .u8 0 := Option.some.inj (hzero.symm.trans hz')
    have hr := run_make (P := P) W ts e iE' _ hE.el.under hinfo hzero kl kc (a : Int) (c : Int) (by omega) (by omega) (by rw [hb1]; omega) (by omega)
    rw [hs1, Nat.mul_one, Int.toNat_natCast, Int.toNat_natCast, madeCells_u8] at hr
    refine ⟨.slice (some ⟨W.heap.size, 0, none⟩) a c, _, (W.heap.size, blk (wb (List.replicate c 0)) e) :: L, I, .inl ?_, hi.alloc _, next _ (.inr ⟨W.heap.size, [], wb (List.replicate (c - a) 0), c, by simp, ?_, by simpa using hac, by simp; omega⟩)⟩
    · simp only [execOp, eval_opnd he hx, eval_opnd he hy, Sem.run_bind, hr, Result.andThen_ok]; rfl
    · simp only [List.nil_append, ← List.map_append, List.replicate_append_replicate]
      rw [show a + (c - a) = c by omega]
end
end Go.V
namespace Go.V
open Go.RowKit Go.ChangeShapes
set_option linter.unusedVariables false
set_option linter.unusedSimpArgs false
theorem laidVar {P : Program} {W : World} : ∀ {l : List (String × DataW Unit)} {ps : List MemPlace}, DataW.LaidVars P W l ps → ∀ {n d}, (n, d) ∈ l →
    ∃ g t cs fuel p, P.globalNamed n = some g ∧ (P.globals[g]?).map (·.type) = some t ∧ W.var? P n = some cs ∧ DataW.trod (fun _ => ()) P W 0 (fun _ => true) false fuel t cs.toList = some (d, p) ∧ ∀ x ∈ MemPlace.row ⟨g, 0, none⟩ cs.size ++ p, x ∈ ps
  | [], _, _, _, _, h => by cases h
  | (n0, d0) :: r, ps, h, n, d, hm => by
    obtain ⟨g, t, cs, fuel, p, q, h1, h2, h3, h4, h5, h6⟩ := h
    rcases List.mem_cons.1 hm with e | hm
    · cases e
      exact ⟨g, t, cs, fuel, p, h1, h2, h3, h4, fun x hx => by rw [h6]; exact List.mem_append_left _ hx⟩
    · obtain ⟨g', t', cs', f', p', k1, k2, k3, k4, k5⟩ := laidVar h5 hm
      exact ⟨g', t', cs', f', p', k1, k2, k3, k4, fun x hx => by rw [h6]; exact List.mem_append_right _ (k5 x hx)⟩
theorem laidSentinel {P : Program} {W : World} {l : List (String × DataW Unit)} (h : laidMetH P l W) (hp : (l.all fun x => x.2.handleName?.isNone) = true) {n text : _} {ti tp te ts : TypeId} {g : Nat} {ms : Array (String × TypeId)} {f : Field}
    (hm : (n, (DataW.iface "*errors.errorString" (.ptr (.agg [.lit (.string text)])) : DataW Unit)) ∈ l) (hg : P.globalNamed n = some g) (ht : (P.globals[g]?).map (·.type) = some ti)
    (hi : P.underlying ti = some (.interface ms)) (hrow : ∀ u, P.typeName? 3 u = some "*errors.errorString" → u = tp)
    (hpt : P.underlying tp = some (.pointer te)) (he : P.underlying te = some (.struct #[f])) (hft : f.type = ts) (hfo : f.offset = 0) (hs : P.underlying ts = some .string) (hc : P.cellsOf te = 1) (hcs : P.cellsOf ts = 1) :
    ∃ a, At (whole W) g 0 [.iface tp (.pointer (some a))] := by
  rw [MakeChecks.laidMetH_plain _ _ _ hp] at h
  obtain ⟨ps, h, hnd, hrows⟩ := h
  obtain ⟨g', t', cs, fuel, p, k1, k2, k3, k4, k5⟩ := laidVar h hm
  obtain rfl := Option.some.inj (hg.symm.trans k1)
  obtain rfl := Option.some.inj (ht.symm.trans k2)
  obtain ⟨l0⟩ := cs
  have ok0 : ∀ u v, l0 = [.iface u v] → Value.okWide P W .any 0 u v := fun u v e => by
    subst e
    exact (hrows g 0 (k5 _ (by simp [MemPlace.row]))).2 u v (by simpa using World.var?_cell hg k3 0)
  obtain ⟨a, s, e, hc0, hs0, hz0, _⟩ := errorString_of_trod hi hrow hpt he hft hfo hs hc hcs k4 ok0
  have e : l0 = _ := e
  subst e
  refine ⟨a, (at_whole (a := ⟨g, 0, none⟩) (by simp) (fun j v hj => ?_)).2⟩
  cases j with
  | zero => simp at hj; subst hj; simpa [Addr.add] using World.var?_cell hg k3 0
  | succ j => simp at hj
theorem witness_laid {H : Type} {enc : TypeId × Value → H} {C : Checked} {os : Os} {f : FuncId} {fn : Func} {s : OpenSpec} {conds : List PathCond} {apart : Bool} {laid : List (String × DataW Unit)} (modest : Bool) (args : Array Value)
    (hsh : (World.laidAll C.prog os laid |>.forCall (fun _ _ => 0) ⟨#[], args, []⟩).Shaped C.prog)
    (hok : Input.okWideB C.prog ((World.laidAll C.prog os laid).forCall (fun _ _ => 0) ⟨#[], args, []⟩) f ⟨#[], args, []⟩ = true)
    (hrow : s.preRow enc C.prog fn conds apart laid ((World.laidAll C.prog os laid).forCall (fun _ _ => 0) ⟨#[], args, []⟩).memory args) :
    ∃ (w : World) (tape : Tape) (i : Input), w.os = os ∧ (w.forCall tape i).Shaped C.prog ∧ i.vars = [] ∧ Input.okWide C.prog (w.forCall tape i) .any w.heap.size f i ∧
      s.preRow enc C.prog fn conds apart laid (w.forCall tape i).memory i.args ∧ ({ modest := modest } : Assume).holds C.prog (lone (Frame.enter C.prog f i.args .normal) [] (w.forCall tape i)) :=
  ⟨World.laidAll C.prog os laid, fun _ _ => 0, ⟨#[], args, []⟩, World.laidAll_os _ _ _, hsh, (Input.okWide_of_okWideB (base := 0) hok).1, (Input.okWide_of_okWideB hok).2, hrow, by
    simp only [Assume.holds]
    exact ⟨by simp, by simp, fun _ => Modest.zero, by simp, by simp⟩⟩
end Go.V
namespace Go.V
open Go.Proofs.Tryz
open Go.RowKit
set_option linter.unusedVariables false
set_option linter.unusedSimpArgs false
section
variable {P : Program} {n : Nat} {C : Cx} {k : List Item} {env : Env} {L : Own} {I : Imm} {ops : Array Oper} {i : Nat} {l : List Oper} {S : World → Prop}
variable {ty : TypeId} {ps : String} {af : Array Edge} {g : Option (Nat × Bool)} {d : Nat}
variable {x y : Operand} {t t' : TypeId} {kd kd' : IntKind}
theorem Ev.addK {a b r : Int} (hx : opnd env x = some (.int kd a)) (hy : opnd env y = some (.int kd b)) (hr : kd.wrap (a + b) = r) : Ev P n env (.binOp .add t x y t') (.int kd r) :=
  Ev.of2 hx hy (fun _ => run_eqGuard_int ..) fun W => by subst hr; simp [binOp, Op.intArith]
theorem Ev.subK {a b r : Int} (hx : opnd env x = some (.int kd a)) (hy : opnd env y = some (.int kd b)) (hr : kd.wrap (a - b) = r) : Ev P n env (.binOp .sub t x y t') (.int kd r) :=
  Ev.of2 hx hy (fun _ => run_eqGuard_int ..) fun W => by subst hr; simp [binOp, Op.intArith]
theorem Ev.orK {a b c : Nat} (hx : opnd env x = some (.int kd (a : Int))) (hy : opnd env y = some (.int kd (b : Int))) (ha : a < 2 ^ kd.bits) (hb : b < 2 ^ kd.bits) (hr : a ||| b = c) (hw : kd.wrap (c : Int) = c) : Ev P n env (.binOp .or t x y t') (.int kd (c : Int)) :=
  Ev.of2 hx hy (fun _ => run_eqGuard_int ..) fun W => by
    have e : Op.intBits .or kd (a : Int) (b : Int) = pure (.int kd (kd.wrap (((BitVec.ofInt kd.bits (a : Int)) ||| (BitVec.ofInt kd.bits (b : Int)) : BitVec kd.bits).toNat : Int))) := rfl
    have e2 : ((BitVec.ofInt kd.bits (a : Int)) ||| (BitVec.ofInt kd.bits (b : Int)) : BitVec kd.bits).toNat = c := by
      rw [BitVec.ofInt_natCast, BitVec.ofInt_natCast, BitVec.toNat_or, BitVec.toNat_ofNat, BitVec.toNat_ofNat, Nat.mod_eq_of_lt ha, Nat.mod_eq_of_lt hb, hr]
    rw [e2, hw] at e
    simp only [binOp, e, ne_eq, not_true_eq_false, if_false]
    rfl
theorem Ev.andK {a b c : Nat} (hx : opnd env x = some (.int kd (a : Int))) (hy : opnd env y = some (.int kd (b : Int))) (ha : a < 2 ^ kd.bits) (hb : b < 2 ^ kd.bits) (hr : a &&& b = c) (hw : kd.wrap (c : Int) = c) : Ev P n env (.binOp .and t x y t') (.int kd (c : Int)) :=
  Ev.of2 hx hy (fun _ => run_eqGuard_int ..) fun W => by
    have e : Op.intBits .and kd (a : Int) (b : Int) = pure (.int kd (kd.wrap (((BitVec.ofInt kd.bits (a : Int)) &&& (BitVec.ofInt kd.bits (b : Int)) : BitVec kd.bits).toNat : Int))) := rfl
    have e2 : ((BitVec.ofInt kd.bits (a : Int)) &&& (BitVec.ofInt kd.bits (b : Int)) : BitVec kd.bits).toNat = c := by
      rw [BitVec.ofInt_natCast, BitVec.ofInt_natCast, BitVec.toNat_and, BitVec.toNat_ofNat, BitVec.toNat_ofNat, Nat.mod_eq_of_lt ha, Nat.mod_eq_of_lt hb, hr]
    rw [e2, hw] at e
    simp only [binOp, e, ne_eq, not_true_eq_false, if_false]
    rfl
theorem Ev.shlK {a j r : Int} (hx : opnd env x = some (.int kd a)) (hy : opnd env y = some (.int kd' j)) (h0 : 0 ≤ j) (h1 : j.toNat ≤ kd.bits) (hr : kd.wrap (a * 2 ^ j.toNat) = r) : Ev P n env (.binOp .shl t x y t') (.int kd r) :=
  Ev.of2 hx hy (fun _ => run_eqGuard_int ..) fun W => by
    subst hr
    have e : Op.shift .shl kd a kd' j = pure (.int kd (kd.wrap (a * 2 ^ min j.toNat kd.bits))) := by unfold Op.shift; rw [if_neg (Int.not_lt.2 h0)]
    rw [Nat.min_eq_left h1] at e
    simp only [binOp, e]
    rfl
theorem Ev.shrK {a j r : Int} (hx : opnd env x = some (.int kd a)) (hy : opnd env y = some (.int kd' j)) (h0 : 0 ≤ j) (h1 : j.toNat ≤ kd.bits) (hr : a.fdiv (2 ^ j.toNat) = r) : Ev P n env (.binOp .shr t x y t') (.int kd r) :=
  (Ev.shrI hx hy h0 h1).as (by rw [hr])
theorem Ev.sliceLH {ts e : TypeId} {A : Option Addr} {m c p q : Nat} {lo hi : Operand} {size : Nat} (T : Tab P) (hu : T.und ts = some (.slice e)) (hz : T.size e = some size) (hx : opnd env x = some (.slice A m c)) (hlo : opnd env lo = some (.int kd (p : Int))) (hhi : opnd env hi = some (.int kd' (q : Int))) (h0 : p ≤ q) (h1 : q ≤ c) :
    Ev P n env (.slice ts x (some lo) (some hi) none) (.slice (if c = p then A else A.map (·.add (p * size))) (q - p) (c - p)) :=
  fun a W he _ _ _ _ _ => by
    have hb := run_sliceBounds (P := P) (hi := some (a.eval hi)) (lo := some (a.eval lo)) (len := m) (cap := c) (l := p) (h := q) (kd := kd') (kd' := kd) (.inr (by simp [eval_opnd he hhi])) (.inr (by simp [eval_opnd he hlo])) h1 h0 W
    simp [execOp, Instr.sliceAt, Instr.slice, eval_opnd he hx, T.undOk hu, hb, T.sizeOk hz]
end
theorem orSh {a b : Nat} (k : Nat) (h : b < 2 ^ k) : a * 2 ^ k ||| b = a * 2 ^ k + b := by
  rw [Nat.mul_comm, ← Nat.two_pow_add_eq_or_of_lt h]
theorem wrapI32 {x : Int} (h : -2147483648 ≤ x) (h' : x ≤ 2147483647) : IntKind.i32.wrap x = x := wI32 h h'
theorem wrapN8 {k : Nat} (h : k < 256) : IntKind.u8.wrap (k : Int) = (k : Int) := wU8 (by omega) (by omega)
structure Rd (I : Imm) (v : Value) (xs : List UInt8) (db off c : Nat) : Prop where
  eq : v = .slice (some ⟨db, off, none⟩) xs.length c
  cap : xs.length ≤ c
  at' : ∀ i, i < xs.length → At I db (off + ((i : Int)).toNat * 1) [.int .u8 ((xs.getD i 0).toNat : Int)]
theorem Rd.mono {I J : Imm} {v : Value} {xs : List UInt8} {db off c : Nat} (h : Rd I v xs db off c) (hle : Le I J) : Rd J v xs db off c := ⟨h.eq, h.cap, fun i hi => (h.at' i hi).mono hle⟩
theorem Rd.of {I : Imm} {v : Value} {xs : List UInt8} (h : Sl tU8 I v xs) (hne : xs ≠ []) : ∃ db off c, Rd I v xs db off c := by
  obtain ⟨A, c, rfl, hc, hrow⟩ := h
  rcases hrow with rfl | ⟨b, off, rfl, hrow⟩
  · exact absurd rfl hne
  · refine ⟨b, off, c, rfl, hc, fun i hi => ?_⟩
    obtain ⟨cs, hr, hA⟩ := hrow i _ (List.getElem?_eq_getElem hi)
    obtain rfl : cs = _ := hr
    rw [List.getD_eq_getElem?_getD, List.getElem?_eq_getElem hi]
    exact hA
theorem Rd.sl {I : Imm} {v : Value} {xs : List UInt8} {db off c : Nat} (h : Rd I v xs db off c) : Sl tU8 I v xs := by
  refine ⟨_, c, h.eq, h.cap, .inr ⟨db, off, rfl, fun i x hx => ?_⟩⟩
  obtain ⟨hi, rfl⟩ := List.getElem?_eq_some_iff.1 hx
  refine ⟨_, rfl, ?_⟩
  have := h.at' i hi
  rw [List.getD_eq_getElem?_getD, List.getElem?_eq_getElem hi] at this
  exact this
theorem Rd.cut {I : Imm} {v : Value} {xs : List UInt8} {db off c : Nat} (h : Rd I v xs db off c) {p q : Nat} (hpq : p ≤ q) (hq : q ≤ xs.length) (hpc : p < c) :
    Rd I (.slice (if c = p then some ⟨db, off, none⟩ else (some (⟨db, off, none⟩ : Addr)).map (·.add (p * 1))) (q - p) (c - p)) ((xs.take q).drop p) db (off + p) (c - p) := by
  have hc := h.cap
  have hl : ((xs.take q).drop p).length = q - p := by simp; omega
  refine ⟨?_, by rw [hl]; omega, fun i hi => ?_⟩
  · rw [if_neg (by omega), hl]; simp [Addr.add]
  · rw [hl] at hi
    have := h.at' (p + i) (by omega)
    have e : ((xs.take q).drop p).getD i 0 = xs.getD (p + i) 0 := by
      rw [List.getD_eq_getElem?_getD, List.getD_eq_getElem?_getD, List.getElem?_drop, List.getElem?_take_of_lt (by omega)]
    rw [e]
    have e2 : off + p + ((i : Nat) : Int).toNat * 1 = off + (((p + i : Nat) : Int)).toNat * 1 := by omega
    rw [e2]; exact this
theorem dc {p : Prop} (h : p := by decide) : p := h
theorem om {p : Prop} (h : p := by first | omega | (simp only [List.length_cons, List.length_nil] ; omega) | (simp; omega)) : p := h
section
variable {n : Nat} {C : Cx} {env : Env} {L : Own} {I : Imm} {D : List (Option Nat)} {Z : Env → Prop} {m : List Bool} {r : List Oper} {ty : TypeId} {ps : String} {af : Array Edge} {g : Option (Nat × Bool)} {d : Nat}
theorem q1 {op : Op} {v : Value} (hd : d < n) (hg : wantD env D g = some true) (h : evalOp T env op = some v) (next : QD prog n C D L I Z m r ((d, v) :: env)) : QD prog n C D L I Z (true :: m) (⟨some d, op, ty, ps, af, g⟩ :: r) env :=
  QD.ev T hd hg h next
theorem qf {op : Op} {p : Prop} {i : Decidable p} (h : Ev prog n env op (.bool (decide p))) (hp : ¬p) (hd : d < n) (hg : wantD env D g = some true) (next : QD prog n C D L I Z m r ((d, .bool false) :: env)) : QD prog n C D L I Z (true :: m) (⟨some d, op, ty, ps, af, g⟩ :: r) env :=
  QD.e (h.as (congrArg Value.bool (decide_eq_false hp))) hd hg next
theorem qt {op : Op} {p : Prop} {i : Decidable p} (h : Ev prog n env op (.bool (decide p))) (hp : p) (hd : d < n) (hg : wantD env D g = some true) (next : QD prog n C D L I Z m r ((d, .bool true) :: env)) : QD prog n C D L I Z (true :: m) (⟨some d, op, ty, ps, af, g⟩ :: r) env :=
  QD.e (h.as (congrArg Value.bool (decide_eq_true hp))) hd hg next
end
end Go.V
namespace Go.V
open Go.RowKit
set_option linter.unusedVariables false
set_option linter.unusedSimpArgs false
section
variable {P : Program} {n : Nat} {C : Cx} {k : List Item} {env : Env} {L : Own} {I : Imm} {ops : Array Oper} {i : Nat} {l : List Oper} {S : World → Prop}
variable {ty : TypeId} {ps : String} {af : Array Edge} {g : Option (Nat × Bool)} {d : Nat}
theorem Eff.appOneP {α : Type} {t : Ty α} {y : α} {s x : Operand} {ts e : TypeId} {bytes b : Nat} {M N : Own} {v : Value} {xs : List α} {news : List Value} {K : Value → Own → Imm → Prop} (hE : Elem P ts e t.size bytes) (hG : Gr t I e v xs M) (hr : t.rel I news y)
    (hs : opnd env s = some v) (hx : opnd env x = some (.slice (some ⟨b, 0, none⟩) 1 1)) (hL : L.Perm (M ++ N)) (hb : (b, blk news e) ∈ L) (h1 : one news = true)
    (hbytes : (2 * (xs.length + 1) + 512) * bytes ≤ 281474976710656) (h63 : xs.length + 1 ≤ 4611686018427387904)
    (next : ∀ v' M', Gr t I e v' (xs ++ [y]) M' → K v' (M' ++ N) I) :
    Eff P n C env L I ⟨some d, .call ⟨.builtin .append, #[s, x], #[ts, ts]⟩, ty, ps, af, g⟩ K := by
  obtain ⟨cs, hG1, hC⟩ := hG
  refine Eff.append hE hs hx hL hG1 (q := 1) (news := news) (fun W hi => ?_) hbytes h63 fun v' M' h => next v' M' ⟨cs ++ news, by simpa using h, hC.append (Cells.one hr)⟩
  have hW := hi.fits.own b _ hb
  exact Src.ofSlice W hE.under ⟨b, 0, none⟩ 1 1 news (by rw [t.len hr]; simp) (fun j u hu => by rw [add_off, cell_blk hW]; simpa using hu) (one_spec h1)
theorem Run.retCTK (T : Tab P) (j : Nat) {fn : Func} {t u b m : Nat} {x : Value} {vs cs : List Value} {rt t' : TypeId} {todo : List Item} {L' : Own} (hfn : P.funcs[C.f]? = some fn) (hres : fn.results = #[.cell t rt, .tmp u]) (hp : look env t = some (.pointer (some ⟨b, 0, none⟩)))
    (hL : L[j]? = some (b, blk cs t')) (ha : T.agg rt = some true) (hs : T.size rt = some m) (hv : (cs.drop 0).take m = vs) (hm : vs.length = m) (hu : look env u = some x) (hsub : L'.Sublist L) (h : C.R (.tuple #[.agg vs.toArray, x]) I L') : Run P n C (.code .ret :: todo) env L I := by
  intro bb a cs' W hb hk he hi
  have hr : (results fn a.tmps).run P W = .ok (.tuple #[.agg vs.toArray, x]) W := by
    have h1 := run_cellN T hi hL ha hs hv hm
    have hp' : a.tmps.getD t undef = .pointer (some ⟨b, 0, none⟩) := he.getD hp
    rw [results_cell_tmp hres, hp', he.getD hu]
    simp [asAddr, h1]
  exact ⟨.returned (.tuple #[.agg vs.toArray, x]), W, _, ⟨_, I, L', rfl, h, hi.weakenL hsub⟩, Steps.one step_ret, hb, rfl, he.defers, hk, fn, by simpa [Frame.at, hb] using hfn, hr⟩
end
end Go.V
namespace Go.V
open Go.RowKit
set_option linter.unusedVariables false
set_option linter.unusedSimpArgs false
section
variable {P : Program} {md : Region.Mode} {ops : Array Oper} {Q : Exit → Act → World → Prop} {S : Array Bool → World → Prop} {T : World → Prop}
def wpAnyL (P : Program) (md : Region.Mode) (ops : Array Oper) (Q : Exit → Act → World → Prop) (S : Array Bool → World → Prop) : Nat → Array Bool → Act → World → Prop
  | 0, done, a, w => Region.ready md ops done = [] ∧ Q .normal a w
  | n + 1, done, a, w => (Region.ready md ops done = [] → Q .normal a w) ∧
    ∀ i ∈ Region.ready md ops done, wpOp P ops Q i (fun a' w' => S (done.setIfInBounds i true) w' ∧ wpAnyL P md ops Q S n (done.setIfInBounds i true) a' w') a w
theorem wpAny_of_L : ∀ (n : Nat) (done : Array Bool) (a : Act) (w : World), wpAnyL P md ops Q S n done a w → wpAny P md ops Q n done a w
  | 0, _, _, _, h => h
  | n + 1, _, _, _, h => ⟨h.1, fun i hi => wpOp_mono (fun a' w' h' => wpAny_of_L n _ a' w' h'.2) (h.2 i hi)⟩
theorem wpAnyL_first {i : Nat} {oi : Oper} {v : Value} (hi : ops[i]? = some oi) (hsel : ∀ (j : Nat) (o : Oper) cs b, ops[j]? = some o → o.op ≠ .select cs b)
    (hQ : ∀ c a w, Q (.panic c) (a.put oi.dst v) w → Q (.panic c) a w) (hS : ∀ l w, S l w ↔ S (l.setIfInBounds i true) w) (hT : ∀ l w, Cl md ops l → l.getD i true = false → S l w → T w) :
    ∀ (n : Nat) (done : Array Bool) (a : Act) (w : World), Cl md ops done →
      (∀ j oj, ops[j]? = some oj → j ≠ i → done.getD j true = false → (∀ e ∈ oj.after, Region.binds md e = true → e.on ≠ i) → oi.apart ops oj = true) →
      i ∈ Region.ready md ops done → YieldsIf P ops T oi v a → S done w →
      wpAnyL P md ops Q S n (done.setIfInBounds i true) (a.put oi.dst v) w → wpAnyL P md ops Q S (n + 1) done a w := by
  intro n
  induction n with
  | zero =>
    intro done a w inv _ hr hy hSw H
    refine ⟨fun h => (by rw [h] at hr; cases hr), fun j hj => ?_⟩
    by_cases hji : j = i
    · subst hji; exact hy.wpOp hi (hT done w inv (mem_ready.1 hr).1 hSw) ⟨(hS _ _).1 hSw, H⟩
    · have := ready_mono hj hji
      rw [H.1] at this
      cases this
  | succ n ih =>
    intro done a w inv hfree hr hy hSw H
    refine ⟨fun h => (by rw [h] at hr; cases hr), fun j hj => ?_⟩
    by_cases hji : j = i
    · subst hji; exact hy.wpOp hi (hT done w inv (mem_ready.1 hr).1 hSw) ⟨(hS _ _).1 hSw, H⟩
    · have h1 := H.2 j (ready_mono hj hji)
      obtain ⟨hjun, oj, hoj, hall⟩ := mem_ready.1 hj
      have hnot : ∀ e ∈ oj.after, Region.binds md e = true → e.on ≠ i := fun e he hb heq => by
        have h1 := hall e he hb
        rw [heq, getD_both (mem_ready.1 hr).1] at h1
        cases h1
      have h2 := wpOp_putIf hoj (hfree j oj hoj hji hjun hnot) (fun cs b => hsel i oi cs b hi) (fun cs b => hsel j oj cs b hoj) hQ hy h1
      have hfree' : ∀ k ok, ops[k]? = some ok → k ≠ i → (done.setIfInBounds j true).getD k true = false →
          (∀ e ∈ ok.after, Region.binds md e = true → e.on ≠ i) → oi.apart ops ok = true := fun k ok hk hki hun hno => by
        refine hfree k ok hk hki ?_ hno
        by_cases hjk : j = k
        · subst hjk; exact hjun
        · rw [getD_set_ne true hjk] at hun; exact hun
      refine wpOp_mono (fun a' w' h3 => ?_) h2
      have h4 : S (done.setIfInBounds j true) w' := (hS _ _).2 (by rw [Array.setIfInBounds_comm _ _ hji]; exact h3.2.1)
      refine ⟨h4, ih (done.setIfInBounds j true) a' w' (inv.set hj) hfree' (ready_mono hr (Ne.symm hji)) h3.1 h4 ?_⟩
      rw [Array.setIfInBounds_comm _ _ hji]
      exact h3.2.2
theorem wpAnyL_done {done : Array Bool} {a : Act} {w : World} (hr : Region.ready md ops done = []) (h : Q .normal a w) : ∀ n, wpAnyL P md ops Q S n done a w
  | 0 => ⟨hr, h⟩
  | _ + 1 => ⟨fun _ => h, by rw [hr]; simp⟩
end
theorem mr {M X L : Own} {a b : Nat × Obj} (h : L = a :: b :: (M ++ X)) : ∀ x, x ∈ M → x ∈ L := fun x hx => h ▸ List.mem_cons_of_mem _ (List.mem_cons_of_mem _ (List.mem_append_left _ hx))
def SL (late : List Nat) (S1 S0 : World → Prop) (l : Array Bool) (w : World) : Prop := S1 w ∧ ((∀ j ∈ late, l.getD j false = false) → S0 w)
theorem SL.set {late : List Nat} {S1 S0 : World → Prop} {i : Nat} (hi : i ∉ late) (l : Array Bool) (w : World) : SL late S1 S0 l w ↔ SL late S1 S0 (l.setIfInBounds i true) w := by
  have e : ∀ j ∈ late, (l.setIfInBounds i true).getD j false = l.getD j false := fun j hj => getD_set_ne false (fun h => hi (h ▸ hj))
  unfold SL
  constructor
  · intro h; exact ⟨h.1, fun h2 => h.2 fun j hj => by rw [← e j hj]; exact h2 j hj⟩
  · intro h; exact ⟨h.1, fun h2 => h.2 fun j hj => by rw [e j hj]; exact h2 j hj⟩
def lateOk (ops : Array Oper) (late : List Nat) (i : Nat) : Bool := late.all fun j => match ops[j]? with
  | none => false
  | some o => o.after.toList.any fun e => Region.binds .any e && Nat.beq e.on i
theorem SL.at {ops : Array Oper} {late : List Nat} {S1 S0 : World → Prop} {i : Nat} (h : lateOk ops late i = true) (l : Array Bool) (w : World) (hc : Cl .any ops l) (hu : l.getD i true = false) (hS : SL late S1 S0 l w) : S0 w := by
  refine hS.2 fun j hj => ?_
  cases hl : l.getD j false with
  | false => rfl
  | true =>
    exfalso
    have := List.all_eq_true.1 h j hj
    split at this
    · cases this
    · rename_i o ho
      obtain ⟨e, he, hb⟩ := List.any_eq_true.1 this
      simp only [Bool.and_eq_true] at hb
      have h2 := hc.closed j o ho hl e (by simpa using he) hb.1
      rw [Nat.eq_of_beq_eq_true hb.2, getD_both hu] at h2
      cases h2
section
variable {P : Program} {n : Nat} {C : Cx} {k : List Item} {env : Env} {L : Own} {I : Imm} {ops : Array Oper} {late : List Nat} {S1 S : World → Prop}
variable {ty : TypeId} {ps : String} {af : Array Edge} {g : Option (Nat × Bool)} {d : Nat}
def RAnyL (P : Program) (n : Nat) (C : Cx) (ops : Array Oper) (late : List Nat) (S1 S : World → Prop) (k : List Item) (fuel : Nat) (listed : List Bool) (env : Env) (L : Own) (I : Imm) : Prop :=
  ∀ a W, EnvOk n env a → Inv C.w0 C.I0 C.L0 I L W → Cl .any ops listed.toArray → SL late S1 S listed.toArray W → wpAnyL P .any ops (Qk P n C k) (SL late S1 S) fuel listed.toArray a W
theorem Run.regionL {id : Nat} (late : List Nat) (S1 S : World → Prop) (listed : List Bool) (hm : P.follows .mixedOrders = true) (hl : (Array.replicate ops.size false) = listed.toArray) (hS : ∀ W, Inv C.w0 C.I0 C.L0 I L W → S1 W ∧ S W)
    (h : RAnyL P n C ops late S1 S k ops.size listed env L I) : Run P n C (.code (.region id ops true) :: k) env L I := by
  intro b a cs W hb hk he hi
  have hcl : Cl .any ops listed.toArray := by
    rw [← hl]
    exact ⟨by simp, fun j oj hj hlj => by
      exfalso
      simp only [Array.getD_eq_getD_getElem?, Array.getElem?_replicate] at hlj
      split at hlj <;> simp at hlj⟩
  have hw : (Code.region id ops true).wp P (Qk P n C k) a W := wp_region_any hm (wpAny_of_L _ _ _ _ (by
    rw [hl]
    exact h a _ he hi.drew hcl ⟨(hS _ hi.drew).1, fun _ => (hS _ hi.drew).2⟩))
  obtain ⟨e, a', W', hq, harr⟩ := hw b k cs
  cases e with
  | normal =>
    obtain ⟨env', L', I', he', hi', hrun⟩ := hq
    obtain ⟨e, W2, fr, h1, h2, h3⟩ := hrun b a' cs W' hb hk he' hi'
    exact ⟨e, W2, fr, h1, Comes.of_steps harr h2, h3⟩
  | _ => exact hq.elim
theorem RAnyL.done {listed : List Bool} (fuel : Nat) (hr : Region.ready .any ops listed.toArray = []) (h : Run P n C k env L I) : RAnyL P n C ops late S1 S k fuel listed env L I :=
  fun a W he hi _ _ => wpAnyL_done hr ⟨env, L, I, he, hi, h⟩ fuel
theorem RAnyL.perm {listed : List Bool} {fuel : Nat} {L' : Own} (hp : L.Perm L') (h : RAnyL P n C ops late S1 S k fuel listed env L' I) : RAnyL P n C ops late S1 S k fuel listed env L I := fun a W he hi hc hs => h a W he (hi.perm hp) hc hs
theorem RAnyL.dropL {listed : List Bool} {fuel : Nat} {L' : Own} (hp : L'.Sublist L) (h : RAnyL P n C ops late S1 S k fuel listed env L' I) : RAnyL P n C ops late S1 S k fuel listed env L I := fun a W he hi hc hs => h a W he (hi.weakenL hp) hc hs
theorem RAnyL.tk {listed : List Bool} {fuel : Nat} (j : Nat) {d : Nat} {op : Op} {v : Value} (listed' : List Bool) (hi : ops[j]? = some ⟨some d, op, ty, ps, af, g⟩) (ok : tkOk ops listed j listed' = true) (hd : d < n) (hlate : late.contains j = false) {T : World → Prop} (hT : (∀ W, S1 W → T W) ∨ (lateOk ops late j = true ∧ ∀ W, S W → T W)) (hy : Yld P n env ops T ⟨some d, op, ty, ps, af, g⟩ v)
    (h : RAnyL P n C ops late S1 S k fuel listed' ((d, v) :: env) L I) : RAnyL P n C ops late S1 S k (fuel + 1) listed env L I := by
  obtain ⟨h1, h2, h3, h4⟩ := tk_spec ok
  intro a W he hinv hc hs
  have hni : j ∉ late := fun hm => by
    have : late.contains j = true := List.contains_iff_mem.2 hm
    rw [this] at hlate; cases hlate
  have hr : j ∈ Region.ready .any ops listed.toArray := by simpa using h3
  refine wpAnyL_first (T := T) (v := v) hi (Region.noSelect_spec h1) (by intro c a w h; exact h.elim) (SL.set hni) (fun l w hcl hu hS => ?_) fuel listed.toArray a W hc (Region.free_spec hi h2) hr ?_ hs ?_
  · rcases hT with hT | ⟨hT, hST⟩
    · exact hT w hS.1
    · exact hST w (SL.at hT l w hcl hu hS)
  · rcases hy with ⟨hw, hv⟩ | ⟨hw, hv⟩
    · exact .inl ⟨want_spec he hw, fun w hSw => hv a w he hSw⟩
    · exact .inr ⟨want_spec he hw, hv⟩
  · rw [h4]
    exact h _ W (he.put (dOk hd)) hinv (by rw [← h4]; exact hc.set hr) (by rw [← h4]; exact (SL.set hni _ _).1 hs)
theorem RAnyL.all {listed : List Bool} {fuel : Nat} (rs : List Nat) (hr : Region.ready .any ops listed.toArray = rs) (hne : rs ≠ [])
    (h : ∀ j ∈ rs, ∃ o, ops[j]? = some o ∧ want env ops o.guard = some true ∧ (∀ t, o.dst = some t → t < n) ∧
      Eff P n C env L I o fun v L1 I1 => ((∀ W, Inv C.w0 C.I0 C.L0 I1 L1 W → S1 W) ∧ (late.contains j = true ∨ ∀ W, Inv C.w0 C.I0 C.L0 I1 L1 W → S W)) ∧ ∃ listed', listed.toArray.setIfInBounds j true = listed'.toArray ∧ RAnyL P n C ops late S1 S k fuel listed' (V.put env o.dst v) L1 I1) :
    RAnyL P n C ops late S1 S k (fuel + 1) listed env L I := by
  intro a W he hi hc hs
  refine ⟨fun h0 => absurd (hr ▸ h0) hne, ?_⟩
  rw [hr]
  intro j hj
  obtain ⟨o, ho, hw, hd, hE⟩ := h j hj
  have hjr : j ∈ Region.ready .any ops listed.toArray := hr ▸ hj
  have hsz : j < listed.toArray.size := by rw [hc.size]; exact (Array.getElem?_eq_some_iff.1 ho).1
  have key : ∀ v W1 L1 I1, Inv C.w0 C.I0 C.L0 I1 L1 W1 → ((∀ W, Inv C.w0 C.I0 C.L0 I1 L1 W → S1 W) ∧ (late.contains j = true ∨ ∀ W, Inv C.w0 C.I0 C.L0 I1 L1 W → S W)) → (∃ listed', listed.toArray.setIfInBounds j true = listed'.toArray ∧ RAnyL P n C ops late S1 S k fuel listed' (V.put env o.dst v) L1 I1) →
      SL late S1 S (listed.toArray.setIfInBounds j true) W1 ∧ wpAnyL P .any ops (Qk P n C k) (SL late S1 S) fuel (listed.toArray.setIfInBounds j true) (a.put o.dst v) W1 := by
    intro v W1 L1 I1 hi1 hS ⟨listed', hl, hR⟩
    have hSL : SL late S1 S (listed.toArray.setIfInBounds j true) W1 := by
      refine ⟨hS.1 W1 hi1, ?_⟩
      rcases hS.2 with hS | hS
      · intro hno
        have := hno j (List.contains_iff_mem.1 hS)
        simp only [Array.getD_eq_getD_getElem?, Array.getElem?_setIfInBounds_self_of_lt hsz, Option.getD_some] at this
        cases this
      · exact fun _ => hS W1 hi1
    exact ⟨hSL, by rw [hl]; exact hR _ W1 (he.put hd) hi1 (by rw [← hl]; exact hc.set hjr) (by rw [← hl]; exact hSL)⟩
  unfold wpOp
  simp only [ho, want_spec he hw, if_true]
  refine .inl ?_
  unfold Oper.wp
  rcases hE a W he hi with ⟨v, W1, L1, I1, hr, hi1, hS, hR⟩ | ⟨f, args, hr, hcall⟩
  · have hfin := key v W1 L1 I1 hi1 hS hR
    rcases hr with hr | ⟨hr, rfl⟩
    · rw [hr]; exact hfin
    · rw [hr]; exact hfin
  · rw [hr]
    refine hcall.mono ?_
    rintro e W1 ⟨v, L1, I1, rfl, hi1, hS, hR⟩
    exact key v W1 L1 I1 hi1 hS hR
theorem RAnyL.on {listed : List Bool} {fuel : Nat} (j : Nat) {d : Nat} {op : Op} (listed' : List Bool) (hi : ops[j]? = some ⟨some d, op, ty, ps, af, g⟩) (ok : oneOk ops listed j listed' = true) (hw : want env ops g = some true) (hd : d < n)
    (h : Eff P n C env L I ⟨some d, op, ty, ps, af, g⟩ fun v L1 I1 => ((∀ W, Inv C.w0 C.I0 C.L0 I1 L1 W → S1 W) ∧ (late.contains j = true ∨ ∀ W, Inv C.w0 C.I0 C.L0 I1 L1 W → S W)) ∧ RAnyL P n C ops late S1 S k fuel listed' ((d, v) :: env) L1 I1) : RAnyL P n C ops late S1 S k (fuel + 1) listed env L I := by
  obtain ⟨hr, hl⟩ := one_spec' ok
  refine RAnyL.all [j] hr (by simp) fun j' hj => ?_
  obtain rfl : j' = j := by simpa using hj
  refine ⟨_, hi, hw, dOk hd, fun a W he hin => ?_⟩
  rcases h a W he hin with ⟨v, W1, L1, I1, h1, h2, h3, h4⟩ | ⟨f, args, h1, h2⟩
  · exact .inl ⟨v, W1, L1, I1, h1, h2, h3, listed', hl, h4⟩
  · exact .inr ⟨f, args, h1, h2.mono fun e W' ⟨v, L1, I1, q1, q2, q3, q4⟩ => ⟨v, L1, I1, q1, q2, q3, listed', hl, q4⟩⟩
theorem RAnyL.os {listed : List Bool} {fuel : Nat} (j : Nat) {op : Op} (listed' : List Bool) (hi : ops[j]? = some ⟨none, op, ty, ps, af, g⟩) (ok : oneOk ops listed j listed' = true) (hw : want env ops g = some true)
    (h : Eff P n C env L I ⟨none, op, ty, ps, af, g⟩ fun v L1 I1 => ((∀ W, Inv C.w0 C.I0 C.L0 I1 L1 W → S1 W) ∧ (late.contains j = true ∨ ∀ W, Inv C.w0 C.I0 C.L0 I1 L1 W → S W)) ∧ RAnyL P n C ops late S1 S k fuel listed' env L1 I1) : RAnyL P n C ops late S1 S k (fuel + 1) listed env L I := by
  obtain ⟨hr, hl⟩ := one_spec' ok
  refine RAnyL.all [j] hr (by simp) fun j' hj => ?_
  obtain rfl : j' = j := by simpa using hj
  refine ⟨_, hi, hw, dNo, fun a W he hin => ?_⟩
  rcases h a W he hin with ⟨v, W1, L1, I1, h1, h2, h3, h4⟩ | ⟨f, args, h1, h2⟩
  · exact .inl ⟨v, W1, L1, I1, h1, h2, h3, listed', hl, h4⟩
  · exact .inr ⟨f, args, h1, h2.mono fun e W' ⟨v, L1, I1, q1, q2, q3, q4⟩ => ⟨v, L1, I1, q1, q2, q3, listed', hl, q4⟩⟩
theorem RAnyL.two {listed : List Bool} {fuel : Nat} (i j : Nat) {d1 d2 : Nat} {op1 op2 : Op} {ty1 ty2 : TypeId} {ps1 ps2 : String} {af1 af2 : Array Edge} {g1 g2 : Option (Nat × Bool)} (l1 l2 : List Bool)
    (h1 : ops[i]? = some ⟨some d1, op1, ty1, ps1, af1, g1⟩) (h2 : ops[j]? = some ⟨some d2, op2, ty2, ps2, af2, g2⟩) (ok : twoOk ops listed i j l1 l2 = true) (w1 : want env ops g1 = some true) (w2 : want env ops g2 = some true) (hd1 : d1 < n) (hd2 : d2 < n)
    (e1 : Eff P n C env L I ⟨some d1, op1, ty1, ps1, af1, g1⟩ fun v L1 I1 => ((∀ W, Inv C.w0 C.I0 C.L0 I1 L1 W → S1 W) ∧ (late.contains i = true ∨ ∀ W, Inv C.w0 C.I0 C.L0 I1 L1 W → S W)) ∧ RAnyL P n C ops late S1 S k fuel l1 ((d1, v) :: env) L1 I1)
    (e2 : Eff P n C env L I ⟨some d2, op2, ty2, ps2, af2, g2⟩ fun v L1 I1 => ((∀ W, Inv C.w0 C.I0 C.L0 I1 L1 W → S1 W) ∧ (late.contains j = true ∨ ∀ W, Inv C.w0 C.I0 C.L0 I1 L1 W → S W)) ∧ RAnyL P n C ops late S1 S k fuel l2 ((d2, v) :: env) L1 I1) : RAnyL P n C ops late S1 S k (fuel + 1) listed env L I := by
  simp only [twoOk, Bool.and_eq_true, beq_iff_eq] at ok
  obtain ⟨⟨hr, hs1⟩, hs2⟩ := ok
  refine RAnyL.all [i, j] hr (by simp) fun q hq => ?_
  have hq' : q = i ∨ q = j := by simpa using hq
  rcases hq' with rfl | rfl
  · refine ⟨_, h1, w1, dOk hd1, fun a W he hin => ?_⟩
    rcases e1 a W he hin with ⟨v, W1, L1, I1, q1, q2, q3, q4⟩ | ⟨f, args, q1, q2⟩
    · exact .inl ⟨v, W1, L1, I1, q1, q2, q3, l1, by rw [← hs1]; simp, q4⟩
    · exact .inr ⟨f, args, q1, q2.mono fun e W' ⟨v, L1, I1, p1, p2, p3, p4⟩ => ⟨v, L1, I1, p1, p2, p3, l1, by rw [← hs1]; simp, p4⟩⟩
  · refine ⟨_, h2, w2, dOk hd2, fun a W he hin => ?_⟩
    rcases e2 a W he hin with ⟨v, W1, L1, I1, q1, q2, q3, q4⟩ | ⟨f, args, q1, q2⟩
    · exact .inl ⟨v, W1, L1, I1, q1, q2, q3, l2, by rw [← hs2]; simp, q4⟩
    · exact .inr ⟨f, args, q1, q2.mono fun e W' ⟨v, L1, I1, p1, p2, p3, p4⟩ => ⟨v, L1, I1, p1, p2, p3, l2, by rw [← hs2]; simp, p4⟩⟩
end
end Go.V
namespace Go.V
open Go.RowKit
set_option linter.unusedVariables false
set_option linter.unusedSimpArgs false
section
variable {P : Program} {n : Nat} {C : Cx} {k : List Item} {env : Env} {L : Own} {I : Imm} {ops : Array Oper} {i : Nat} {l : List Oper} {S : World → Prop}
variable {ty : TypeId} {ps : String} {af : Array Edge} {g : Option (Nat × Bool)} {d : Nat}
def First (P : Program) (size q : Nat) (v : Value) (news : List Value) (W : World) : Prop := (Builtin.firstCells size q v).run P W = .ok news.toArray W
theorem First.sl {α : Type} {t : Ty α} {v : Value} {xs : List α} {q : Nat} (h : Sl t I v xs) (hq : q ≤ xs.length) : ∃ news, Cells t I news (xs.take q) ∧ ∀ W w0 I0 L0 L, Inv w0 I0 L0 I L W → First P t.size q v news W := by
  obtain ⟨A, c, rfl, hc, hrow⟩ := h
  rcases hrow with rfl | ⟨b, off, rfl, hrow⟩
  · simp at hq
    subst hq
    refine ⟨[], Cells.nil t I, fun W w0 I0 L0 L hi => ?_⟩
    cases A with
    | none => rfl
    | some a =>
      have := run_loadCells_list (P := P) W a [] (fun j v h => by simp at h)
      unfold First
      simp only [Builtin.firstCells, Nat.zero_mul]
      exact this
  · have hr2 : RowAt t I b off (xs.take q) := by
      have := hrow.cut 0 q
      simpa using this
    obtain ⟨news, hC, hA⟩ := hr2.cells
    refine ⟨news, hC, fun W w0 I0 L0 L hi => ?_⟩
    have hl : news.length = q * t.size := by rw [hC.flat_len, List.length_take, Nat.min_eq_left hq]
    have := run_loadCells_list (P := P) W ⟨b, off, none⟩ news (fun j v hv => by
      rw [add_off]
      rcases hA with h0 | hA
      · have : q = 0 := by
          have := congrArg List.length h0
          rw [List.length_take, Nat.min_eq_left hq] at this; simpa using this
        rw [this, Nat.zero_mul] at hl
        rw [List.eq_nil_of_length_eq_zero hl] at hv; simp at hv
      · exact hA.cell hi j v hv)
    unfold First
    simp only [Builtin.firstCells]
    rw [← hl]; exact this
end
end Go.V
namespace Go.V
open Go.RowKit
set_option linter.unusedVariables false
set_option linter.unusedSimpArgs false
section
variable {P : Program} {n : Nat} {C : Cx} {k : List Item} {env : Env} {L : Own} {I : Imm} {ops : Array Oper} {i : Nat} {l : List Oper} {S : World → Prop}
variable {ty : TypeId} {ps : String} {af : Array Edge} {g : Option (Nat × Bool)} {d : Nat}
theorem Ev.capV {ts e : TypeId} {x : Operand} {A : Option Addr} {m c : Nat} (T : Tab P) (hu : T.und ts = some (.slice e)) (hx : opnd env x = some (.slice A m c)) : Ev P n env (.call ⟨.builtin .cap, #[x], #[ts]⟩) (.int .i64 (c : Int)) :=
  fun a W he _ _ _ _ _ => by
    simp [execOp, resolve, invoke, builtin, Builtin.cap_, eval_opnd he hx, T.undOk hu, goInt]
theorem run_append_make {ts ti e : TypeId} {iE : TypeInfo} {kd : IntKind} (W : World) (ht : P.underlying ts = some (.slice e)) (hti : P.underlying ti = some (.int kd)) (hi : P.info? e = some iE) (hz : iE.zero = some (.int .u8 0)) (hs : iE.size = 1) (hb : iE.bytes = 1) (q : Nat) (h0 : 0 < q) (hq : q ≤ 140737488355328) :
    (Builtin.append_ #[ts, ti] ty #[.slice none 0 0, .int .i64 (q : Int)]).run P W =
      .ok (.slice (some ⟨W.heap.size, 0, none⟩) q (grownCap W q 0 e)) (W.drew.alloc (.cells (wb (List.replicate (grownCap W q 0 e) 0)).toArray e)) := by
  have hn : ¬ (q ≤ 0) := by omega
  have h63 : ¬ (9223372036854775807 < (q : Int)) := by omega
  have hw : IntKind.i64.wrap (q : Int) = q := wI (by omega) (by omega)
  have hneg : ¬ ((q : Int) < 0) := by omega
  have h48 : ¬ (281474976710656 < (q : Int)) := by omega
  have hnx : Builtin.nextslicecap q 0 = q := by unfold Builtin.nextslicecap; rw [if_pos (by omega)]
  have hq48 : ¬ (281474976710656 < q) := by omega
  have hai : (asInt (.int .i64 (q : Int))).run P W = .ok (q : Int) W := rfl
  have hq0 : q ≠ 0 := by omega
  have hge := grownCap_ge W q 0 e
  have hc : Builtin.zeroCells #[Value.int .u8 0] q ++ Builtin.zeroCells #[Value.int .u8 0] (grownCap W q 0 e - q) = (wb (List.replicate (grownCap W q 0 e) 0)).toArray := by
    apply Array.ext'
    rw [Array.toList_append, zeroCells_u8, zeroCells_u8, ← List.map_append, List.replicate_append_replicate, show q + (grownCap W q 0 e - q) = grownCap W q 0 e by omega]
  rw [← hc]
  simp [Builtin.append_, run_underlying ht, run_underlying hti, sizeOf, typeInfo, zeroValue, hi, hz, hs, hb, hn, h63, hw, hneg, h48, hnx, hq48, hq0, hai, Question.forced, newRow, grownCap, Builtin.firstCells, Value.cells]
theorem Ops.appMake {s x : Operand} {ts ti e : TypeId} {kd : IntKind} {q : Nat} (hE : Bt P ts e) (hti : P.underlying ti = some (.int kd)) (hg : want env ops g = some true) (hd : d < n) (hs : opnd env s = some (.slice none 0 0)) (hx : opnd env x = some (.int .i64 (q : Int))) (h0 : 0 < q) (hq : q ≤ 140737488355328)
    (next : ∀ b c, q ≤ c → c ≤ 9223372036854775807 → Ops P n C ops (i + 1) l k ((d, .slice (some ⟨b, 0, none⟩) q c) :: env) ((b, blk (wb (List.replicate c 0)) e) :: L) I) :
    Ops P n C ops i (⟨some d, .call ⟨.builtin .append, #[s, x], #[ts, ti]⟩, ty, ps, af, g⟩ :: l) k env L I :=
  Ops.valW hg (dOk hd) fun a0 W he hi => by
    obtain ⟨iE, z, hinfo, hzero, hs1, hb1, hzs⟩ := hE.el.info
    obtain ⟨iE', hinfo', hz'⟩ := hE.zero
    obtain rfl : iE' = iE := Option.some.inj (hinfo'.symm.trans hinfo)
    obtain rfl : z = .int .u8 0 := Option.some.inj (hzero.symm.trans hz')
    have hr : (Builtin.append_ #[ts, ti] ty #[.slice none 0 0, .int .i64 (q : Int)]).run P W = .ok (.slice (some ⟨W.heap.size, 0, none⟩) q (grownCap W q 0 e)) (W.drew.alloc (blk (wb (List.replicate (grownCap W q 0 e) 0)) e)) := run_append_make (P := P) (ty := ty) W hE.el.under hti hinfo hzero hs1 hb1 q h0 hq
    have hge := grownCap_ge W q 0 e
    have hle := grownCap_le_maxLen W q 0 e (by unfold maxLen; omega)
    refine ⟨.slice (some ⟨W.heap.size, 0, none⟩) q (grownCap W q 0 e), _, (W.heap.size, blk (wb (List.replicate (grownCap W q 0 e) 0)) e) :: L, I, .inl ?_, hi.drew.alloc _, next _ _ hge (by have : maxLen = 9223372036854775807 := rfl; omega)⟩
    simp [execOp, resolve, Go.invoke, builtin, eval_opnd he hs, eval_opnd he hx, hr]
theorem Ops.makeGr {α : Type} (t : Ty α) {x y : Operand} {ts e : TypeId} {kl kc : IntKind} {c bytes : Nat} (hE : Elem P ts e t.size bytes) (hg : want env ops g = some true) (hd : d < n) (hx : opnd env x = some (.int kl 0)) (hy : opnd env y = some (.int kc (c : Int))) (hc : c ≤ 65536) (hby : (bytes : Int) * (c : Int) ≤ 281474976710656)
    (next : ∀ b M, Gr t I e (.slice (some ⟨b, 0, none⟩) 0 c) [] M → Ops P n C ops (i + 1) l k ((d, .slice (some ⟨b, 0, none⟩) 0 c) :: env) (M ++ L) I) :
    Ops P n C ops i (⟨some d, .makeSlice ts x y, ty, ps, af, g⟩ :: l) k env L I :=
  Ops.valW hg (dOk hd) fun a0 W he hi => by
    obtain ⟨iE, z, hinfo, hzero, hs1, hb1, hzs⟩ := hE.info
    have hr := run_make (P := P) W ts e iE _ hE.under hinfo hzero kl kc 0 (c : Int) (by omega) (by omega) (by rw [hb1]; exact hby) (by omega)
    rw [hs1, Int.toNat_natCast] at hr
    refine ⟨.slice (some ⟨W.heap.size, 0, none⟩) 0 c, _, (W.heap.size, .cells (madeCells z.cells (c * t.size)) e) :: L, I, .inl ?_, hi.alloc _, next W.heap.size [(W.heap.size, .cells (madeCells z.cells (c * t.size)) e)] ⟨[], ⟨by simp, .inr ⟨W.heap.size, c, _, rfl, rfl, Nat.zero_le _, ?_, by simp⟩⟩, Cells.nil t I⟩⟩
    · simp only [execOp, eval_opnd he hx, eval_opnd he hy, Sem.run_bind, hr, Result.andThen_ok]; rfl
    · simp [madeCells]
theorem Ops.eqlSame {x y : Operand} {ti t' tp te : TypeId} {ms : Array (String × TypeId)} {ii jj : TypeInfo} {a0 : Addr} (h1 : P.underlying ti = some (.interface ms)) (h2 : P.underlying tp = some (.pointer te)) (h3 : P.info? tp = some ii) (h4 : ii.comparable = true) (h5 : P.info? te = some jj)
    (hg : want env ops g = some true) (hd : d < n) (hx : opnd env x = some (.iface tp (.pointer (some a0)))) (hy : opnd env y = some (.iface tp (.pointer (some a0))))
    (next : Ops P n C ops (i + 1) l k ((d, .bool true) :: env) L I) : Ops P n C ops i (⟨some d, .binOp .eql ti x y t', ty, ps, af, g⟩ :: l) k env L I :=
  Ops.val hg (dOk hd) (fun a W he hi => by
    have e1 := run_equalIn_iface_ptr_same (P := P) W 9998 a0 h1 h2 h3 h4 h5
    have h6 : ∀ c d : Value, (eqGuard .eql ti x y (.iface tp c) d).run P W = .ok () W := fun c d => rfl
    simp [execOp, eval_opnd he hx, eval_opnd he hy, binOp, Op.equal, Op.maxDepth, e1, h6]) next
end
end Go.V
namespace Go.V
open Go.RowKit
set_option linter.unusedVariables false
set_option linter.unusedSimpArgs false
section
variable {P : Program} {n : Nat} {C : Cx} {k : List Item} {env : Env} {L : Own} {I : Imm} {ops : Array Oper} {i : Nat} {l : List Oper} {S : World → Prop}
variable {ty : TypeId} {ps : String} {af : Array Edge} {g : Option (Nat × Bool)} {d : Nat}
theorem Ops.rangeNil {x : Operand} {ts kt et : TypeId} (T : Tab P) (hg : want env ops g = some true) (hd : d < n) (hu : T.und ts = some (.map kt et)) (hx : opnd env x = some (.map none))
    (next : ∀ b, Ops P n C ops (i + 1) l k ((d, .pointer (some ⟨b, 0, none⟩)) :: env) ((b, .mapIter none 0 #[] 0) :: L) I) : Ops P n C ops i (⟨some d, .range ts x, ty, ps, af, g⟩ :: l) k env L I :=
  Ops.valW hg (dOk hd) fun a W he hi => ⟨.pointer (some ⟨W.heap.size, 0, none⟩), W.alloc (.mapIter none 0 #[] 0), (W.heap.size, .mapIter none 0 #[] 0) :: L, I,
    .inl (by
      have : ({ W with heap := W.heap.push (.mapIter none 0 #[] 0) } : World) = W.alloc (.mapIter none 0 #[] 0) := rfl
      simp [execOp, Instr.range, eval_opnd he hx, T.undOk hu, newObj, Sem.run, this]), hi.alloc _, next _⟩
theorem Ops.nextNil {x : Operand} {b s c : Nat} {seen : Array Nat} (j : Nat) (hg : want env ops g = some true) (hd : d < n) (hx : opnd env x = some (.pointer (some ⟨b, 0, none⟩))) (hL : L[j]? = some (b, .mapIter none s seen c))
    (next : Ops P n C ops (i + 1) l k ((d, .tuple #[.bool false]) :: env) L I) : Ops P n C ops i (⟨some d, .next x false, ty, ps, af, g⟩ :: l) k env L I :=
  Ops.val hg (dOk hd) (fun a W he hi => by
    have hW := hi.fits.own b _ (List.mem_of_getElem? hL)
    simp only [execOp, eval_opnd he hx, Instr.next, Sem.run_bind, run_getObj hW (fun _ _ _ h => by cases h), Result.andThen_ok]
    rfl) next
end
end Go.V
namespace Go.V
set_option linter.unusedVariables false
set_option linter.unusedSimpArgs false
set_option maxRecDepth 10000
inductive JV where
  | mk (kind : UInt8) (plain : Bool) (text : List UInt8) (kids : List JV) (keys : List (List UInt8))
def JV.kind : JV → UInt8 | mk k _ _ _ _ => k
def JV.plain : JV → Bool | mk _ p _ _ _ => p
def JV.text : JV → List UInt8 | mk _ _ t _ _ => t
def JV.kids : JV → List JV | mk _ _ _ k _ => k
def JV.keys : JV → List (List UInt8) | mk _ _ _ _ k => k
abbrev Bs := List UInt8
def isBl (c : UInt8) : Bool := c == 32 || c == 9 || c == 10 || c == 13
def skipB (s : Bs) : Bs := s.dropWhile isBl
def wordR (w s : Bs) : Option Bs := if s.take w.length = w then some (s.drop w.length) else none
def hexV (c : UInt8) : Option Nat :=
  if 48 ≤ c.toNat ∧ c.toNat ≤ 57 then some (c.toNat - 48) else if 97 ≤ c.toNat ∧ c.toNat ≤ 102 then some (c.toNat - 87) else if 65 ≤ c.toNat ∧ c.toNat ≤ 70 then some (c.toNat - 55) else none
def unitR : Nat → Nat → Bs → Option (Nat × Bs)
  | 0, x, s => some (x, s)
  | _ + 1, _, [] => none
  | k + 1, x, c :: s => match hexV c with
    | none => none
    | some d => unitR k (x * 16 + d) s
def escU (s : Bs) : Option (Nat × Bs) := match unitR 4 0 s with
  | none => none
  | some (x, s1) => if 55296 ≤ x ∧ x < 56320 then match wordR [92, 117] s1 with
      | none => some (x, s1)
      | some s2 => match unitR 4 0 s2 with
        | none => none
        | some (y, s3) => if 56320 ≤ y ∧ y < 57344 then some (65536 + (x - 55296) * 1024 + (y - 56320), s3) else some (x, s1)
    else some (x, s1)
def escR (c : UInt8) (s : Bs) : Option (Bs × Bs) :=
  if c = 34 ∨ c = 92 ∨ c = 47 then some ([c], s)
  else if c = 98 then some ([8], s) else if c = 102 then some ([12], s) else if c = 110 then some ([10], s) else if c = 114 then some ([13], s) else if c = 116 then some ([9], s)
  else if c = 117 then (escU s).map fun p => (encR p.1, p.2)
  else none
def textR : Nat → Bs → Bs → Option (Bs × Bs)
  | 0, _, _ => none
  | _ + 1, [], _ => none
  | n + 1, c :: s, out =>
    if c = 34 then some (out, s)
    else if c.toNat < 32 then none
    else if c = 92 then match s with
      | [] => none
      | d :: t => match escR d t with
        | none => none
        | some (x, r) => textR n r (out ++ x)
    else textR n ((c :: s).drop (runeAt (c :: s) 0).2) (out ++ encR (runeAt (c :: s) 0).1)
def strR (s : Bs) : Option (Bs × Bs) := textR (s.length + 1) s []
def isDg (c : UInt8) : Bool := decide (48 ≤ c.toNat) && decide (c.toNat ≤ 57)
def digsR (s : Bs) : Option Bs := match s with
  | [] => none
  | c :: t => if isDg c then some (t.dropWhile isDg) else none
def numR1 (s : Bs) : Bs := (wordR [45] s).getD s
def numR2 (s : Bs) : Option Bs := match wordR [48] s with
  | some r => some r
  | none => digsR s
def numR3 (s : Bs) : Option Bs := match wordR [46] s with
  | some r => digsR r
  | none => some s
def numR4 (s : Bs) : Option Bs := match wordR [101] s with
  | some r => digsR ((wordR [43] r).getD (numR1 r))
  | none => match wordR [69] s with
    | some r => digsR ((wordR [43] r).getD (numR1 r))
    | none => some s
def numR (s : Bs) : Option Bs := ((numR2 (numR1 s)).bind numR3).bind numR4
def elemsR (val : Bs → Option (JV × Bs)) : Nat → Bs → List JV → Option (List JV × Bs)
  | 0, _, _ => none
  | n + 1, s, acc => match val s with
    | none => none
    | some (x, s1) => match skipB s1 with
      | [] => none
      | c :: s2 => if c = 93 then some (acc ++ [x], s2) else if c = 44 then elemsR val n s2 (acc ++ [x]) else none
def keyR (s : Bs) : Option (Bs × Bs) := match skipB s with
  | [] => none
  | c :: s1 => if c = 34 then match strR s1 with
      | none => none
      | some (k, s2) => match skipB s2 with
        | [] => none
        | c :: s3 => if c = 58 then some (k, s3) else none
    else none
def membsR (val : Bs → Option (JV × Bs)) : Nat → Bs → List Bs → List JV → Option (List Bs × List JV × Bs)
  | 0, _, _, _ => none
  | n + 1, s, ks, vs => match keyR s with
    | none => none
    | some (k, s1) => match val s1 with
      | none => none
      | some (x, s2) => match skipB s2 with
        | [] => none
        | c :: s3 => if c = 125 then some (ks ++ [k], vs ++ [x], s3) else if c = 44 then membsR val n s3 (ks ++ [k]) (vs ++ [x]) else none
def objR (val : Bs → Option (JV × Bs)) (t : Bs) : Option (JV × Bs) := match wordR [125] (skipB t) with
  | some r => some (.mk 123 false [] [] [], r)
  | none => (membsR val (t.length + 1) (skipB t) [] []).map fun p => (.mk 123 false [] p.2.1 p.1, p.2.2)
def listR (val : Bs → Option (JV × Bs)) (t : Bs) : Option (JV × Bs) := match wordR [93] (skipB t) with
  | some r => some (.mk 91 false [] [] [], r)
  | none => (elemsR val (t.length + 1) (skipB t) []).map fun p => (.mk 91 false [] p.1 [], p.2)
def eaten (s r : Bs) : Bs := s.take (s.length - r.length)
def stepR (sub : Option (Bs → Option (JV × Bs))) (s : Bs) : Option (JV × Bs) := match skipB s with
  | [] => none
  | c :: t =>
    if c = 123 then sub.bind fun v => objR v t
    else if c = 91 then sub.bind fun v => listR v t
    else if c = 34 then (strR t).map fun p => (.mk 34 ((eaten (c :: t) p.2).all fun b => !(b == 92)) p.1 [] [], p.2)
    else if c = 116 then (wordR [116, 114, 117, 101] (c :: t)).map fun r => (.mk 116 false [] [] [], r)
    else if c = 102 then (wordR [102, 97, 108, 115, 101] (c :: t)).map fun r => (.mk 102 false [] [] [], r)
    else if c = 110 then (wordR [110, 117, 108, 108] (c :: t)).map fun r => (.mk 110 false [] [] [], r)
    else (numR (c :: t)).map fun r => (.mk 48 false (eaten (c :: t) r) [] [], r)
def rdV : Nat → Bs → Option (JV × Bs)
  | 0, s => stepR none s
  | f + 1, s => stepR (some (rdV f)) s
def Sfx (r s : Bs) : Prop := ∃ u, s = u ++ r
theorem Sfx.refl (s : Bs) : Sfx s s := ⟨[], rfl⟩
theorem Sfx.trans {a b c : Bs} (h : Sfx a b) (k : Sfx b c) : Sfx a c := by
  obtain ⟨u, rfl⟩ := h
  obtain ⟨v, rfl⟩ := k
  exact ⟨v ++ u, by simp⟩
theorem Sfx.cons (c : UInt8) (s : Bs) : Sfx s (c :: s) := ⟨[c], rfl⟩
theorem Sfx.len {r s : Bs} (h : Sfx r s) : r.length ≤ s.length := by obtain ⟨u, rfl⟩ := h; simp
theorem Sfx.drop {r s : Bs} (h : Sfx r s) : s.drop (s.length - r.length) = r := by obtain ⟨u, rfl⟩ := h; simp
theorem Sfx.dropN (s : Bs) (k : Nat) : Sfx (s.drop k) s := ⟨s.take k, (List.take_append_drop k s).symm⟩
theorem skip_sfx (s : Bs) : Sfx (skipB s) s := ⟨s.takeWhile isBl, List.takeWhile_append_dropWhile.symm⟩
theorem word_sfx {w s r : Bs} (h : wordR w s = some r) : Sfx r s ∧ s = w ++ r := by
  unfold wordR at h
  split at h
  · rename_i e
    cases h
    exact ⟨Sfx.dropN _ _, by have := List.take_append_drop w.length s; rw [e] at this; exact this.symm⟩
  · cases h
theorem word_app (w r : Bs) : wordR w (w ++ r) = some r := by
  unfold wordR; simp
theorem word1 (c : UInt8) (t : Bs) : wordR [c] (c :: t) = some t := word_app [c] t
theorem unit_sfx : ∀ (k x : Nat) (s : Bs) {y : Nat} {r : Bs}, unitR k x s = some (y, r) → Sfx r s
  | 0, x, s, y, r, h => by simp only [unitR, Option.some.injEq, Prod.mk.injEq] at h; rw [h.2]; exact Sfx.refl _
  | k + 1, x, [], y, r, h => by simp [unitR] at h
  | k + 1, x, c :: s, y, r, h => by
    simp only [unitR] at h
    split at h
    · cases h
    · exact (unit_sfx k _ s h).trans (Sfx.cons _ _)
theorem escU_sfx {s r : Bs} {x : Nat} (h : escU s = some (x, r)) : Sfx r s := by
  have out : ∀ {y z : Nat} {a b : Bs}, (some (y, a) : Option (Nat × Bs)) = some (z, b) → a = b := fun h => (Prod.mk.inj (Option.some.inj h)).2
  unfold escU at h
  split at h
  · exact absurd h (by simp)
  · rename_i y s1 h1
    have k1 := unit_sfx _ _ _ h1
    split at h
    · split at h
      · rw [← out h]; exact k1
      · rename_i s2 h2
        have k2 := (word_sfx h2).1
        split at h
        · exact absurd h (by simp)
        · rename_i z s3 h3
          have k3 := unit_sfx _ _ _ h3
          split at h
          · rw [← out h]; exact (k3.trans k2).trans k1
          · rw [← out h]; exact k1
    · rw [← out h]; exact k1
theorem escR_sfx {c : UInt8} {s x r : Bs} (h : escR c s = some (x, r)) : Sfx r s := by
  have out : ∀ {y z : Bs} {a b : Bs}, (some (y, a) : Option (Bs × Bs)) = some (z, b) → a = b := fun h => (Prod.mk.inj (Option.some.inj h)).2
  unfold escR at h
  split at h
  · rw [← out h]; exact Sfx.refl _
  split at h
  · rw [← out h]; exact Sfx.refl _
  split at h
  · rw [← out h]; exact Sfx.refl _
  split at h
  · rw [← out h]; exact Sfx.refl _
  split at h
  · rw [← out h]; exact Sfx.refl _
  split at h
  · rw [← out h]; exact Sfx.refl _
  split at h
  · cases he : escU s with
    | none => rw [he] at h; exact absurd h (by simp)
    | some p =>
      obtain ⟨y, q⟩ := p
      rw [he] at h
      rw [← out h]; exact escU_sfx he
  · exact absurd h (by simp)
theorem text_sfx : ∀ (n : Nat) (s out : Bs) {t r : Bs}, textR n s out = some (t, r) → Sfx r s ∧ r.length < s.length
  | 0, s, out, t, r, h => by simp [textR] at h
  | n + 1, [], out, t, r, h => by simp [textR] at h
  | n + 1, c :: s, out, t, r, h => by
    simp only [textR] at h
    split at h
    · cases h; exact ⟨Sfx.cons _ _, by simp⟩
    split at h
    · cases h
    split at h
    · cases s with
      | nil => simp at h
      | cons d u =>
        simp only at h
        split at h
        · cases h
        · rename_i x r' he
          obtain ⟨k1, k2⟩ := text_sfx n _ _ h
          have k3 := escR_sfx he
          exact ⟨((k1.trans k3).trans (Sfx.cons _ _)).trans (Sfx.cons _ _), by have := k3.len; simp only [List.length_cons]; omega⟩
    · obtain ⟨k1, k2⟩ := text_sfx n _ _ h
      have := (Sfx.dropN (c :: s) (runeAt (c :: s) 0).2).len
      exact ⟨k1.trans (Sfx.dropN _ _), by omega⟩
theorem str_sfx {s t r : Bs} (h : strR s = some (t, r)) : Sfx r s ∧ r.length < s.length := text_sfx _ _ _ h
theorem digs_sfx {s r : Bs} (h : digsR s = some r) : Sfx r s ∧ r.length < s.length := by
  unfold digsR at h
  split at h
  · cases h
  · rename_i c t
    split at h
    · cases h
      have k : Sfx (t.dropWhile isDg) t := ⟨t.takeWhile isDg, List.takeWhile_append_dropWhile.symm⟩
      exact ⟨k.trans (Sfx.cons _ _), by have := k.len; simp only [List.length_cons]; omega⟩
    · cases h
theorem num1_sfx (s : Bs) : Sfx (numR1 s) s := by
  unfold numR1
  cases h : wordR [45] s with
  | none => exact Sfx.refl _
  | some r => exact (word_sfx h).1
theorem num2_sfx {s r : Bs} (h : numR2 s = some r) : Sfx r s ∧ r.length < s.length := by
  unfold numR2 at h
  split at h
  · rename_i q hq
    cases h
    obtain ⟨k1, k2⟩ := word_sfx hq
    exact ⟨k1, by rw [k2]; simp⟩
  · exact digs_sfx h
theorem num3_sfx {s r : Bs} (h : numR3 s = some r) : Sfx r s := by
  unfold numR3 at h
  split at h
  · rename_i q hq
    exact (digs_sfx h).1.trans (word_sfx hq).1
  · cases h; exact Sfx.refl _
theorem sgn_sfx (s : Bs) : Sfx ((wordR [43] s).getD (numR1 s)) s := by
  cases h : wordR [43] s with
  | none => exact num1_sfx s
  | some r => exact (word_sfx h).1
theorem num4_sfx {s r : Bs} (h : numR4 s = some r) : Sfx r s := by
  unfold numR4 at h
  split at h
  · rename_i q hq
    exact ((digs_sfx h).1.trans (sgn_sfx q)).trans (word_sfx hq).1
  · split at h
    · rename_i q hq
      exact ((digs_sfx h).1.trans (sgn_sfx q)).trans (word_sfx hq).1
    · cases h; exact Sfx.refl _
theorem num_sfx {s r : Bs} (h : numR s = some r) : Sfx r s ∧ r.length < s.length := by
  unfold numR at h
  cases h2 : numR2 (numR1 s) with
  | none => rw [h2] at h; cases h
  | some a =>
    rw [h2, Option.bind_some] at h
    cases h3 : numR3 a with
    | none => rw [h3] at h; cases h
    | some b =>
      rw [h3, Option.bind_some] at h
      obtain ⟨k1, k2⟩ := num2_sfx h2
      have k3 := num3_sfx h3
      have k4 := num4_sfx h
      have k0 := num1_sfx s
      exact ⟨((k4.trans k3).trans k1).trans k0, by have := k4.len; have := k3.len; have := k0.len; omega⟩
def Fwd (val : Bs → Option (JV × Bs)) : Prop := ∀ {s v r}, val s = some (v, r) → Sfx r s ∧ r.length < s.length
theorem elems_sfx {val : Bs → Option (JV × Bs)} (hv : Fwd val) : ∀ (n : Nat) (s : Bs) (acc : List JV) {l : List JV} {r : Bs}, elemsR val n s acc = some (l, r) → Sfx r s ∧ r.length < s.length
  | 0, s, acc, l, r, h => by simp [elemsR] at h
  | n + 1, s, acc, l, r, h => by
    simp only [elemsR] at h
    split at h
    · cases h
    · rename_i x s1 h1
      obtain ⟨k1, k2⟩ := hv h1
      have k3 := skip_sfx s1
      split at h
      · cases h
      · rename_i c s2 h2
        rw [h2] at k3
        have k4 := k3.len
        simp only [List.length_cons] at k4
        have k5 := ((Sfx.cons c s2).trans k3).trans k1
        split at h
        · cases h; exact ⟨k5, by omega⟩
        · split at h
          · obtain ⟨a, b⟩ := elems_sfx hv n _ _ h
            exact ⟨a.trans k5, by omega⟩
          · cases h
theorem key_sfx {s k r : Bs} (h : keyR s = some (k, r)) : Sfx r s ∧ r.length < s.length := by
  unfold keyR at h
  have k1 := skip_sfx s
  split at h
  · cases h
  · rename_i c s1 h1
    rw [h1] at k1
    have l1 := k1.len
    split at h
    · split at h
      · cases h
      · rename_i k' s2 h2
        obtain ⟨k2, l2⟩ := str_sfx h2
        have k3 := skip_sfx s2
        split at h
        · cases h
        · rename_i c' s3 h3
          rw [h3] at k3
          have l3 := k3.len
          split at h
          · cases h
            refine ⟨((((Sfx.cons c' _).trans k3).trans k2).trans (Sfx.cons c s1)).trans k1, ?_⟩
            simp only [List.length_cons] at l1 l3; omega
          · cases h
    · cases h
theorem membs_sfx {val : Bs → Option (JV × Bs)} (hv : Fwd val) : ∀ (n : Nat) (s : Bs) (ks : List Bs) (vs : List JV) {l : List Bs} {m : List JV} {r : Bs}, membsR val n s ks vs = some (l, m, r) → Sfx r s ∧ r.length < s.length
  | 0, s, ks, vs, l, m, r, h => by simp [membsR] at h
  | n + 1, s, ks, vs, l, m, r, h => by
    simp only [membsR] at h
    split at h
    · cases h
    · rename_i k s1 h1
      obtain ⟨k1, l1⟩ := key_sfx h1
      split at h
      · cases h
      · rename_i x s2 h2
        obtain ⟨k2, l2⟩ := hv h2
        have k3 := skip_sfx s2
        split at h
        · cases h
        · rename_i c s3 h3
          rw [h3] at k3
          have l3 := k3.len
          simp only [List.length_cons] at l3
          have k5 := (((Sfx.cons c s3).trans k3).trans k2).trans k1
          split at h
          · cases h; exact ⟨k5, by omega⟩
          · split at h
            · obtain ⟨a, b⟩ := membs_sfx hv n _ _ _ h
              exact ⟨a.trans k5, by omega⟩
            · cases h
theorem obj_sfx {val : Bs → Option (JV × Bs)} (hv : Fwd val) {t r : Bs} {v : JV} (h : objR val t = some (v, r)) : Sfx r t ∧ r.length ≤ t.length := by
  unfold objR at h
  split at h
  · rename_i q hq
    cases h
    have := (word_sfx hq).1.trans (skip_sfx t)
    exact ⟨this, this.len⟩
  · cases hm : membsR val (t.length + 1) (skipB t) [] [] with
    | none => rw [hm] at h; cases h
    | some p =>
      obtain ⟨a, b, c⟩ := p
      rw [hm] at h
      cases h
      have := (membs_sfx hv _ _ _ _ hm).1.trans (skip_sfx t)
      exact ⟨this, this.len⟩
theorem list_sfx {val : Bs → Option (JV × Bs)} (hv : Fwd val) {t r : Bs} {v : JV} (h : listR val t = some (v, r)) : Sfx r t ∧ r.length ≤ t.length := by
  unfold listR at h
  split at h
  · rename_i q hq
    cases h
    have := (word_sfx hq).1.trans (skip_sfx t)
    exact ⟨this, this.len⟩
  · cases hm : elemsR val (t.length + 1) (skipB t) [] with
    | none => rw [hm] at h; cases h
    | some p =>
      obtain ⟨a, c⟩ := p
      rw [hm] at h
      cases h
      have := (elems_sfx hv _ _ _ hm).1.trans (skip_sfx t)
      exact ⟨this, this.len⟩
theorem step_sfx {sub : Option (Bs → Option (JV × Bs))} (hs : ∀ v, sub = some v → Fwd v) {s r : Bs} {v : JV} (h : stepR sub s = some (v, r)) : Sfx r s ∧ r.length < s.length := by
  unfold stepR at h
  have k0 := skip_sfx s
  split at h
  · cases h
  · rename_i c t ht
    rw [ht] at k0
    have l0 := k0.len
    simp only [List.length_cons] at l0
    have kt : ∀ r : Bs, Sfx r t → Sfx r s ∧ r.length < s.length := fun r hr => ⟨(hr.trans (Sfx.cons c t)).trans k0, by have := hr.len; omega⟩
    have kw : ∀ (w r : Bs), w ≠ [] → wordR w (c :: t) = some r → Sfx r s ∧ r.length < s.length := fun w r hw hr => by
      obtain ⟨a, b⟩ := word_sfx hr
      refine ⟨a.trans k0, ?_⟩
      have := congrArg List.length b
      have : 0 < w.length := List.length_pos_iff.2 hw
      simp only [List.length_cons, List.length_append] at *; omega
    split at h
    · cases sub with
      | none => cases h
      | some val => exact kt _ (obj_sfx (hs val rfl) h).1
    split at h
    · cases sub with
      | none => cases h
      | some val => exact kt _ (list_sfx (hs val rfl) h).1
    split at h
    · cases hq : strR t with
      | none => rw [hq] at h; cases h
      | some p => rw [hq] at h; cases h; exact kt _ (str_sfx hq).1
    split at h
    · cases hq : wordR [116, 114, 117, 101] (c :: t) with
      | none => rw [hq] at h; cases h
      | some p => rw [hq] at h; cases h; exact kw _ _ (by decide) hq
    split at h
    · cases hq : wordR [102, 97, 108, 115, 101] (c :: t) with
      | none => rw [hq] at h; cases h
      | some p => rw [hq] at h; cases h; exact kw _ _ (by decide) hq
    split at h
    · cases hq : wordR [110, 117, 108, 108] (c :: t) with
      | none => rw [hq] at h; cases h
      | some p => rw [hq] at h; cases h; exact kw _ _ (by decide) hq
    · cases hq : numR (c :: t) with
      | none => rw [hq] at h; cases h
      | some p =>
        rw [hq] at h; cases h
        obtain ⟨a, b⟩ := num_sfx hq
        simp only [List.length_cons] at b
        exact ⟨a.trans k0, by omega⟩
theorem rdV_fwd : ∀ f, Fwd (rdV f)
  | 0 => fun h => step_sfx (fun _ h => by cases h) h
  | f + 1 => fun h => step_sfx (fun _ e => by cases e; exact rdV_fwd f) h
end Go.V
namespace Go.V
open Go.Proofs.Tryz
open Go.RowKit
set_option linter.unusedVariables false
set_option linter.unusedSimpArgs false
set_option maxRecDepth 10000
attribute [local irreducible] Run Ops
structure Pf where
  arch : List UInt8
  os : List UInt8
  ver : List UInt8
  var : List UInt8
deriving DecidableEq
def Pf.cs (p : Pf) (f g : Value) : List Value := [str p.arch, str p.os, str p.ver, str p.var, f, g]
abbrev Txts := List (List UInt8)
def fitL (xs : List (List UInt8)) : Prop := xs.length ≤ 2147483647 ∧ ∀ x ∈ xs, x.length ≤ 2147483647
theorem laws_zzFits12 (I : Imm) (xs : List (List UInt8)) (v : Value) (hS : Sl tStr I v xs) : Pure prog 34 [v] I fun w J => ∃ r, w = .bool r ∧ (r = true → fitL xs) := by
  refine Spec.enter 18 [(0, _)] func34 rfl ntmps34 (by simp) rfl ?_
  intro C hCf hR hCI
  repeat (first | refine Run.seq ?_ | refine Run.region ?_ | refine Ops.nil ?_ | refine Ops.pure T rfl (by decide) rfl ?_)
  refine Ops.lenSl (hS) rfl (by decide) rfl (T.undOk rfl) ?_
  repeat (first | refine Ops.nil ?_ | refine Ops.gtr rfl (by decide) rfl rfl ?_)
  refine Run.cond rfl rfl (fun h => ?_) (fun h => ?_)
  all_goals (try rw [h])
  all_goals (try simp only [decide_eq_true_eq, decide_eq_false_iff_not, Bool.not_eq_true', Bool.not_eq_false', Bool.and_eq_true, Bool.or_eq_true, Bool.and_eq_false_imp, Bool.or_eq_false_iff] at h)
  · skip
    repeat (first | refine Run.seq ?_ | refine Run.region ?_ | refine Ops.nil ?_ | refine Ops.pure T rfl (by decide) rfl ?_)
    refine Run.fin (Run.ret1 (by rw [hCf]; exact func34) results34 rfl (hR _ _ _ ?_))
    exact ⟨rfl, false, rfl, by simp⟩
  repeat (first | refine Run.seq ?_ | refine Run.region ?_ | refine Run.skip ?_ | refine Ops.pure T rfl (by decide) rfl ?_)
  refine Ops.lenSl (hS) rfl (by decide) rfl (T.undOk rfl) ?_
  repeat (first | refine Ops.nil ?_ | refine Run.block ?_ | refine Ops.pure T rfl (by decide) rfl ?_)
  refine Run.keep [8, 9, 10] [_, _, _] rfl ?_
  refine Run.rounds (fun m env L J => ∃ i : Nat, m = xs.length - i ∧ i ≤ xs.length ∧ (∀ x ∈ xs.take i, x.length ≤ 2147483647) ∧ env = [(8, v), (9, .int .i64 xs.length), (10, .int .i64 i)] ∧ L = [] ∧ J = I) xs.length ⟨0, by omega, by omega, by simp, rfl, rfl, rfl⟩ ?_
  rintro m env L J ⟨i, rfl, hi, hall, rfl, rfl, rfl⟩ ih
  repeat (first | refine Run.seq ?_ | refine Run.region ?_ | refine Ops.nil ?_ | refine Ops.lss rfl (by decide) rfl rfl ?_)
  refine Run.cond rfl rfl (fun h2 => ?_) (fun h2 => ?_)
  all_goals (try rw [h2])
  all_goals (try simp only [decide_eq_true_eq, decide_eq_false_iff_not, Bool.not_eq_true', Bool.not_eq_false', Bool.and_eq_true, Bool.or_eq_true, Bool.and_eq_false_imp, Bool.or_eq_false_iff] at h2)
  · skip
    repeat (first | refine Run.seq ?_ | refine Run.region ?_ | refine Run.skip ?_ | refine Run.block ?_)
    refine Ops.indexSl hS rfl (by decide) rfl rfl (T.undOk rfl) (T.sizeOk rfl) (by first | omega | (simp only [List.length_cons, List.length_nil] ; omega) | (simp; omega)) (by first | omega | (simp only [List.length_cons, List.length_nil] ; omega) | (simp; omega)) ?_
    rintro b_ off_ x cs_ hx hr_ hA_
    obtain rfl : cs_ = [_] := hr_
    refine Ops.loadI rfl (by decide) rfl hA_ (T.aggOk rfl) ?_
    rw [Int.toNat_natCast] at hx
    repeat (first | refine Run.seq ?_ | refine Run.region ?_ | refine Ops.nil ?_ | refine Ops.gtr rfl (by decide) rfl rfl ?_ | refine Ops.pure T rfl (by decide) rfl ?_ | refine Ops.lenS T rfl (by decide) rfl rfl ?_)
    refine Run.cond rfl rfl (fun h3 => ?_) (fun h3 => ?_)
    all_goals (try rw [h3])
    all_goals (try simp only [decide_eq_true_eq, decide_eq_false_iff_not, Bool.not_eq_true', Bool.not_eq_false', Bool.and_eq_true, Bool.or_eq_true, Bool.and_eq_false_imp, Bool.or_eq_false_iff] at h3)
    · skip
      repeat (first | refine Run.seq ?_ | refine Run.region ?_ | refine Ops.nil ?_ | refine Ops.pure T rfl (by decide) rfl ?_)
      refine Run.fin (Run.ret1 (by rw [hCf]; exact func34) results34 rfl (hR _ _ _ ?_))
      exact ⟨rfl, false, rfl, by simp⟩
    · skip
      repeat (first | refine Run.region ?_ | refine Ops.nil ?_ | refine Run.skip ?_ | refine Run.inBlock ?_ | refine Ops.add rfl (by decide) rfl rfl (wI (by first | omega | (simp only [List.length_cons, List.length_nil] ; omega) | (simp; omega)) (by first | omega | (simp only [List.length_cons, List.length_nil] ; omega) | (simp; omega))) ?_ | refine Ops.pure T rfl (by decide) rfl ?_)
      refine Run.keep [8, 9, 10] [_, _, _] rfl ?_
      refine ih (xs.length - (i + 1)) _ _ _ (by omega) ⟨i + 1, rfl, by omega, ?_, rfl, rfl, rfl⟩
      intro y hy
      rw [List.take_add_one, hx] at hy
      rcases List.mem_append.1 hy with hy | hy
      · exact hall y hy
      · simp at hy; subst hy; omega
  · have : i = xs.length := by omega
    subst this
    repeat (first | refine Run.seq ?_ | refine Run.region ?_ | refine Ops.nil ?_ | refine Run.exit rfl ?_ | refine Ops.pure T rfl (by decide) rfl ?_)
    refine Run.fin (Run.ret1 (by rw [hCf]; exact func34) results34 rfl (hR _ _ _ ?_))
    exact ⟨rfl, true, rfl, fun _ => ⟨by omega, by simpa using hall⟩⟩
abbrev K2 := List UInt8 × List UInt8
def tK2 : Ty K2 := ⟨2, fun _ cs x => cs = [str x.1, str x.2], fun h => by subst h; rfl, fun h _ => h⟩
abbrev PfL := Pf × Txts × Txts
def tPf : Ty PfL := ⟨6, fun I cs x => ∃ A a A' a', cs = x.1.cs (.slice A x.2.1.length a) (.slice A' x.2.2.length a') ∧ Sl tStr I (.slice A x.2.1.length a) x.2.1 ∧ Sl tStr I (.slice A' x.2.2.length a') x.2.2,
  fun h => by obtain ⟨A, a, A', a', h, _⟩ := h; subst h; rfl, fun h hle => by obtain ⟨A, a, A', a', h, h1, h2⟩ := h; exact ⟨A, a, A', a', h, h1.mono hle, h2.mono hle⟩⟩
theorem Sl.map {α β : Type} {t : Ty α} {t' : Ty β} {I : Imm} (φ : α → β) (hs : t'.size = t.size) (h : ∀ cs x, t.rel I cs x → t'.rel I cs (φ x)) {v : Value} {xs : List α} (hS : Sl t I v xs) : Sl t' I v (xs.map φ) := by
  obtain ⟨A, c, rfl, hc, hr⟩ := hS
  refine ⟨A, c, by simp, by simpa using hc, ?_⟩
  rcases hr with rfl | ⟨b, off, rfl, hrow⟩
  · exact .inl rfl
  · refine .inr ⟨b, off, rfl, ?_⟩
    intro i y hy
    rw [List.getElem?_map] at hy
    obtain ⟨x, hx, rfl⟩ := Option.map_eq_some_iff.1 hy
    obtain ⟨cs, h1, h2⟩ := hrow i x hx
    exact ⟨cs, h cs x h1, by rw [hs]; exact h2⟩
def fit2 (x : K2) : Prop := x.1.length ≤ 2147483647 ∧ x.2.length ≤ 2147483647
theorem laws_zzFits18 (I : Imm) (x : K2) : Pure prog 77 [.agg [str x.1, str x.2].toArray] I fun w J => ∃ r, w = .bool r ∧ (r = true → fit2 x) := by
  obtain ⟨x1, x2⟩ := x
  refine Spec.enter 11 [(0, _)] func77 rfl ntmps77 (by simp) rfl ?_
  intro C hCf hR hCI
  repeat (first | refine Run.seq ?_ | refine Run.region ?_)
  refine Ops.box rfl (by decide) rfl rfl (fun b => ?_)
  repeat (first | refine Run.seq ?_ | refine Run.region ?_ | refine Ops.nil ?_ | refine Ops.gtr rfl (by decide) rfl rfl ?_ | refine Ops.pure T rfl (by decide) rfl ?_ | refine Ops.lenS T rfl (by decide) rfl rfl ?_ | refine Ops.load 0 rfl (by decide) rfl rfl (T.aggOk rfl) rfl ?_)
  refine Run.cond rfl rfl (fun h1 => ?_) (fun h1 => ?_)
  all_goals (try rw [h1])
  all_goals (try simp only [decide_eq_true_eq, decide_eq_false_iff_not, Bool.not_eq_true', Bool.not_eq_false', Bool.and_eq_true, Bool.or_eq_true, Bool.and_eq_false_imp, Bool.or_eq_false_iff] at h1)
  · skip
    repeat (first | refine Run.seq ?_ | refine Run.region ?_ | refine Ops.nil ?_ | refine Ops.pure T rfl (by decide) rfl ?_)
    refine Run.fin (Run.ret1 (by rw [hCf]; exact func77) results77 rfl (hR _ _ _ ?_))
    exact ⟨rfl, false, rfl, by simp⟩
  repeat (first | refine Run.seq ?_ | refine Run.region ?_ | refine Ops.nil ?_ | refine Run.skip ?_ | refine Ops.gtr rfl (by decide) rfl rfl ?_ | refine Ops.pure T rfl (by decide) rfl ?_ | refine Ops.lenS T rfl (by decide) rfl rfl ?_ | refine Ops.load 0 rfl (by decide) rfl rfl (T.aggOk rfl) rfl ?_)
  refine Run.cond rfl rfl (fun h2 => ?_) (fun h2 => ?_)
  all_goals (try rw [h2])
  all_goals (try simp only [decide_eq_true_eq, decide_eq_false_iff_not, Bool.not_eq_true', Bool.not_eq_false', Bool.and_eq_true, Bool.or_eq_true, Bool.and_eq_false_imp, Bool.or_eq_false_iff] at h2)
  · skip
    repeat (first | refine Run.seq ?_ | refine Run.region ?_ | refine Ops.nil ?_ | refine Ops.pure T rfl (by decide) rfl ?_)
    refine Run.fin (Run.ret1 (by rw [hCf]; exact func77) results77 rfl (hR _ _ _ ?_))
    exact ⟨rfl, false, rfl, by simp⟩
  repeat (first | refine Run.seq ?_ | refine Run.region ?_ | refine Ops.nil ?_ | refine Run.skip ?_ | refine Ops.pure T rfl (by decide) rfl ?_)
  refine Run.fin (Run.ret1 (by rw [hCf]; exact func77) results77 rfl (hR _ _ _ ?_))
  exact ⟨rfl, true, rfl, fun _ => ⟨by simp only; omega, by simp only; omega⟩⟩
theorem laws_zzFits14 (I : Imm) (x : K2) : Pure prog 95 [.agg [str x.1, str x.2].toArray] I fun w J => ∃ r, w = .bool r ∧ (r = true → fit2 x) := by
  obtain ⟨x1, x2⟩ := x
  refine Spec.enter 11 [(0, _)] func95 rfl ntmps95 (by simp) rfl ?_
  intro C hCf hR hCI
  repeat (first | refine Run.seq ?_ | refine Run.region ?_)
  refine Ops.box rfl (by decide) rfl rfl (fun b => ?_)
  repeat (first | refine Run.seq ?_ | refine Run.region ?_ | refine Ops.nil ?_ | refine Ops.gtr rfl (by decide) rfl rfl ?_ | refine Ops.pure T rfl (by decide) rfl ?_ | refine Ops.lenS T rfl (by decide) rfl rfl ?_ | refine Ops.load 0 rfl (by decide) rfl rfl (T.aggOk rfl) rfl ?_)
  refine Run.cond rfl rfl (fun h1 => ?_) (fun h1 => ?_)
  all_goals (try rw [h1])
  all_goals (try simp only [decide_eq_true_eq, decide_eq_false_iff_not, Bool.not_eq_true', Bool.not_eq_false', Bool.and_eq_true, Bool.or_eq_true, Bool.and_eq_false_imp, Bool.or_eq_false_iff] at h1)
  · skip
    repeat (first | refine Run.seq ?_ | refine Run.region ?_ | refine Ops.nil ?_ | refine Ops.pure T rfl (by decide) rfl ?_)
    refine Run.fin (Run.ret1 (by rw [hCf]; exact func95) results95 rfl (hR _ _ _ ?_))
    exact ⟨rfl, false, rfl, by simp⟩
  repeat (first | refine Run.seq ?_ | refine Run.region ?_ | refine Ops.nil ?_ | refine Run.skip ?_ | refine Ops.gtr rfl (by decide) rfl rfl ?_ | refine Ops.pure T rfl (by decide) rfl ?_ | refine Ops.lenS T rfl (by decide) rfl rfl ?_ | refine Ops.load 0 rfl (by decide) rfl rfl (T.aggOk rfl) rfl ?_)
  refine Run.cond rfl rfl (fun h2 => ?_) (fun h2 => ?_)
  all_goals (try rw [h2])
  all_goals (try simp only [decide_eq_true_eq, decide_eq_false_iff_not, Bool.not_eq_true', Bool.not_eq_false', Bool.and_eq_true, Bool.or_eq_true, Bool.and_eq_false_imp, Bool.or_eq_false_iff] at h2)
  · skip
    repeat (first | refine Run.seq ?_ | refine Run.region ?_ | refine Ops.nil ?_ | refine Ops.pure T rfl (by decide) rfl ?_)
    refine Run.fin (Run.ret1 (by rw [hCf]; exact func95) results95 rfl (hR _ _ _ ?_))
    exact ⟨rfl, false, rfl, by simp⟩
  repeat (first | refine Run.seq ?_ | refine Run.region ?_ | refine Ops.nil ?_ | refine Run.skip ?_ | refine Ops.pure T rfl (by decide) rfl ?_)
  refine Run.fin (Run.ret1 (by rw [hCf]; exact func95) results95 rfl (hR _ _ _ ?_))
  exact ⟨rfl, true, rfl, fun _ => ⟨by simp only; omega, by simp only; omega⟩⟩
theorem laws_zzFits17 (I : Imm) (xs : List K2) (v : Value) (hS : Sl tK2 I v xs) : Pure prog 32 [v] I fun w J => ∃ r, w = .bool r ∧ (r = true → xs.length ≤ 2147483647 ∧ ∀ x ∈ xs, fit2 x) := by
  refine Spec.enter 18 [(0, _)] func32 rfl ntmps32 (by simp) rfl ?_
  intro C hCf hR hCI
  repeat (first | refine Run.seq ?_ | refine Run.region ?_ | refine Ops.nil ?_ | refine Ops.pure T rfl (by decide) rfl ?_)
  refine Ops.lenSl (hS) rfl (by decide) rfl (T.undOk rfl) ?_
  repeat (first | refine Ops.nil ?_ | refine Ops.gtr rfl (by decide) rfl rfl ?_)
  refine Run.cond rfl rfl (fun h => ?_) (fun h => ?_)
  all_goals (try rw [h])
  all_goals (try simp only [decide_eq_true_eq, decide_eq_false_iff_not, Bool.not_eq_true', Bool.not_eq_false', Bool.and_eq_true, Bool.or_eq_true, Bool.and_eq_false_imp, Bool.or_eq_false_iff] at h)
  · skip
    repeat (first | refine Run.seq ?_ | refine Run.region ?_ | refine Ops.nil ?_ | refine Ops.pure T rfl (by decide) rfl ?_)
    refine Run.fin (Run.ret1 (by rw [hCf]; exact func32) results32 rfl (hR _ _ _ ?_))
    exact ⟨rfl, false, rfl, by simp⟩
  repeat (first | refine Run.seq ?_ | refine Run.region ?_ | refine Run.skip ?_ | refine Ops.pure T rfl (by decide) rfl ?_)
  refine Ops.lenSl (hS) rfl (by decide) rfl (T.undOk rfl) ?_
  repeat (first | refine Ops.nil ?_ | refine Run.block ?_ | refine Ops.pure T rfl (by decide) rfl ?_)
  refine Run.keep [8, 9, 10] [_, _, _] rfl ?_
  refine Run.rounds (fun m env L J => ∃ i : Nat, m = xs.length - i ∧ i ≤ xs.length ∧ (∀ x ∈ xs.take i, fit2 x) ∧ env = [(8, v), (9, .int .i64 xs.length), (10, .int .i64 i)] ∧ L = [] ∧ Le I J) xs.length ⟨0, by omega, by omega, by simp, rfl, rfl, Le.refl _⟩ ?_
  rintro m env L J ⟨i, rfl, hi, hall, rfl, rfl, hle⟩ ih
  repeat (first | refine Run.seq ?_ | refine Run.region ?_ | refine Ops.nil ?_ | refine Ops.lss rfl (by decide) rfl rfl ?_)
  refine Run.cond rfl rfl (fun h2 => ?_) (fun h2 => ?_)
  all_goals (try rw [h2])
  all_goals (try simp only [decide_eq_true_eq, decide_eq_false_iff_not, Bool.not_eq_true', Bool.not_eq_false', Bool.and_eq_true, Bool.or_eq_true, Bool.and_eq_false_imp, Bool.or_eq_false_iff] at h2)
  · skip
    repeat (first | refine Run.seq ?_ | refine Run.region ?_ | refine Run.skip ?_ | refine Run.block ?_)
    refine Ops.indexSl (hS.mono hle) rfl (by decide) rfl rfl (T.undOk rfl) (T.sizeOk rfl) (by omega) (by omega) ?_
    rintro b_ off_ x cs_ hx hr_ hA_
    skip
    subst hr_
    refine Ops.loadIN rfl (by decide) rfl (hA_) (T.aggOk rfl) (T.sizeOk rfl) rfl ?_
    refine Ops.alloc rfl (by decide) (T.zeroOk rfl) rfl (fun b2 => ?_)
    repeat (first | refine Run.seq ?_ | refine Run.region ?_ | refine Ops.nil ?_ | refine Ops.loadN 0 rfl (by decide) rfl rfl (T.aggOk rfl) (T.sizeOk rfl) rfl rfl ?_ | refine Ops.store 0 rfl rfl rfl rfl rfl (T.sizeOk rfl) rfl (Nat.le_of_ble_eq_true rfl) rfl rfl ?_)
    refine Ops.call ((laws_zzFits18 J x)) rfl (by decide) call77 rfl ?_
    rintro _ J2 hle2 ⟨r, rfl, hr⟩
    repeat (first | refine Ops.nil ?_ | refine Ops.pure T rfl (by decide) rfl ?_)
    rw [Int.toNat_natCast] at hx
    cases r with
    | false =>
      repeat (first | refine Run.seq ?_ | refine Run.region ?_ | refine Ops.nil ?_ | refine Run.cond_t rfl ?_ | refine Ops.pure T rfl (by decide) rfl ?_)
      refine Run.fin (Run.ret1 (by rw [hCf]; exact func32) results32 rfl (hR _ _ _ ?_))
      exact ⟨rfl, false, rfl, by simp⟩
    | true =>
      repeat (first | refine Run.region ?_ | refine Ops.nil ?_ | refine Run.skip ?_ | refine Run.inBlock ?_ | refine Run.cond_f rfl ?_ | refine Ops.add rfl (by decide) rfl rfl (wI (by first | omega | (simp only [List.length_cons, List.length_nil] ; omega) | (simp; omega)) (by first | omega | (simp only [List.length_cons, List.length_nil] ; omega) | (simp; omega))) ?_ | refine Ops.pure T rfl (by decide) rfl ?_)
      refine Run.fin ?_
      refine Run.keep [8, 9, 10] [_, _, _] rfl ?_
      refine ih (xs.length - (i + 1)) _ _ _ (by omega) ⟨i + 1, rfl, by omega, ?_, rfl, rfl, hle.trans hle2⟩
      intro y hy
      rw [List.take_add_one, hx] at hy
      rcases List.mem_append.1 hy with hy | hy
      · exact hall y hy
      · simp at hy; subst hy; exact hr rfl
  · have : i = xs.length := by omega
    subst this
    repeat (first | refine Run.seq ?_ | refine Run.region ?_ | refine Ops.nil ?_ | refine Run.exit rfl ?_ | refine Ops.pure T rfl (by decide) rfl ?_)
    refine Run.fin (Run.ret1 (by rw [hCf]; exact func32) results32 rfl (hR _ _ _ ?_))
    exact ⟨rfl, true, rfl, fun _ => ⟨by omega, by simpa using hall⟩⟩
theorem laws_zzFits13 (I : Imm) (xs : List K2) (v : Value) (hS : Sl tK2 I v xs) : Pure prog 54 [v] I fun w J => ∃ r, w = .bool r ∧ (r = true → xs.length ≤ 2147483647 ∧ ∀ x ∈ xs, fit2 x) := by
  refine Spec.enter 18 [(0, _)] func54 rfl ntmps54 (by simp) rfl ?_
  intro C hCf hR hCI
  repeat (first | refine Run.seq ?_ | refine Run.region ?_ | refine Ops.nil ?_ | refine Ops.pure T rfl (by decide) rfl ?_)
  refine Ops.lenSl (hS) rfl (by decide) rfl (T.undOk rfl) ?_
  repeat (first | refine Ops.nil ?_ | refine Ops.gtr rfl (by decide) rfl rfl ?_)
  refine Run.cond rfl rfl (fun h => ?_) (fun h => ?_)
  all_goals (try rw [h])
  all_goals (try simp only [decide_eq_true_eq, decide_eq_false_iff_not, Bool.not_eq_true', Bool.not_eq_false', Bool.and_eq_true, Bool.or_eq_true, Bool.and_eq_false_imp, Bool.or_eq_false_iff] at h)
  · skip
    repeat (first | refine Run.seq ?_ | refine Run.region ?_ | refine Ops.nil ?_ | refine Ops.pure T rfl (by decide) rfl ?_)
    refine Run.fin (Run.ret1 (by rw [hCf]; exact func54) results54 rfl (hR _ _ _ ?_))
    exact ⟨rfl, false, rfl, by simp⟩
  repeat (first | refine Run.seq ?_ | refine Run.region ?_ | refine Run.skip ?_ | refine Ops.pure T rfl (by decide) rfl ?_)
  refine Ops.lenSl (hS) rfl (by decide) rfl (T.undOk rfl) ?_
  repeat (first | refine Ops.nil ?_ | refine Run.block ?_ | refine Ops.pure T rfl (by decide) rfl ?_)
  refine Run.keep [8, 9, 10] [_, _, _] rfl ?_
  refine Run.rounds (fun m env L J => ∃ i : Nat, m = xs.length - i ∧ i ≤ xs.length ∧ (∀ x ∈ xs.take i, fit2 x) ∧ env = [(8, v), (9, .int .i64 xs.length), (10, .int .i64 i)] ∧ L = [] ∧ Le I J) xs.length ⟨0, by omega, by omega, by simp, rfl, rfl, Le.refl _⟩ ?_
  rintro m env L J ⟨i, rfl, hi, hall, rfl, rfl, hle⟩ ih
  repeat (first | refine Run.seq ?_ | refine Run.region ?_ | refine Ops.nil ?_ | refine Ops.lss rfl (by decide) rfl rfl ?_)
  refine Run.cond rfl rfl (fun h2 => ?_) (fun h2 => ?_)
  all_goals (try rw [h2])
  all_goals (try simp only [decide_eq_true_eq, decide_eq_false_iff_not, Bool.not_eq_true', Bool.not_eq_false', Bool.and_eq_true, Bool.or_eq_true, Bool.and_eq_false_imp, Bool.or_eq_false_iff] at h2)
  · skip
    repeat (first | refine Run.seq ?_ | refine Run.region ?_ | refine Run.skip ?_ | refine Run.block ?_)
    refine Ops.indexSl (hS.mono hle) rfl (by decide) rfl rfl (T.undOk rfl) (T.sizeOk rfl) (by omega) (by omega) ?_
    rintro b_ off_ x cs_ hx hr_ hA_
    skip
    subst hr_
    refine Ops.loadIN rfl (by decide) rfl (hA_) (T.aggOk rfl) (T.sizeOk rfl) rfl ?_
    refine Ops.alloc rfl (by decide) (T.zeroOk rfl) rfl (fun b2 => ?_)
    repeat (first | refine Run.seq ?_ | refine Run.region ?_ | refine Ops.nil ?_ | refine Ops.loadN 0 rfl (by decide) rfl rfl (T.aggOk rfl) (T.sizeOk rfl) rfl rfl ?_ | refine Ops.store 0 rfl rfl rfl rfl rfl (T.sizeOk rfl) rfl (Nat.le_of_ble_eq_true rfl) rfl rfl ?_)
    refine Ops.call ((laws_zzFits14 J x)) rfl (by decide) call95 rfl ?_
    rintro _ J2 hle2 ⟨r, rfl, hr⟩
    repeat (first | refine Ops.nil ?_ | refine Ops.pure T rfl (by decide) rfl ?_)
    rw [Int.toNat_natCast] at hx
    cases r with
    | false =>
      repeat (first | refine Run.seq ?_ | refine Run.region ?_ | refine Ops.nil ?_ | refine Run.cond_t rfl ?_ | refine Ops.pure T rfl (by decide) rfl ?_)
      refine Run.fin (Run.ret1 (by rw [hCf]; exact func54) results54 rfl (hR _ _ _ ?_))
      exact ⟨rfl, false, rfl, by simp⟩
    | true =>
      repeat (first | refine Run.region ?_ | refine Ops.nil ?_ | refine Run.skip ?_ | refine Run.inBlock ?_ | refine Run.cond_f rfl ?_ | refine Ops.add rfl (by decide) rfl rfl (wI (by first | omega | (simp only [List.length_cons, List.length_nil] ; omega) | (simp; omega)) (by first | omega | (simp only [List.length_cons, List.length_nil] ; omega) | (simp; omega))) ?_ | refine Ops.pure T rfl (by decide) rfl ?_)
      refine Run.fin ?_
      refine Run.keep [8, 9, 10] [_, _, _] rfl ?_
      refine ih (xs.length - (i + 1)) _ _ _ (by omega) ⟨i + 1, rfl, by omega, ?_, rfl, rfl, hle.trans hle2⟩
      intro y hy
      rw [List.take_add_one, hx] at hy
      rcases List.mem_append.1 hy with hy | hy
      · exact hall y hy
      · simp at hy; subst hy; exact hr rfl
  · have : i = xs.length := by omega
    subst this
    repeat (first | refine Run.seq ?_ | refine Run.region ?_ | refine Ops.nil ?_ | refine Run.exit rfl ?_ | refine Ops.pure T rfl (by decide) rfl ?_)
    refine Run.fin (Run.ret1 (by rw [hCf]; exact func54) results54 rfl (hR _ _ _ ?_))
    exact ⟨rfl, true, rfl, fun _ => ⟨by omega, by simpa using hall⟩⟩
structure Ds where
  media : List UInt8
  size : Int
  dig : K2
  data : List UInt8
  urls : Txts
  anns : List K2
  plats : List PfL
  art : List UInt8
def Ds.cs (d : Ds) (u v w : Value) : List Value := [str d.media, .int .i64 d.size, str d.dig.1, str d.dig.2, str d.data, u, v, w, str d.art]
def DsL (I : Imm) (d : Ds) (u v w : Value) : Prop := Sl tStr I u d.urls ∧ Sl tK2 I v d.anns ∧ Sl tPf I w d.plats
theorem DsL.mono {I J : Imm} {d : Ds} {u v w : Value} (h : DsL I d u v w) (hle : Le I J) : DsL J d u v w := ⟨h.1.mono hle, h.2.1.mono hle, h.2.2.mono hle⟩
def tDs : Ty Ds := ⟨9, fun I cs d => ∃ A a A' a' A2 a2, cs = d.cs (.slice A d.urls.length a) (.slice A' d.anns.length a') (.slice A2 d.plats.length a2) ∧ DsL I d (.slice A d.urls.length a) (.slice A' d.anns.length a') (.slice A2 d.plats.length a2),
  fun h => by obtain ⟨A, a, A', a', A2, a2, h, _⟩ := h; subst h; rfl, fun h hle => by obtain ⟨A, a, A', a', A2, a2, h, h1⟩ := h; exact ⟨A, a, A', a', A2, a2, h, h1.mono hle⟩⟩
structure Mf where
  idx : Bool
  ver : Int
  media : List UInt8
  cfg : Ds
  lays : List Ds
  anns : List K2
  subj : List Ds
  art : List UInt8
def Mf.cs (m : Mf) (u v w l a s : Value) : List Value := [.bool m.idx, .int .i64 m.ver, str m.media, str m.cfg.media, .int .i64 m.cfg.size, str m.cfg.dig.1, str m.cfg.dig.2, str m.cfg.data, u, v, w, str m.cfg.art, l, a, s, str m.art]
def MfL (I : Imm) (m : Mf) (u v w l a s : Value) : Prop := DsL I m.cfg u v w ∧ Sl tDs I l m.lays ∧ Sl tK2 I a m.anns ∧ Sl tDs I s m.subj
theorem MfL.mono {I J : Imm} {m : Mf} {u v w l a s : Value} (h : MfL I m u v w l a s) (hle : Le I J) : MfL J m u v w l a s := ⟨h.1.mono hle, h.2.1.mono hle, h.2.2.1.mono hle, h.2.2.2.mono hle⟩
end Go.V
