import Derived.Test.YthbokkmoafodcaaDoorBSM6
import Derived.Test.YthbokkmoafodcaaDoorBSM2
import Derived.LaidLaws
import Derived.MakeChecks
import Derived.ChangeBears2
import Derived.Lay
import Derived.Stop.Joined
import Derived.Deep.DeepHandedRow
/-
  The law: the hash of what a reader gives.
-/
namespace Go.V
open Go.RowKit
set_option linter.unusedVariables false
set_option linter.unusedSimpArgs false
set_option maxRecDepth 10000
attribute [local irreducible] Run Ops QD
theorem Ev.eqlAgg {P : Program} {n : Nat} {env : Env} {x y : Operand} {t t' : TypeId} {xs ys : List Value} {r : Bool} (T : Tab P) (S : List Nat) (hS : S.all (fun t => !P.stoodInHeld t && !P.eqGuardType P.depth t) = true) (hin : S.contains t = true)
    (hx : opnd env x = some (.agg xs.toArray)) (hy : opnd env y = some (.agg ys.toArray)) (h : eqV T S 10000 t (.agg xs.toArray) (.agg ys.toArray) = some r) : Ev P n env (.binOp .eql t x y t') (.bool r) :=
  fun a W he _ _ _ _ _ => by
    obtain ⟨h1, _, h2, _⟩ := run_eqlAgg T S hS hin h x y W
    simp only [execOp, eval_opnd he hx, eval_opnd he hy, Sem.run_bind, h1, h2, Result.andThen_ok]; rfl
theorem Val.u16 {I : Imm} {v : Value} {x : Int} (h : Val (.int .u16) I v x) : v = .int .u16 x := h.int
theorem laws_FnHashSum (I : Imm) (v0 : Value) (s : List UInt8) (hv0 : Val .str I v0 s) (k0 : Cd.str.ok s) (v1 : Value) (part : Int) (hv1 : Val (.int .u16) I v1 part) (k1 : (Cd.int .u16).ok part) (a0 : Addr) (hE : At I 2 0 [eofV a0]) :
    Pure Proofs.Tryd.prog 3 [v0, v1] I fun v _ => v = .bool true := by
  obtain rfl := hv0.str
  obtain rfl := hv1.int
  have hp : 0 ≤ part ∧ part ≤ 65535 := by
    have h' : (Lit.int .u16 part).wf = true := k1
    simp [Lit.wf, IntKind.min, IntKind.max, IntKind.signed, IntKind.bits] at h'
    omega
  refine Spec.enter 37 [(0, _), (1, _)] Proofs.Tryd.func3 rfl Proofs.Tryd.ntmps3 (by simp) rfl ?_
  intro C hCf hR hCI
  repeat (first | refine Run.seq ?_)
  refine Run.regionO (D := [some 4]) [true] rfl rfl rfl (fun Z hZ => ?_)
  refine QD.ev T (by decide) rfl rfl ?_
  refine QD.nil (hZ _ ?_)
  clear hZ Z
  repeat (first | refine Run.seq ?_)
  refine Run.regionO (D := [some 8, some 9, some 10]) [true, true, true] rfl rfl rfl (fun Z hZ => ?_)
  refine QD.ev T (by decide) rfl rfl ?_
  refine QD.e (Ev.lenS T rfl rfl) (by decide) rfl ?_
  refine QD.e (Ev.gtr rfl rfl) (by decide) rfl ?_
  refine QD.nil (hZ _ ?_)
  clear hZ Z
  cases c0 : decide ((2147483647 : Int) < (s.length : Int)) with
  | true =>
    repeat (first | refine Run.seq ?_ | refine Run.cond_t rfl ?_)
    refine Run.regionO (D := [some 4]) [true] rfl rfl rfl (fun Z hZ => ?_)
    refine QD.ev T (by decide) rfl rfl ?_
    refine QD.nil (hZ _ ?_)
    clear hZ Z
    skip
    refine Run.fin (Run.ret1 (by rw [hCf]; exact Proofs.Tryd.func3) Proofs.Tryd.results3 rfl (hR _ _ _ ?_))
    exact ⟨rfl, rfl⟩
  | false =>
  have c0' := of_decide_eq_false c0
  repeat (first | refine Run.seq ?_ | refine Run.skip ?_ | refine Run.cond_f rfl ?_)
  refine Run.regionP (D := [some 11, some 12, some 13, some 14, some 15, some 0]) [true, true, true, true] 4 rfl rfl rfl (by simp only [List.drop_succ_cons, List.drop_zero]; rfl) (fun Z hZ => ?_)
  refine QD.ev T (by decide) rfl rfl ?_
  refine QD.ev T (by decide) rfl rfl ?_
  refine QD.e (Ev.lenS T rfl rfl) (by decide) rfl ?_
  refine QD.e (Ev.min2 rfl rfl) (by decide) rfl ?_
  refine QD.nil (hZ _ ?_)
  clear hZ Z
  have hq : ∃ q : Nat, (if (5000 : Int) < (s.length : Int) then (5000 : Int) else (s.length : Int)) = (q : Int) ∧ q ≤ s.length ∧ q ≤ 5000 := by
    by_cases h : (5000 : Int) < (s.length : Int)
    · exact ⟨5000, by rw [if_pos h]; rfl, by omega, by omega⟩
    · exact ⟨s.length, by rw [if_neg h], by omega, by omega⟩
  obtain ⟨q, hq1, hq2, hq3⟩ := hq
  rw [hq1]
  refine Ops.ev (Ev.cutSHi T rfl rfl rfl (by first | omega | (simp only [List.length_cons, List.length_nil] ; omega) | (simp; omega)) (by first | omega | (simp only [List.length_cons, List.length_nil] ; omega) | (simp; omega))) rfl (by decide) ?_
  refine Ops.pure T rfl (by decide) rfl ?_
  rw [Int.toNat_natCast]
  have hdl : (s.take q).length ≤ 5000 := by simp; omega
  generalize s.take q = d at *
  refine Ops.nil ?_
  repeat (first | refine Run.seq ?_)
  refine Run.regionP (D := [some 17, some 18, some 19, some 20, some 16, some 21, some 22, some 23, some 5, none, some 6, some 7]) [true, true, true, true, true, true, true, true] 8 rfl rfl rfl (by simp only [List.drop_succ_cons, List.drop_zero]; rfl) (fun Z hZ => ?_)
  refine QD.ev T (by decide) rfl rfl ?_
  refine QD.ev T (by decide) rfl rfl ?_
  refine QD.e (Ev.conv T rfl rfl rfl (wI (by first | omega | (simp only [List.length_cons, List.length_nil] ; omega) | (simp; omega)) (by first | omega | (simp only [List.length_cons, List.length_nil] ; omega) | (simp; omega)))) (by decide) rfl ?_
  refine QD.call (impl_Sha256 I d part a0 hE (by omega)) (by decide) rfl Proofs.Tryd.call5 rfl ?_
  refine QD.ev T (by decide) rfl rfl ?_
  refine QD.ev T (by decide) rfl rfl ?_
  refine QD.ev T (by decide) rfl rfl ?_
  refine QD.ev T (by decide) rfl rfl ?_
  refine QD.nil (hZ _ ?_)
  clear hZ Z
  refine Ops.alloc rfl (by decide) (T.zeroOk rfl) rfl (fun b5 => ?_)
  unfold hashV
  first | refine Ops.store 0 rfl rfl rfl rfl rfl (T.sizeOk rfl) rfl (Nat.le_of_ble_eq_true rfl) rfl rfl ?_ | refine Ops.store 1 rfl rfl rfl rfl rfl (T.sizeOk rfl) rfl (Nat.le_of_ble_eq_true rfl) rfl rfl ?_ | refine Ops.store 2 rfl rfl rfl rfl rfl (T.sizeOk rfl) rfl (Nat.le_of_ble_eq_true rfl) rfl rfl ?_
  refine Ops.pure T rfl (by decide) rfl ?_
  refine Ops.pure T rfl (by decide) rfl ?_
  refine Ops.nil ?_
  repeat (first | refine Run.seq ?_)
  have hself : eqV T [24] 10000 24 (.agg #[str sha256T, str (hexL (sha d))]) (.agg #[str sha256T, str (hexL (sha d))]) = some true := by
    have e : eqV T [24] 10000 24 (.agg #[str sha256T, str (hexL (sha d))]) (.agg #[str sha256T, str (hexL (sha d))]) = some ((sha256T == sha256T) && ((hexL (sha d) == hexL (sha d)) && true)) := rfl
    rw [e]; simp
  refine Run.regionQ (D := [some 24, some 25, some 26, some 27, some 28, some 29, some 30, some 31, some 32, some 33, some 34, some 35, some 36, some 4]) [true, true, true, true, true, true, true, true, true, true, true, true, true, true] (bl 14 16383) (by kernel_rfl) (by kernel_rfl) (by kernel_rfl) (by kernel_rfl) rfl (fun Z hZ => ?_)
  refine QD.ev T (by decide) rfl rfl ?_
  refine QD.ev T (by decide) rfl rfl ?_
  first | refine QD.ev T (by decide) rfl rfl ?_ | refine QD.off (by decide) rfl ?_
  first | refine QD.ev T (by decide) rfl rfl ?_ | refine QD.off (by decide) rfl ?_
  first | refine QD.e (Ev.lenS T rfl rfl) (by decide) rfl ?_ | refine QD.off (by decide) rfl ?_
  refine QD.e ((Ev.eqlI rfl rfl).as (show _ = Value.bool true from congrArg Value.bool (decide_eq_true rfl))) (by decide) rfl ?_
  refine QD.ev T (by decide) rfl rfl ?_
  refine QD.ev T (by decide) rfl rfl ?_
  first | refine QD.yv (by decide) rfl (Yv.loadN 0 T rfl rfl rfl rfl rfl rfl) ?_ | refine QD.yv (by decide) rfl (Yv.loadN 1 T rfl rfl rfl rfl rfl rfl) ?_ | refine QD.yv (by decide) rfl (Yv.loadN 2 T rfl rfl rfl rfl rfl rfl) ?_ | refine QD.off (by decide) rfl ?_
  first | refine QD.ev T (by decide) rfl rfl ?_ | refine QD.off (by decide) rfl ?_
  first | refine QD.call (spec_Sum I d (by omega)) (by decide) rfl Proofs.Tryd.call6 rfl ?_ | refine QD.off (by decide) rfl ?_
  refine QD.e (Ev.eqlAgg (r := true) T [24] (by kernel_rfl) rfl rfl rfl hself) (by decide) rfl ?_
  refine QD.ev T (by decide) rfl rfl ?_
  refine QD.ev T (by decide) rfl rfl ?_
  refine QD.nil (hZ _ ?_)
  clear hZ Z
  skip
  refine Run.fin (Run.ret1 (by rw [hCf]; exact Proofs.Tryd.func3) Proofs.Tryd.results3 rfl (hR _ _ _ ?_))
  exact ⟨rfl, rfl⟩
end Go.V
/-
  What a row lists of package-level variables, read off the heap that a call begins with.
-/
namespace Go.V
open Go.RowKit Go.ChangeShapes
set_option linter.unusedVariables false
set_option linter.unusedSimpArgs false
theorem laidVar {P : Program} {W : World} : ∀ {l : List (String × DataW Unit)} {ps : List MemPlace}, DataW.LaidVars P W l ps → ∀ {n d}, (n, d) ∈ l →
    ∃ g t cs fuel p, P.globalNamed n = some g ∧ (P.globals[g]?).map (·.type) = some t ∧ W.var? P n = some cs ∧ DataW.trod (fun _ => ()) P W 0 (fun _ => true) false fuel t cs.toList = some (d, p) ∧ ∀ x ∈ MemPlace.row ⟨g, 0, none⟩ cs.size ++ p, x ∈ ps
  | [], _, _, _, _, h => by cases h
  | (n0, d0) :: r, ps, h, n, d, hm => by
    obtain ⟨g, t, cs, fuel, p, q, h1, h2, h3, h4, h5, h6⟩ := h
    rcases List.mem_cons.1 hm with e | hm
    · cases e
      exact ⟨g, t, cs, fuel, p, h1, h2, h3, h4, fun x hx => by rw [h6]; exact List.mem_append_left _ hx⟩
    · obtain ⟨g', t', cs', f', p', k1, k2, k3, k4, k5⟩ := laidVar h5 hm
      exact ⟨g', t', cs', f', p', k1, k2, k3, k4, fun x hx => by rw [h6]; exact List.mem_append_right _ (k5 x hx)⟩
/-- a listed sentinel: the variable's cell -/
theorem laidSentinel {P : Program} {W : World} {l : List (String × DataW Unit)} (h : laidMetH P l W) (hp : (l.all fun x => x.2.handleName?.isNone) = true) {n text : _} {ti tp te ts : TypeId} {g : Nat} {ms : Array (String × TypeId)} {f : Field}
    (hm : (n, (DataW.iface "*errors.errorString" (.ptr (.agg [.lit (.string text)])) : DataW Unit)) ∈ l) (hg : P.globalNamed n = some g) (ht : (P.globals[g]?).map (·.type) = some ti)
    (hi : P.underlying ti = some (.interface ms)) (hrow : ∀ u, P.typeName? 3 u = some "*errors.errorString" → u = tp)
    (hpt : P.underlying tp = some (.pointer te)) (he : P.underlying te = some (.struct #[f])) (hft : f.type = ts) (hfo : f.offset = 0) (hs : P.underlying ts = some .string) (hc : P.cellsOf te = 1) (hcs : P.cellsOf ts = 1) :
    ∃ a, At (whole W) g 0 [.iface tp (.pointer (some a))] := by
  rw [MakeChecks.laidMetH_plain _ _ _ hp] at h
  obtain ⟨ps, h, hnd, hrows⟩ := h
  obtain ⟨g', t', cs, fuel, p, k1, k2, k3, k4, k5⟩ := laidVar h hm
  obtain rfl := Option.some.inj (hg.symm.trans k1)
  obtain rfl := Option.some.inj (ht.symm.trans k2)
  obtain ⟨l0⟩ := cs
  have ok0 : ∀ u v, l0 = [.iface u v] → Value.okWide P W .any 0 u v := fun u v e => by
    subst e
    exact (hrows g 0 (k5 _ (by simp [MemPlace.row]))).2 u v (by simpa using World.var?_cell hg k3 0)
  obtain ⟨a, s, e, hc0, hs0, hz0, _⟩ := errorString_of_trod hi hrow hpt he hft hfo hs hc hcs k4 ok0
  have e : l0 = _ := e
  subst e
  refine ⟨a, (at_whole (a := ⟨g, 0, none⟩) (by simp) (fun j v hj => ?_)).2⟩
  cases j with
  | zero => simp at hj; subst hj; simpa [Addr.add] using World.var?_cell hg k3 0
  | succ j => simp at hj
/-- an input that fits a row that lists variables -/
theorem witness_laid {H : Type} {enc : TypeId × Value → H} {C : Checked} {os : Os} {f : FuncId} {fn : Func} {s : OpenSpec} {conds : List PathCond} {apart : Bool} {laid : List (String × DataW Unit)} (modest : Bool) (args : Array Value)
    (hsh : (World.laidAll C.prog os laid |>.forCall (fun _ _ => 0) ⟨#[], args, []⟩).Shaped C.prog)
    (hok : Input.okWideB C.prog ((World.laidAll C.prog os laid).forCall (fun _ _ => 0) ⟨#[], args, []⟩) f ⟨#[], args, []⟩ = true)
    (hrow : s.preRow enc C.prog fn conds apart laid ((World.laidAll C.prog os laid).forCall (fun _ _ => 0) ⟨#[], args, []⟩).memory args) :
    ∃ (w : World) (tape : Tape) (i : Input), w.os = os ∧ (w.forCall tape i).Shaped C.prog ∧ i.vars = [] ∧ Input.okWide C.prog (w.forCall tape i) .any w.heap.size f i ∧
      s.preRow enc C.prog fn conds apart laid (w.forCall tape i).memory i.args ∧ ({ modest := modest } : Assume).holds C.prog (lone (Frame.enter C.prog f i.args .normal) [] (w.forCall tape i)) :=
  ⟨World.laidAll C.prog os laid, fun _ _ => 0, ⟨#[], args, []⟩, World.laidAll_os _ _ _, hsh, (Input.okWide_of_okWideB (base := 0) hok).1, (Input.okWide_of_okWideB hok).2, hrow, by
    simp only [Assume.holds]
    exact ⟨by simp, by simp, fun _ => Modest.zero, by simp, by simp⟩⟩
end Go.V
