import Derived.Test.YtcegjgmmbbojdaaGreatDoorAW
import Derived.Test.YtcegjgmmbbojdaaGreatDoorAM3
import Derived.Test.YtcegjgmmbbojdaaGreatDoorAM4
import Derived.MapKept
set_option linter.unusedVariables false
set_option linter.unusedSimpArgs false
namespace Go.V
open Go.RowKit
section
variable {P : Program} {n : Nat} {C : Cx} {k : List Item} {env : Env} {L : Own} {I : Imm} {ops : Array Oper} {i : Nat} {l : List Oper} {S : World → Prop}
variable {ty : TypeId} {ps : String} {af : Array Edge} {g : Option (Nat × Bool)} {d : Nat}
theorem Eff.appOneP {α : Type} {t : Ty α} {y : α} {s x : Operand} {ts e : TypeId} {bytes b : Nat} {M N : Own} {v : Value} {xs : List α} {news : List Value} {K : Value -> Own -> Imm -> Prop} (hE : Elem P ts e t.size bytes) (hG : Gr t I e v xs M) (hr : t.rel I news y)
  (hs : opnd env s = some v) (hx : opnd env x = some (.slice (some ⟨b, 0, none⟩) 1 1)) (hL : L.Perm (M ++ N)) (hb : (b, blk news e) ∈ L) (h1 : one news = true)
  (hbytes : (2 * (xs.length + 1) + 512) * bytes <= 281474976710656) (h63 : xs.length + 1 <= 4611686018427387904)
  (next : ∀ v' M', Gr t I e v' (xs ++ [y]) M' -> K v' (M' ++ N) I) :
  Eff P n C env L I ⟨some d, .call ⟨.builtin .append, #[s, x], #[ts, ts]⟩, ty, ps, af, g⟩ K := by
 obtain ⟨cs, hG1, hC⟩ := hG
 refine Eff.append hE hs hx hL hG1 (q := 1) (news := news) (fun W hi => ?_) hbytes h63 fun v' M' h => next v' M' ⟨cs ++ news, by simpa using h, hC.append (Cells.one hr)⟩
 have hW := hi.fits.own b _ hb
 exact Src.ofSlice W hE.under ⟨b, 0, none⟩ 1 1 news (by rw [t.len hr]; simp) (fun j u hu => by rw [add_off, cell_blk hW]; simpa using hu) (one_spec h1)
theorem Run.retCTK (T : Tab P) (j : Nat) {fn : Func} {t u b m : Nat} {x : Value} {vs cs : List Value} {rt t' : TypeId} {todo : List Item} {L' : Own} (hfn : P.funcs[C.f]? = some fn) (hres : fn.results = #[.cell t rt, .tmp u]) (hp : look env t = some (.pointer (some ⟨b, 0, none⟩)))
  (hL : L[j]? = some (b, blk cs t')) (ha : T.agg rt = some true) (hs : T.size rt = some m) (hv : (cs.drop 0).take m = vs) (hm : vs.length = m) (hu : look env u = some x) (hsub : L'.Sublist L) (h : C.R (.tuple #[.agg vs.toArray, x]) I L') : Run P n C (.code .ret :: todo) env L I := by
 intro bb a cs' W hb hk he hi
 have hr : (results fn a.tmps).run P W = .ok (.tuple #[.agg vs.toArray, x]) W := by
  have h1 := run_cellN T hi hL ha hs hv hm
  have hp' : a.tmps.getD t undef = .pointer (some ⟨b, 0, none⟩) := he.getD hp
  rw [results_cell_tmp hres, hp', he.getD hu]
  simp [asAddr, h1]
 exact ⟨.returned (.tuple #[.agg vs.toArray, x]), W, _, ⟨_, I, L', rfl, h, hi.weakenL hsub⟩, Steps.one step_ret, hb, rfl, he.defers, hk, fn, by simpa [Frame.at, hb] using hfn, hr⟩
end
end Go.V
namespace Go.V
open Go.RowKit
section
variable {P : Program} {md : Region.Mode} {ops : Array Oper} {Q : Exit → Act → World → Prop} {S : Array Bool → World → Prop} {T : World → Prop}
def wpAnyL (P : Program) (md : Region.Mode) (ops : Array Oper) (Q : Exit -> Act -> World -> Prop) (S : Array Bool -> World -> Prop) : Nat -> Array Bool -> Act -> World -> Prop
 | 0, done, a, w => Region.ready md ops done = [] /\ Q .normal a w
 | n + 1, done, a, w => (Region.ready md ops done = [] -> Q .normal a w) /\
  ∀ i ∈ Region.ready md ops done, wpOp P ops Q i (fun a' w' => S (done.setIfInBounds i true) w' /\ wpAnyL P md ops Q S n (done.setIfInBounds i true) a' w') a w
theorem wpAny_of_L : ∀ (n : Nat) (done : Array Bool) (a : Act) (w : World), wpAnyL P md ops Q S n done a w -> wpAny P md ops Q n done a w
 | 0, _, _, _, h => h
 | n + 1, _, _, _, h => ⟨h.1, fun i hi => wpOp_mono (fun a' w' h' => wpAny_of_L n _ a' w' h'.2) (h.2 i hi)⟩
theorem wpAnyL_first {i : Nat} {oi : Oper} {v : Value} (hi : ops[i]? = some oi) (hsel : ∀ (j : Nat) (o : Oper) cs b, ops[j]? = some o -> o.op ≠ .select cs b)
  (hQ : ∀ c a w, Q (.panic c) (a.put oi.dst v) w -> Q (.panic c) a w) (hS : ∀ l w, S l w ↔ S (l.setIfInBounds i true) w) (hT : ∀ l w, Cl md ops l -> l.getD i true = false -> S l w -> T w) :
  ∀ (n : Nat) (done : Array Bool) (a : Act) (w : World), Cl md ops done ->
   (∀ j oj, ops[j]? = some oj -> j ≠ i -> done.getD j true = false -> (∀ e ∈ oj.after, Region.binds md e = true -> e.on ≠ i) -> oi.apart ops oj = true) ->
   i ∈ Region.ready md ops done -> YieldsIf P ops T oi v a -> S done w ->
   wpAnyL P md ops Q S n (done.setIfInBounds i true) (a.put oi.dst v) w -> wpAnyL P md ops Q S (n + 1) done a w := by
 intro n
 induction n with
 | zero =>
  intro done a w inv _ hr hy hSw H
  refine ⟨fun h => (by rw [h] at hr; cases hr), fun j hj => ?_⟩
  by_cases hji : j = i
  ·subst hji; exact hy.wpOp hi (hT done w inv (mem_ready.1 hr).1 hSw) ⟨(hS _ _).1 hSw, H⟩
  ·have := ready_mono hj hji
   rw [H.1] at this
   cases this
 | succ n ih =>
  intro done a w inv hfree hr hy hSw H
  refine ⟨fun h => (by rw [h] at hr; cases hr), fun j hj => ?_⟩
  by_cases hji : j = i
  ·subst hji; exact hy.wpOp hi (hT done w inv (mem_ready.1 hr).1 hSw) ⟨(hS _ _).1 hSw, H⟩
  ·have h1 := H.2 j (ready_mono hj hji)
   obtain ⟨hjun, oj, hoj, hall⟩ := mem_ready.1 hj
   have hnot : ∀ e ∈ oj.after, Region.binds md e = true -> e.on ≠ i := fun e he hb heq => by
    have h1 := hall e he hb
    rw [heq, getD_both (mem_ready.1 hr).1] at h1
    cases h1
   have h2 := wpOp_putIf hoj (hfree j oj hoj hji hjun hnot) (fun cs b => hsel i oi cs b hi) (fun cs b => hsel j oj cs b hoj) hQ hy h1
   have hfree' : ∀ k ok, ops[k]? = some ok -> k ≠ i -> (done.setIfInBounds j true).getD k true = false ->
     (∀ e ∈ ok.after, Region.binds md e = true -> e.on ≠ i) -> oi.apart ops ok = true := fun k ok hk hki hun hno => by
    refine hfree k ok hk hki ?_ hno
    by_cases hjk : j = k
    ·subst hjk; exact hjun
    ·rw [getD_set_ne true hjk] at hun; exact hun
   refine wpOp_mono (fun a' w' h3 => ?_) h2
   have h4 : S (done.setIfInBounds j true) w' := (hS _ _).2 (by rw [Array.setIfInBounds_comm _ _ hji]; exact h3.2.1)
   refine ⟨h4, ih (done.setIfInBounds j true) a' w' (inv.set hj) hfree' (ready_mono hr (Ne.symm hji)) h3.1 h4 ?_⟩
   rw [Array.setIfInBounds_comm _ _ hji]
   exact h3.2.2
theorem wpAnyL_done {done : Array Bool} {a : Act} {w : World} (hr : Region.ready md ops done = []) (h : Q .normal a w) : ∀ n, wpAnyL P md ops Q S n done a w
 | 0 => ⟨hr, h⟩
 | _ + 1 => ⟨fun _ => h, by rw [hr]; simp⟩
end
theorem mr {M X L : Own} {a b : Nat × Obj} (h : L = a :: b :: (M ++ X)) : ∀ x, x ∈ M -> x ∈ L := fun x hx => h ▸ List.mem_cons_of_mem _ (List.mem_cons_of_mem _ (List.mem_append_left _ hx))
def SL (late : List Nat) (S1 S0 : World -> Prop) (l : Array Bool) (w : World) : Prop := S1 w /\ ((∀ j ∈ late, l.getD j false = false) -> S0 w)
theorem SL.set {late : List Nat} {S1 S0 : World -> Prop} {i : Nat} (hi : i ∉ late) (l : Array Bool) (w : World) : SL late S1 S0 l w ↔ SL late S1 S0 (l.setIfInBounds i true) w := by
 have e : ∀ j ∈ late, (l.setIfInBounds i true).getD j false = l.getD j false := fun j hj => getD_set_ne false (fun h => hi (h ▸ hj))
 unfold SL
 constructor
 ·intro h; exact ⟨h.1, fun h2 => h.2 fun j hj => by rw [<- e j hj]; exact h2 j hj⟩
 ·intro h; exact ⟨h.1, fun h2 => h.2 fun j hj => by rw [e j hj]; exact h2 j hj⟩
def lateOk (ops : Array Oper) (late : List Nat) (i : Nat) : Bool := late.all fun j => match ops[j]? with
 | none => false
 | some o => o.after.toList.any fun e => Region.binds .any e && Nat.beq e.on i
theorem SL.at {ops : Array Oper} {late : List Nat} {S1 S0 : World -> Prop} {i : Nat} (h : lateOk ops late i = true) (l : Array Bool) (w : World) (hc : Cl .any ops l) (hu : l.getD i true = false) (hS : SL late S1 S0 l w) : S0 w := by
 refine hS.2 fun j hj => ?_
 cases hl : l.getD j false with
 | false => rfl
 | true =>
  exfalso
  have := List.all_eq_true.1 h j hj
  split at this
  ·cases this
  ·rename_i o ho
   obtain ⟨e, he, hb⟩ := List.any_eq_true.1 this
   simp only [Bool.and_eq_true] at hb
   have h2 := hc.closed j o ho hl e (by simpa using he) hb.1
   rw [Nat.eq_of_beq_eq_true hb.2, getD_both hu] at h2
   cases h2
section
variable {P : Program} {n : Nat} {C : Cx} {k : List Item} {env : Env} {L : Own} {I : Imm} {ops : Array Oper} {late : List Nat} {S1 S : World → Prop}
variable {ty : TypeId} {ps : String} {af : Array Edge} {g : Option (Nat × Bool)} {d : Nat}
def RAnyL (P : Program) (n : Nat) (C : Cx) (ops : Array Oper) (late : List Nat) (S1 S : World -> Prop) (k : List Item) (fuel : Nat) (listed : List Bool) (env : Env) (L : Own) (I : Imm) : Prop :=
 ∀ a W, EnvOk n env a -> Inv C.w0 C.I0 C.L0 I L W -> Cl .any ops listed.toArray -> SL late S1 S listed.toArray W -> wpAnyL P .any ops (Qk P n C k) (SL late S1 S) fuel listed.toArray a W
theorem Run.regionL {id : Nat} (late : List Nat) (S1 S : World -> Prop) (listed : List Bool) (hm : P.follows .mixedOrders = true) (hl : (Array.replicate ops.size false) = listed.toArray) (hS : ∀ W, Inv C.w0 C.I0 C.L0 I L W -> S1 W /\ S W)
  (h : RAnyL P n C ops late S1 S k ops.size listed env L I) : Run P n C (.code (.region id ops true) :: k) env L I := by
 intro b a cs W hb hk he hi
 have hcl : Cl .any ops listed.toArray := by
  rw [<- hl]
  exact ⟨by simp, fun j oj hj hlj => by
   exfalso
   simp only [Array.getD_eq_getD_getElem?, Array.getElem?_replicate] at hlj
   split at hlj <;> simp at hlj⟩
 have hw : (Code.region id ops true).wp P (Qk P n C k) a W := wp_region_any hm (wpAny_of_L _ _ _ _ (by
  rw [hl]
  exact h a _ he hi.drew hcl ⟨(hS _ hi.drew).1, fun _ => (hS _ hi.drew).2⟩))
 obtain ⟨e, a', W', hq, harr⟩ := hw b k cs
 cases e with
 | normal =>
  obtain ⟨env', L', I', he', hi', hrun⟩ := hq
  obtain ⟨e, W2, fr, h1, h2, h3⟩ := hrun b a' cs W' hb hk he' hi'
  exact ⟨e, W2, fr, h1, Comes.of_steps harr h2, h3⟩
 | _ => exact hq.elim
theorem RAnyL.done {listed : List Bool} (fuel : Nat) (hr : Region.ready .any ops listed.toArray = []) (h : Run P n C k env L I) : RAnyL P n C ops late S1 S k fuel listed env L I :=
 fun a W he hi _ _ => wpAnyL_done hr ⟨env, L, I, he, hi, h⟩ fuel
theorem RAnyL.perm {listed : List Bool} {fuel : Nat} {L' : Own} (hp : L.Perm L') (h : RAnyL P n C ops late S1 S k fuel listed env L' I) : RAnyL P n C ops late S1 S k fuel listed env L I := fun a W he hi hc hs => h a W he (hi.perm hp) hc hs
theorem RAnyL.tk {listed : List Bool} {fuel : Nat} (j : Nat) {d : Nat} {op : Op} {v : Value} (listed' : List Bool) (hi : ops[j]? = some ⟨some d, op, ty, ps, af, g⟩) (ok : tkOk ops listed j listed' = true) (hd : d < n) (hlate : late.contains j = false) {T : World -> Prop} (hT : (∀ W, S1 W -> T W) \/ (lateOk ops late j = true /\ ∀ W, S W -> T W)) (hy : Yld P n env ops T ⟨some d, op, ty, ps, af, g⟩ v)
  (h : RAnyL P n C ops late S1 S k fuel listed' ((d, v) :: env) L I) : RAnyL P n C ops late S1 S k (fuel + 1) listed env L I := by
 obtain ⟨h1, h2, h3, h4⟩ := tk_spec ok
 intro a W he hinv hc hs
 have hni : j ∉ late := fun hm => by
  have : late.contains j = true := List.contains_iff_mem.2 hm
  rw [this] at hlate; cases hlate
 have hr : j ∈ Region.ready .any ops listed.toArray := by simpa using h3
 refine wpAnyL_first (T := T) (v := v) hi (Region.noSelect_spec h1) (by intro c a w h; exact h.elim) (SL.set hni) (fun l w hcl hu hS => ?_) fuel listed.toArray a W hc (Region.free_spec hi h2) hr ?_ hs ?_
 ·rcases hT with hT | ⟨hT, hST⟩
  ·exact hT w hS.1
  ·exact hST w (SL.at hT l w hcl hu hS)
 ·rcases hy with ⟨hw, hv⟩ | ⟨hw, hv⟩
  ·exact .inl ⟨want_spec he hw, fun w hSw => hv a w he hSw⟩
  ·exact .inr ⟨want_spec he hw, hv⟩
 ·rw [h4]
  exact h _ W (he.put (dOk hd)) hinv (by rw [<- h4]; exact hc.set hr) (by rw [<- h4]; exact (SL.set hni _ _).1 hs)
theorem RAnyL.all {listed : List Bool} {fuel : Nat} (rs : List Nat) (hr : Region.ready .any ops listed.toArray = rs) (hne : rs ≠ [])
  (h : ∀ j ∈ rs, ∃ o, ops[j]? = some o /\ want env ops o.guard = some true /\ (∀ t, o.dst = some t -> t < n) /\
   Eff P n C env L I o fun v L1 I1 => ((∀ W, Inv C.w0 C.I0 C.L0 I1 L1 W -> S1 W) /\ (late.contains j = true \/ ∀ W, Inv C.w0 C.I0 C.L0 I1 L1 W -> S W)) /\ ∃ listed', listed.toArray.setIfInBounds j true = listed'.toArray /\ RAnyL P n C ops late S1 S k fuel listed' (V.put env o.dst v) L1 I1) :
  RAnyL P n C ops late S1 S k (fuel + 1) listed env L I := by
 intro a W he hi hc hs
 refine ⟨fun h0 => absurd (hr ▸ h0) hne, ?_⟩
 rw [hr]
 intro j hj
 obtain ⟨o, ho, hw, hd, hE⟩ := h j hj
 have hjr : j ∈ Region.ready .any ops listed.toArray := hr ▸ hj
 have hsz : j < listed.toArray.size := by rw [hc.size]; exact (Array.getElem?_eq_some_iff.1 ho).1
 have key : ∀ v W1 L1 I1, Inv C.w0 C.I0 C.L0 I1 L1 W1 -> ((∀ W, Inv C.w0 C.I0 C.L0 I1 L1 W -> S1 W) /\ (late.contains j = true \/ ∀ W, Inv C.w0 C.I0 C.L0 I1 L1 W -> S W)) -> (∃ listed', listed.toArray.setIfInBounds j true = listed'.toArray /\ RAnyL P n C ops late S1 S k fuel listed' (V.put env o.dst v) L1 I1) ->
   SL late S1 S (listed.toArray.setIfInBounds j true) W1 /\ wpAnyL P .any ops (Qk P n C k) (SL late S1 S) fuel (listed.toArray.setIfInBounds j true) (a.put o.dst v) W1 := by
  intro v W1 L1 I1 hi1 hS ⟨listed', hl, hR⟩
  have hSL : SL late S1 S (listed.toArray.setIfInBounds j true) W1 := by
   refine ⟨hS.1 W1 hi1, ?_⟩
   rcases hS.2 with hS | hS
   ·intro hno
    have := hno j (List.contains_iff_mem.1 hS)
    simp only [Array.getD_eq_getD_getElem?, Array.getElem?_setIfInBounds_self_of_lt hsz, Option.getD_some] at this
    cases this
   ·exact fun _ => hS W1 hi1
  exact ⟨hSL, by rw [hl]; exact hR _ W1 (he.put hd) hi1 (by rw [<- hl]; exact hc.set hjr) (by rw [<- hl]; exact hSL)⟩
 unfold wpOp
 simp only [ho, want_spec he hw, if_true]
 refine .inl ?_
 unfold Oper.wp
 rcases hE a W he hi with ⟨v, W1, L1, I1, hr, hi1, hS, hR⟩ | ⟨f, args, hr, hcall⟩
 ·have hfin := key v W1 L1 I1 hi1 hS hR
  rcases hr with hr | ⟨hr, rfl⟩
  ·rw [hr]; exact hfin
  ·rw [hr]; exact hfin
 ·rw [hr]
  refine hcall.mono ?_
  rintro e W1 ⟨v, L1, I1, rfl, hi1, hS, hR⟩
  exact key v W1 L1 I1 hi1 hS hR
theorem RAnyL.on {listed : List Bool} {fuel : Nat} (j : Nat) {d : Nat} {op : Op} (listed' : List Bool) (hi : ops[j]? = some ⟨some d, op, ty, ps, af, g⟩) (ok : oneOk ops listed j listed' = true) (hw : want env ops g = some true) (hd : d < n)
  (h : Eff P n C env L I ⟨some d, op, ty, ps, af, g⟩ fun v L1 I1 => ((∀ W, Inv C.w0 C.I0 C.L0 I1 L1 W -> S1 W) /\ (late.contains j = true \/ ∀ W, Inv C.w0 C.I0 C.L0 I1 L1 W -> S W)) /\ RAnyL P n C ops late S1 S k fuel listed' ((d, v) :: env) L1 I1) : RAnyL P n C ops late S1 S k (fuel + 1) listed env L I := by
 obtain ⟨hr, hl⟩ := one_spec' ok
 refine RAnyL.all [j] hr (by simp) fun j' hj => ?_
 obtain rfl : j' = j := by simpa using hj
 refine ⟨_, hi, hw, dOk hd, fun a W he hin => ?_⟩
 rcases h a W he hin with ⟨v, W1, L1, I1, h1, h2, h3, h4⟩ | ⟨f, args, h1, h2⟩
 ·exact .inl ⟨v, W1, L1, I1, h1, h2, h3, listed', hl, h4⟩
 ·exact .inr ⟨f, args, h1, h2.mono fun e W' ⟨v, L1, I1, q1, q2, q3, q4⟩ => ⟨v, L1, I1, q1, q2, q3, listed', hl, q4⟩⟩
theorem RAnyL.os {listed : List Bool} {fuel : Nat} (j : Nat) {op : Op} (listed' : List Bool) (hi : ops[j]? = some ⟨none, op, ty, ps, af, g⟩) (ok : oneOk ops listed j listed' = true) (hw : want env ops g = some true)
  (h : Eff P n C env L I ⟨none, op, ty, ps, af, g⟩ fun v L1 I1 => ((∀ W, Inv C.w0 C.I0 C.L0 I1 L1 W -> S1 W) /\ (late.contains j = true \/ ∀ W, Inv C.w0 C.I0 C.L0 I1 L1 W -> S W)) /\ RAnyL P n C ops late S1 S k fuel listed' env L1 I1) : RAnyL P n C ops late S1 S k (fuel + 1) listed env L I := by
 obtain ⟨hr, hl⟩ := one_spec' ok
 refine RAnyL.all [j] hr (by simp) fun j' hj => ?_
 obtain rfl : j' = j := by simpa using hj
 refine ⟨_, hi, hw, dNo, fun a W he hin => ?_⟩
 rcases h a W he hin with ⟨v, W1, L1, I1, h1, h2, h3, h4⟩ | ⟨f, args, h1, h2⟩
 ·exact .inl ⟨v, W1, L1, I1, h1, h2, h3, listed', hl, h4⟩
 ·exact .inr ⟨f, args, h1, h2.mono fun e W' ⟨v, L1, I1, q1, q2, q3, q4⟩ => ⟨v, L1, I1, q1, q2, q3, listed', hl, q4⟩⟩
theorem RAnyL.two {listed : List Bool} {fuel : Nat} (i j : Nat) {d1 d2 : Nat} {op1 op2 : Op} {ty1 ty2 : TypeId} {ps1 ps2 : String} {af1 af2 : Array Edge} {g1 g2 : Option (Nat × Bool)} (l1 l2 : List Bool)
  (h1 : ops[i]? = some ⟨some d1, op1, ty1, ps1, af1, g1⟩) (h2 : ops[j]? = some ⟨some d2, op2, ty2, ps2, af2, g2⟩) (ok : twoOk ops listed i j l1 l2 = true) (w1 : want env ops g1 = some true) (w2 : want env ops g2 = some true) (hd1 : d1 < n) (hd2 : d2 < n)
  (e1 : Eff P n C env L I ⟨some d1, op1, ty1, ps1, af1, g1⟩ fun v L1 I1 => ((∀ W, Inv C.w0 C.I0 C.L0 I1 L1 W -> S1 W) /\ (late.contains i = true \/ ∀ W, Inv C.w0 C.I0 C.L0 I1 L1 W -> S W)) /\ RAnyL P n C ops late S1 S k fuel l1 ((d1, v) :: env) L1 I1)
  (e2 : Eff P n C env L I ⟨some d2, op2, ty2, ps2, af2, g2⟩ fun v L1 I1 => ((∀ W, Inv C.w0 C.I0 C.L0 I1 L1 W -> S1 W) /\ (late.contains j = true \/ ∀ W, Inv C.w0 C.I0 C.L0 I1 L1 W -> S W)) /\ RAnyL P n C ops late S1 S k fuel l2 ((d2, v) :: env) L1 I1) : RAnyL P n C ops late S1 S k (fuel + 1) listed env L I := by
 simp only [twoOk, Bool.and_eq_true, beq_iff_eq] at ok
 obtain ⟨⟨hr, hs1⟩, hs2⟩ := ok
 refine RAnyL.all [i, j] hr (by simp) fun q hq => ?_
 have hq' : q = i \/ q = j := by simpa using hq
 rcases hq' with rfl | rfl
 ·refine ⟨_, h1, w1, dOk hd1, fun a W he hin => ?_⟩
  rcases e1 a W he hin with ⟨v, W1, L1, I1, q1, q2, q3, q4⟩ | ⟨f, args, q1, q2⟩
  ·exact .inl ⟨v, W1, L1, I1, q1, q2, q3, l1, by rw [<- hs1]; simp, q4⟩
  ·exact .inr ⟨f, args, q1, q2.mono fun e W' ⟨v, L1, I1, p1, p2, p3, p4⟩ => ⟨v, L1, I1, p1, p2, p3, l1, by rw [<- hs1]; simp, p4⟩⟩
 ·refine ⟨_, h2, w2, dOk hd2, fun a W he hin => ?_⟩
  rcases e2 a W he hin with ⟨v, W1, L1, I1, q1, q2, q3, q4⟩ | ⟨f, args, q1, q2⟩
  ·exact .inl ⟨v, W1, L1, I1, q1, q2, q3, l2, by rw [<- hs2]; simp, q4⟩
  ·exact .inr ⟨f, args, q1, q2.mono fun e W' ⟨v, L1, I1, p1, p2, p3, p4⟩ => ⟨v, L1, I1, p1, p2, p3, l2, by rw [<- hs2]; simp, p4⟩⟩
end
end Go.V
namespace Go.V
open Go.RowKit
section
variable {P : Program} {n : Nat} {C : Cx} {k : List Item} {env : Env} {L : Own} {I : Imm} {ops : Array Oper} {i : Nat} {l : List Oper} {S : World → Prop}
variable {ty : TypeId} {ps : String} {af : Array Edge} {g : Option (Nat × Bool)} {d : Nat}
def First (P : Program) (size q : Nat) (v : Value) (news : List Value) (W : World) : Prop := (Builtin.firstCells size q v).run P W = .ok news.toArray W
theorem Eff.copyOwn {s x : Operand} {ts tx e : TypeId} {size b off dl dc sl q : Nat} {sv : Value} {cs news cs' : List Value} {t' : TypeId} {K : Value -> Own -> Imm -> Prop} (j : Nat) (T : Tab P) (hu : T.und ts = some (.slice e)) (hz : T.size e = some size)
  (hs : opnd env s = some (.slice (some ⟨b, off, none⟩) dl dc)) (hx : opnd env x = some sv) (hlen : ∀ W, (Builtin.lenOf sv).run P W = .ok sl W) (hq : Nat.min sl dl = q) (hL : L[j]? = some (b, blk cs t'))
  (hsrc : ∀ W, Inv C.w0 C.I0 C.L0 I L W -> First P size q sv news W) (hle : off + news.length <= cs.length) (h1 : one news = true) (hcs : setAt cs off news = cs')
  (next : K (.int .i64 (q : Int)) (upL L j (blk cs' t')) I) : Eff P n C env L I ⟨some d, .call ⟨.builtin .copy, #[s, x], #[ts, tx]⟩, ty, ps, af, g⟩ K :=
 Eff.valW fun a W he hi => by
  obtain ⟨R, hp, hp'⟩ := upL_perm L j b (blk cs t') (blk cs' t') hL
  have hW := hi.fits.own b _ (List.mem_of_getElem? hL)
  have hr := run_storeCells_at P b off t' news 0 cs.toArray W hW (by simp; omega) (one_spec h1)
  simp only [Nat.add_zero] at hr
  have hcs' : (cs.toArray.toList.take off ++ news ++ cs.toArray.toList.drop (off + news.length)).toArray = cs'.toArray := by rw [<- hcs]; rfl
  rw [hcs'] at hr
  have hf := hsrc W hi
  unfold First at hf
  refine ⟨.int .i64 (q : Int), W.setRow b cs'.toArray, upL L j (blk cs' t'), I, .inl ?_, ?_, next⟩
  ·subst hq
   simp only [execOp, resolve, invoke, builtin, eval_opnd he hs, eval_opnd he hx, List.map_toArray, List.map_cons, List.map_nil]
   simp only [Builtin.copy_, Sem.run_bind, T.undOk hu, Result.andThen_ok, hlen, T.sizeOk hz, hf, hr, goInt, Sem.run_pure]
   simp [T.undOk hu, hlen, T.sizeOk hz, hf, hr]
  ·exact ((hi.perm hp).upd (W' := W.setRow b cs'.toArray) rfl rfl rfl (by simp) (fun c _ hcb => setRow_other W b c _ hcb) (setRow_heap W b cs.toArray cs'.toArray t' _ hW)).perm hp'.symm
theorem Run.pieceV {x : Code} (ks : List Nat) (vs : List Value) (d : Nat) (v : Value) (hv : ks.map (look env) = vs.map some) (h : ∀ k', Run P n C k' ((d, v) :: ks.zip vs) L I -> Run P n C (.code x :: k') env L I)
  (next : Run P n C k ((d, v) :: ks.zip vs) L I) : Run P n C (.code x :: k) env L I := h k next
end
end Go.V
namespace Go.V
open Go.RowKit
set_option maxRecDepth 10000
attribute [local irreducible] Run Ops QD
theorem b64ix {n : Nat} (h : n < 64) : Value.int .u8 (((b64A.getD ((n : Nat) : Int).toNat 0).toNat : Nat) : Int) = w8 (b64c n) := by
 unfold b64c
 rw [Nat.mod_eq_of_lt h]; rfl
theorem and15 (a : Nat) : a &&& 15 = a % 16 := Nat.and_two_pow_sub_one_eq_mod a 4
end Go.V
namespace Go.V
open Go.Proofs.Tryz
open Go.RowKit
set_option maxRecDepth 10000
attribute [local irreducible] Run Ops QD
def Wy (I : Imm) (w : Bs) (o : Obj) : Prop := ∃ (v : Value) (ws : Bs) (k : Nat), o = blk [v, .int .i64 (k : Int)] 52 /\ Sl tU8 I v ws /\ k <= ws.length /\ ws.drop k = w /\ ws.length <= 2147483647
theorem Wy.mono {I J : Imm} {w : Bs} {o : Obj} (h : Wy I w o) (hle : Le I J) : Wy J w o := by
 obtain ⟨v, ws, k, h1, h2, h3⟩ := h
 exact ⟨v, ws, k, h1, h2.mono hle, h3⟩
set_option maxHeartbeats 1000000 in
theorem way_take (I : Imm) (w : Bs) (p n : Nat) (o : Obj) (hW : Wy I w o) (hn : 0 < n) (hn2 : n <= 4611686018427387904) :
  Spec prog 37 [.pointer (some ⟨p, 0, none⟩), .int .i64 (n : Int)] I [(p, o)] fun v J M => v = .int .i64 ((tk n w).1 : Int) /\ ∃ o', M = [(p, o')] /\ Wy J (tk n w).2 o' := by
 obtain ⟨v, ws, k, rfl, hS, hk, hd, hl⟩ := hW
 have hS0 := hS
 obtain ⟨A0, c0, rfl⟩ := hS.isSl
 refine Spec.enter 36 [(0, _), (1, _)] func37 rfl ntmps37 (by simp) rfl ?_
 intro C hCf hR hCI
 refine rS ?_
 refine rO (fun Z hZ => (eE rfl (zN hZ ?_)))
 repeat refine rS ?_
 refine Run.regionAny (Holds I [(p, blk [.slice A0 ws.length c0, .int .i64 (k : Int)] 52)]) (bl 10 0) (by kernel_rfl) (by kernel_rfl) (RAny.tk 0 (bl 10 1) rfl (by kernel_rfl) dc (fun W h => h.holds (Le.refl _) (by first | exact mp rfl | exact mq rfl)) (Yld.eval T rfl rfl) (RAny.tk 1 (bl 10 3) rfl (by kernel_rfl) dc (fun W h => h.holds (Le.refl _) (by first | exact mp rfl | exact mq rfl)) (Yld.eval T rfl rfl) (RAny.tk 2 (bl 10 7) rfl (by kernel_rfl) dc (fun W h => h.holds (Le.refl _) (by first | exact mp rfl | exact mq rfl)) (Yld.eval T rfl rfl) (RAny.tk 3 (bl 10 15) rfl (by kernel_rfl) dc (fun W h => h.holds (Le.refl _) (by first | exact mp rfl | exact mq rfl)) (Yld.load 0 T rfl rfl rfl rfl rfl) (RAny.tk 4 (bl 10 31) rfl (by kernel_rfl) dc (fun W h => h.holds (Le.refl _) (by first | exact mp rfl | exact mq rfl)) (Yld.eval T rfl rfl) ?_)))))
 refine RAny.tk 5 (bl 10 63) rfl (by kernel_rfl) dc (fun W h => h.holds (Le.refl _) (by first | exact mp rfl | exact mq rfl)) (Yld.eval T rfl rfl) (RAny.tk 6 (bl 10 127) rfl (by kernel_rfl) dc (fun W h => h.holds (Le.refl _) (by first | exact mp rfl | exact mq rfl)) (Yld.eval T rfl rfl) (RAny.tk 7 (bl 10 255) rfl (by kernel_rfl) dc (fun W h => h.holds (Le.refl _) (by first | exact mp rfl | exact mq rfl)) (Yld.load 0 T rfl rfl rfl rfl rfl) (RAny.tk 8 (bl 10 511) rfl (by kernel_rfl) dc (fun W h => h.holds (Le.refl _) (by first | exact mp rfl | exact mq rfl)) (Yld.lenV T rfl rfl rfl) ?_)))
 skip
 by_cases hlt : k < ws.length
 ·obtain ⟨db, off, c, hRd⟩ := Rd.of hS (fun h => by rw [h] at hlt; simp at hlt)
  cases hRd.eq
  have hget : ws.drop k = ws[k] :: ws.drop (k + 1) := List.drop_eq_getElem_cons hlt
  rw [hget] at hd
  subst hd
  have hb := ws[k].toNat_lt
  have hat := hRd.at' k hlt
  rw [show ws.getD k 0 = ws[k] by rw [List.getD_eq_getElem?_getD, List.getElem?_eq_getElem hlt]; rfl] at hat
  refine RAny.tk 9 (bl 10 1023) rfl (by kernel_rfl) dc (fun W h => h.holds (Le.refl _) (by first | exact mp rfl | exact mq rfl)) (Yld.ev ((Ev.geq rfl rfl).as (show _ = Value.bool false from congrArg Value.bool (decide_eq_false (by omega)))) rfl) (RAny.done _ (by kernel_rfl) ?_)
  repeat (first | refine rS ?_ | refine rK ?_ | refine rF rfl ?_)
  refine rP 5 (fun Z hZ => (eE rfl (eE rfl (eE rfl (gY (Yv.load 0 T rfl rfl rfl rfl) (fE (Ev.addK (r := ((k + 1 : Nat) : Int)) rfl rfl (by rw [wI (by omega) (by omega)]; omega)) (zN hZ ((oP rfl (oP rfl (Ops.store 0 rfl rfl rfl rfl rfl (T.sizeOk rfl) rfl (lb rfl) rfl rfl (Ops.nil (rS ?_)))))))))))))
  refine Run.regionAny (Holds I [(p, blk [.slice (some ⟨db, off, none⟩) ws.length c0, .int .i64 ((k + 1 : Nat) : Int)] 52)]) (bl 15 0) (by kernel_rfl) (by kernel_rfl) (RAny.tk 0 (bl 15 1) rfl (by kernel_rfl) dc (fun W h => h.holds (Le.refl _) (by first | exact mp rfl | exact mq rfl)) (Yld.eval T rfl rfl) (RAny.tk 1 (bl 15 3) rfl (by kernel_rfl) dc (fun W h => h.holds (Le.refl _) (by first | exact mp rfl | exact mq rfl)) (Yld.eval T rfl rfl) (RAny.tk 2 (bl 15 7) rfl (by kernel_rfl) dc (fun W h => h.holds (Le.refl _) (by first | exact mp rfl | exact mq rfl)) (Yld.eval T rfl rfl) (RAny.tk 3 (bl 15 15) rfl (by kernel_rfl) dc (fun W h => h.holds (Le.refl _) (by first | exact mp rfl | exact mq rfl)) (Yld.load 0 T rfl rfl rfl rfl rfl) (RAny.tk 4 (bl 15 31) rfl (by kernel_rfl) dc (fun W h => h.holds (Le.refl _) (by first | exact mp rfl | exact mq rfl)) (Yld.eval T rfl rfl) ?_)))))
  refine RAny.tk 5 (bl 15 63) rfl (by kernel_rfl) dc (fun W h => h.holds (Le.refl _) (by first | exact mp rfl | exact mq rfl)) (Yld.eval T rfl rfl) (RAny.tk 6 (bl 15 127) rfl (by kernel_rfl) dc (fun W h => h.holds (Le.refl _) (by first | exact mp rfl | exact mq rfl)) (Yld.eval T rfl rfl) (RAny.tk 7 (bl 15 255) rfl (by kernel_rfl) dc (fun W h => h.holds (Le.refl _) (by first | exact mp rfl | exact mq rfl)) (Yld.load 0 T rfl rfl rfl rfl rfl) (RAny.tk 8 (bl 15 511) rfl (by kernel_rfl) dc (fun W h => h.holds (Le.refl _) (by first | exact mp rfl | exact mq rfl)) (Yld.ev (Ev.subK (r := (k : Int)) rfl rfl (by rw [wI (by omega) (by omega)]; omega)) rfl) (RAny.tk 9 (bl 15 1023) rfl (by kernel_rfl) dc (fun W h => h.holds (Le.refl _) (by first | exact mp rfl | exact mq rfl)) (Yld.indexSl (t := tU8) T rfl rfl rfl rfl rfl rfl (by omega) (by omega)) ?_))))
  refine RAny.tk 10 (bl 15 2047) rfl (by kernel_rfl) dc (fun W h => h.holds (Le.refl _) (by first | exact mp rfl | exact mq rfl)) (Yld.loadI T hat rfl rfl rfl) (RAny.tk 11 (bl 15 4095) rfl (by kernel_rfl) dc (fun W h => h.holds (Le.refl _) (by first | exact mp rfl | exact mq rfl)) (Yld.ev (Ev.conv (r := ((ws[k].toNat : Nat) : Int)) T rfl rfl rfl (wI (by omega) (by omega))) rfl) (RAny.tk 12 (bl 15 8191) rfl (by kernel_rfl) dc (fun W h => h.holds (Le.refl _) (by first | exact mp rfl | exact mq rfl)) (Yld.eval T rfl rfl) (RAny.tk 13 (bl 15 16383) rfl (by kernel_rfl) dc (fun W h => h.holds (Le.refl _) (by first | exact mp rfl | exact mq rfl)) (Yld.ev (Ev.remI (r := ((ws[k].toNat % n : Nat) : Int)) rfl rfl (by omega) (by rw [Int.tmod_eq_emod_of_nonneg (by omega)]; omega)) rfl) ?_)))
  refine RAny.tk 14 (bl 15 32767) rfl (by kernel_rfl) dc (fun W h => h.holds (Le.refl _) (by first | exact mp rfl | exact mq rfl)) (Yld.eval T rfl rfl) (RAny.done _ (by kernel_rfl) ?_)
  skip
  refine Run.ret1 (by rw [hCf]; exact func37) results37 rfl (hR _ _ _ ?_)
  exact ⟨rfl, _, rfl, _, ws, k + 1, rfl, hS0, by omega, rfl, hl⟩
 ·skip
  skip
  have hk' : k = ws.length := by omega
  have hd' : w = [] := by rw [<- hd, hk', List.drop_length]
  subst hd'
  refine RAny.tk 9 (bl 10 1023) rfl (by kernel_rfl) dc (fun W h => h.holds (Le.refl _) (by first | exact mp rfl | exact mq rfl)) (Yld.ev ((Ev.geq rfl rfl).as (show _ = Value.bool true from congrArg Value.bool (decide_eq_true (by omega)))) rfl) (RAny.done _ (by kernel_rfl) ?_)
  repeat (first | refine rS ?_ | refine rT rfl ?_)
  refine rO (fun Z hZ => (eE rfl (zN hZ ?_)))
  skip
  refine Run.ret1 (by rw [hCf]; exact func37) results37 rfl (hR _ _ _ ?_)
  exact ⟨rfl, _, rfl, _, ws, k, rfl, hS0, hk, hd, hl⟩
end Go.V
namespace Go.V
open Go.RowKit
set_option maxRecDepth 10000
def hexTJ : Bs := [48, 49, 50, 51, 52, 53, 54, 55, 56, 57, 97, 98, 99, 100, 101, 102]
theorem hexT_fin : ∀ k : Fin 16, hexTJ.getD k.val 0 = hexD k.val := by decide
theorem hexV16 {n : Nat} (h : n < 16) : Value.int .u8 (((hexTJ.getD ((n : Nat) : Int).toNat 0).toNat : Nat) : Int) = w8 (hexD n) := by
 rw [Int.toNat_natCast, hexT_fin ⟨n, h⟩]
theorem hexD_mod (n : Nat) : hexD (n % 16) = hexD n := by unfold hexD; simp
theorem quo1_len {c : Nat} (g : goodR c) : (quo1 c).length <= 6 := by
 have h := encR_pos c
 unfold quo1 hexes
 repeat' split
 all_goals simp <;> omega
theorem flat_len : ∀ (rs : List Nat), (∀ r ∈ rs, goodR r) -> (rs.flatMap quo1).length <= 6 * rs.length
 | [], _ => by simp
 | r :: rs, h => by
  have := flat_len rs fun x hx => h x (by simp [hx])
  have := quo1_len (h r (by simp))
  simp only [List.flatMap_cons, List.length_append, List.length_cons]; omega
end Go.V
namespace Go.V
open Go.Proofs.Tryz
open Go.RowKit
set_option maxRecDepth 10000
attribute [local irreducible] Run Ops QD
theorem way_blank (I : Imm) (w : Bs) (p : Nat) (o : Obj) (hW : Wy I w o) :
  Spec prog 35 [.pointer (some ⟨p, 0, none⟩)] I [(p, o)] fun v J M => v = str (blk5 w).1 /\ ∃ o', M = [(p, o')] /\ Wy J (blk5 w).2 o' := by
 have h5 : (tk 5 w).1 < 5 := by
  cases w with
  | nil => exact Nat.zero_lt_succ _
  | cons b t => exact Nat.mod_lt _ (by decide)
 refine Spec.enter 8 [(0, _)] func35 rfl ntmps35 (by simp) rfl ?_
 intro C hCf hR hCI
 refine rS ?_
 refine rO (fun Z hZ => (eE rfl (zN hZ ((rS (Run.region (Ops.lit T rfl rfl rfl dc rfl dc dc rfl rfl rfl rfl rfl (fun bq => (Ops.freezeAt 0 rfl rfl fun J1 l1 hJ1 => ?_)))))))))
 have hS : Sl tStr J1 (.slice (some ⟨bq, 0, none⟩) 5 5) blks := Sl.ofBlock hJ1 (Cells.strs blks) rfl (Nat.le_refl _)
 refine oP rfl (Ops.callP (N := []) ((way_take J1 w p 5 o (hW.mono l1) dc dc)) (.refl _) rfl dc call37 rfl ?_)
 rintro v J2 M2 l2 ⟨rfl, o', rfl, hW'⟩
 refine Ops.indexSl (j := ((tk 5 w).1 : Int)) (hS.mono l2) rfl dc rfl rfl (T.undOk rfl) (T.sizeOk rfl) (by omega) (by show _ < (5 : Int); omega) fun bb off q cs hq hr hA => ?_
 obtain rfl : cs = [str q] := hr
 rw [Int.toNat_natCast] at hq
 have he : (blk5 w).1 = q := by unfold blk5; rw [List.getD_eq_getElem?_getD, hq]; rfl
 refine Ops.loadI rfl dc rfl hA (T.aggOk rfl) (oP rfl (Ops.nil ?_))
 skip
 refine Run.ret1 (by rw [hCf]; exact func35) results35 rfl (hR _ _ _ ?_)
 exact ⟨by rw [he], o', rfl, hW'⟩
set_option maxHeartbeats 1000000 in
theorem spec_hexes (I : Imm) (x : Nat) (hx : x < 1114112) : Pure prog 52 [.int .i32 (x : Int)] I fun w J => w = str (hexes x) := by
 have e : hexes x = [hexD (x / 2 ^ 12 % 16), hexD (x / 2 ^ 8 % 16), hexD (x / 2 ^ 4 % 16), hexD (x % 16)] := by
  rw [hexD_mod, hexD_mod, hexD_mod, hexD_mod]; rfl
 refine Spec.enter 25 [(0, _)] func52 rfl ntmps52 (by simp) rfl ?_
 intro C hCf hR hCI
 refine rS ?_
 refine rO (fun Z hZ => (eE rfl (zN hZ ((rS (rO (fun Z hZ => (eE rfl (zN hZ ((rS ?_)))))))))))
 refine Run.regionAny (fun _ => True) (bl 22 0) (by kernel_rfl) (by kernel_rfl) (RAny.tk 0 (bl 22 1) rfl (by kernel_rfl) dc (fun _ _ => trivial) (Yld.eval T rfl rfl) (RAny.tk 1 (bl 22 3) rfl (by kernel_rfl) dc (fun _ _ => trivial) (Yld.eval T rfl rfl) (RAny.tk 2 (bl 22 7) rfl (by kernel_rfl) dc (fun _ _ => trivial) (Yld.ev (Ev.shrK rfl rfl dc dc (shrL x 12)) rfl) (RAny.tk 3 (bl 22 15) rfl (by kernel_rfl) dc (fun _ _ => trivial) (Yld.ev (Ev.andK (a := x / 2 ^ 12) (b := 15) (c := x / 2 ^ 12 % 16) rfl rfl (by show _ < 4294967296; omega) dc (and15 _) (wrapI32 (by omega) (by omega))) rfl) (RAny.tk 4 (bl 22 31) rfl (by kernel_rfl) dc (fun _ _ => trivial) (Yld.ev ((Ev.indexT (s := hexTJ) T rfl rfl rfl (by omega) (by show _ < (16 : Int); omega)).as (hexV16 (n := x / 2 ^ 12 % 16) (by omega))) rfl) (RAny.tk 5 (bl 22 63) rfl (by kernel_rfl) dc (fun _ _ => trivial) (Yld.eval T rfl rfl) ?_))))))
 refine RAny.tk 6 (bl 22 127) rfl (by kernel_rfl) dc (fun _ _ => trivial) (Yld.eval T rfl rfl) (RAny.tk 7 (bl 22 255) rfl (by kernel_rfl) dc (fun _ _ => trivial) (Yld.ev (Ev.shrK rfl rfl dc dc (shrL x 8)) rfl) (RAny.tk 8 (bl 22 511) rfl (by kernel_rfl) dc (fun _ _ => trivial) (Yld.ev (Ev.andK (a := x / 2 ^ 8) (b := 15) (c := x / 2 ^ 8 % 16) rfl rfl (by show _ < 4294967296; omega) dc (and15 _) (wrapI32 (by omega) (by omega))) rfl) (RAny.tk 9 (bl 22 1023) rfl (by kernel_rfl) dc (fun _ _ => trivial) (Yld.ev ((Ev.indexT (s := hexTJ) T rfl rfl rfl (by omega) (by show _ < (16 : Int); omega)).as (hexV16 (n := x / 2 ^ 8 % 16) (by omega))) rfl) (RAny.tk 10 (bl 22 2047) rfl (by kernel_rfl) dc (fun _ _ => trivial) (Yld.eval T rfl rfl) (RAny.tk 11 (bl 22 4095) rfl (by kernel_rfl) dc (fun _ _ => trivial) (Yld.eval T rfl rfl) ?_)))))
 refine RAny.tk 12 (bl 22 8191) rfl (by kernel_rfl) dc (fun _ _ => trivial) (Yld.ev (Ev.shrK rfl rfl dc dc (shrL x 4)) rfl) (RAny.tk 13 (bl 22 16383) rfl (by kernel_rfl) dc (fun _ _ => trivial) (Yld.ev (Ev.andK (a := x / 2 ^ 4) (b := 15) (c := x / 2 ^ 4 % 16) rfl rfl (by show _ < 4294967296; omega) dc (and15 _) (wrapI32 (by omega) (by omega))) rfl) (RAny.tk 14 (bl 22 32767) rfl (by kernel_rfl) dc (fun _ _ => trivial) (Yld.ev ((Ev.indexT (s := hexTJ) T rfl rfl rfl (by omega) (by show _ < (16 : Int); omega)).as (hexV16 (n := x / 2 ^ 4 % 16) (by omega))) rfl) (RAny.tk 15 (bl 22 65535) rfl (by kernel_rfl) dc (fun _ _ => trivial) (Yld.eval T rfl rfl) (RAny.tk 16 (bl 22 131071) rfl (by kernel_rfl) dc (fun _ _ => trivial) (Yld.eval T rfl rfl) ?_))))
 refine RAny.tk 17 (bl 22 262143) rfl (by kernel_rfl) dc (fun _ _ => trivial) (Yld.ev (Ev.andK (a := x) (b := 15) (c := x % 16) rfl rfl (by show _ < 4294967296; omega) dc (and15 _) (wrapI32 (by omega) (by omega))) rfl) (RAny.tk 18 (bl 22 524287) rfl (by kernel_rfl) dc (fun _ _ => trivial) (Yld.ev ((Ev.indexT (s := hexTJ) T rfl rfl rfl (by omega) (by show _ < (16 : Int); omega)).as (hexV16 (n := x % 16) (by omega))) rfl) (RAny.on 19 (bl 22 1048575) rfl (by kernel_rfl) rfl dc (Eff.lit T rfl rfl rfl dc dc rfl rfl rfl rfl rfl fun bq => ⟨fun _ _ => trivial, (RAny.on 20 (bl 22 2097151) rfl (by kernel_rfl) rfl dc (Eff.yv (Yv.bytesBuf (xs := hexes x) (N := [(bq, blk ([] ++ wb (hexes x) ++ []) 5)]) T (.inr ⟨bq, [], [], 4, rfl, rfl, by rw [e]; simp, by rw [e]; simp⟩) (fun _ h => by rw [List.mem_singleton.1 h, e]; exact List.mem_singleton.2 rfl) rfl rfl rfl rfl) ⟨fun _ _ => trivial, ?_⟩))⟩)))
 refine RAny.tk 21 (bl 22 4194303) rfl (by kernel_rfl) dc (fun _ _ => trivial) (Yld.eval T rfl rfl) (RAny.done _ (by kernel_rfl) ?_)
 skip
 refine Run.fin (Run.ret1 (by rw [hCf]; exact func52) results52 rfl (hR _ _ _ ?_))
 exact ⟨rfl, rfl⟩
end Go.V
namespace Go.V
open Go.RowKit
set_option maxRecDepth 10000
attribute [local irreducible] Run Ops QD
theorem ba_sizeJ (s : Bs) : (ba s).size = s.length := str_size s
theorem getD_drop0 (s : Bs) (p k : Nat) : (s.drop p).getD k 0 = s.getD (p + k) 0 := by rw [List.getD_eq_getElem?_getD, List.getD_eq_getElem?_getD, List.getElem?_drop]
theorem runeAt_drop (s : Bs) (p : Nat) : runeAt s p = runeAt (s.drop p) 0 := by
 have e : ∀ k, (0 + k < (s.drop p).length) = (p + k < s.length) := fun k => propext (by rw [List.length_drop]; omega)
 unfold runeAt Utf8.decode
 simp only [Nat.add_zero, ba_get, ba_sizeJ, getD_drop0, Nat.zero_add] at e ⊢
 simp only [e]
theorem runeAt_mid {c : Nat} (g : goodR c) (a t : Bs) : runeAt (a ++ (encR (c : Int) ++ t)) a.length = (c, (encR (c : Int)).length) := by
 rw [runeAt_drop, List.drop_left]; exact runeAt_enc g t
theorem Ev.convRune {P : Program} {n : Nat} {env : Env} {x : Operand} {src dst : TypeId} {kd : IntKind} {r : Int} (T : Tab P) (hs : T.und src = some (.int kd)) (ht : T.und dst = some .string) (hx : opnd env x = some (.int kd r)) : Ev P n env (.convert src dst x) (str (encR r)) :=
 fun a W he _ _ _ _ _ => by
  simp [execOp, eval_opnd he hx, convert, T.undOk hs, T.undOk ht, Conv.intToString, encR_str]
end Go.V
namespace Go.V
open Go.Proofs.Tryz
open Go.RowKit Go.MapKept
set_option maxRecDepth 10000
attribute [local irreducible] Run Ops QD
section
variable {P : Program} {n : Nat} {C : Cx} {k : List Item} {env : Env} {L : Own} {I : Imm} {ops : Array Oper} {i : Nat} {l : List Oper}
variable {ty : TypeId} {ps : String} {af : Array Edge} {g : Option (Nat × Bool)} {d : Nat}
theorem Ops.newMap {t : TypeId} (hg : want env ops g = some true) (hd : d < n)
  (next : ∀ b, Ops P n C ops (i + 1) l k ((d, .map (some b)) :: env) ((b, .map #[] 0) :: L) I) : Ops P n C ops i (⟨some d, .makeMap t none, ty, ps, af, g⟩ :: l) k env L I :=
 Ops.valW hg (dOk hd) fun a W he hi => ⟨.map (some W.heap.size), W.alloc (.map #[] 0), (W.heap.size, .map #[] 0) :: L, I,
  .inl (by
   have : ({ W with heap := W.heap.push (.map #[] 0) } : World) = W.alloc (.map #[] 0) := rfl
   simp [execOp, Instr.makeMap, newObj, Sem.run, this]; try rfl), hi.alloc _, next _⟩
theorem Ops.insC {t kt et : TypeId} {x y z : Operand} {b clock : Nat} {es : Array MapEntry} {key v : Value} {dk : TypeDesc} (j : Nat) (T : Tab P) (hg : want env ops g = some true) (hx : opnd env x = some (.map (some b))) (hy : opnd env y = some key) (hz : opnd env z = some v)
  (hL : L[j]? = some (b, .map es clock)) (hu : T.und t = some (.map kt et)) (hk : T.und kt = some dk) (hkey : IsKey dk key) (hf : Instr.findNow dk key es.toList 0 = some none)
  (next : Ops P n C ops (i + 1) l k env (upL L j (.map (es.push { key := key, val := v, born := clock }) (clock + 1))) I) : Ops P n C ops i (⟨none, .insert t x y z, ty, ps, af, g⟩ :: l) k env L I :=
 Ops.valW hg dNo fun a W he hi => by
  have hW := hi.fits.own b _ (List.mem_of_getElem? hL)
  obtain ⟨R, hp1, hp2⟩ := upL_perm L j b _ (.map (es.push { key := key, val := v, born := clock }) (clock + 1)) hL
  refine ⟨undef, _, _, I, .inr ⟨?_, rfl⟩, ((hi.perm hp1).setObj _).perm hp2.symm, next⟩
  have hu' := und_of_run (W := W) (T.undOk hu W)
  have hk' := und_of_run (W := W) (T.undOk hk W)
  have hgo := run_getObj (P := P) hW (fun _ _ _ h => by cases h)
  have hc : (Instr.checkKey false 10000 kt key).run P W = .ok () W := run_checkKey hk' hkey false 9999
  have hF := run_findKey (P := P) (w := W) hk' hf
  have hs := run_setObj (P := P) (o' := .map (es.push { key := key, val := v, born := clock }) (clock + 1)) hW (fun _ _ _ h => by cases h)
  have hr : (Instr.mapUpdate t (.map (some b)) key v).run P W = .ok () { W with heap := W.heap.setIfInBounds b (.map (es.push { key := key, val := v, born := clock }) (clock + 1)) } := by
   simp only [Instr.mapUpdate, Sem.run_bind, run_underlying hu', Result.andThen_ok, hgo, hc, hF, hs]
  simp only [execOp, eval_opnd he hx, eval_opnd he hy, eval_opnd he hz, Sem.run_bind, hr, Result.andThen_ok]; rfl
theorem Ops.lookC {t kt et : TypeId} {x y : Operand} {b clock q : Nat} {es : Array MapEntry} {key v : Value} {dk : TypeDesc} (j : Nat) (T : Tab P) (hg : want env ops g = some true) (hd : d < n) (hx : opnd env x = some (.map (some b))) (hy : opnd env y = some key)
  (hL : L[j]? = some (b, .map es clock)) (hu : T.und t = some (.map kt et)) (hk : T.und kt = some dk) (hkey : IsKey dk key) (hf : Instr.findNow dk key es.toList 0 = some (some (q, v)))
  (next : Ops P n C ops (i + 1) l k ((d, v) :: env) L I) : Ops P n C ops i (⟨some d, .lookup t x y false, ty, ps, af, g⟩ :: l) k env L I :=
 Ops.val hg (dOk hd) (fun a W he hi => by
  have hW := hi.fits.own b _ (List.mem_of_getElem? hL)
  have hu' := und_of_run (W := W) (T.undOk hu W)
  have hk' := und_of_run (W := W) (T.undOk hk W)
  have hgo := run_getObj (P := P) hW (fun _ _ _ h => by cases h)
  have hc : (Instr.checkKey es.isEmpty 10000 kt key).run P W = .ok () W := run_checkKey hk' hkey es.isEmpty 9999
  have hF := run_findKey (P := P) (w := W) hk' hf
  have hr : (Instr.lookup t (.map (some b)) key false).run P W = .ok v W := by
   simp only [Instr.lookup, Sem.run_bind, run_underlying hu', Result.andThen_ok, hgo, hc, hF, Sem.run_pure]; rfl
  simp only [execOp, eval_opnd he hx, eval_opnd he hy, Sem.run_bind, hr, Result.andThen_ok]; rfl) next
end
def quoI (b : Nat) (rs : List Nat) (m : Nat) (env : Env) (L : Own) (J : Imm) : Prop := ∃ u rest : List Nat, m = rest.length /\ rs = u ++ rest /\
  env = [(0, str (encs rs)), (3, str (34 :: u.flatMap quo1)), (7, .pointer (some ⟨b, 0, none⟩))] /\ L = [(b, .stringIter (ba (encs rs)) (encs u).length)]
theorem encs_len_le4 : ∀ rs : List Nat, (encs rs).length <= 4 * rs.length
 | [] => by simp [encs]
 | r :: rs => by
  have := encs_len_le4 rs
  have := encR_pos r
  rw [encs_cons, List.length_append, List.length_cons]; omega
set_option maxHeartbeats 4000000 in
theorem spec_quoted (I : Imm) (rs : List Nat) (hg : ∀ r ∈ rs, goodR r) (hs : rs.length <= 137438953472) : Pure prog 48 [str (encs rs)] I fun w J => w = str (quo rs) := by
 refine Spec.enter 104 [(0, _)] func48 rfl ntmps48 (by simp) rfl ?_
 intro C hCf hR hCI
 refine rS ?_
 refine rO (fun Z hZ => (eE rfl (zN hZ ((rS (rO (fun Z hZ => (eE rfl (zN hZ ?_)))))))))
 repeat refine rS ?_
 refine rP 1 (fun Z hZ => (eE rfl (zN hZ ((Ops.rangeStr T rfl dc rfl rfl (fun b => (Ops.nil (rB (Run.keep [0, 3, 7] [_, _, _] rfl (Run.rounds (quoI b rs) rs.length ⟨[], rs, rfl, rfl, rfl, rfl⟩ ?_))))))))))
 rintro m env L J ⟨u, rest, rfl, hrs, rfl, rfl⟩ ih
 have hul := flat_len u fun r hr => hg r (by rw [hrs]; simp [hr])
 have hrl := congrArg List.length hrs
 rw [List.length_append] at hrl
 refine rS ?_
 cases rest with
 | nil =>
  rw [List.append_nil] at hrs
  subst hrs
  refine Run.region (Ops.nextStrEnd 0 rfl dc rfl rfl (by omega) (oP rfl (Ops.nil ?_)))
  repeat (first | refine rS ?_ | refine Run.exit rfl ?_ | refine rF rfl ?_)
  refine rO (fun Z hZ => (eE rfl (fE ((Ev.catS rfl rfl (by simp only [List.length_append, List.length_cons, List.length_nil] at *; omega)).as (show _ = str (quo rs) from congrArg str (by unfold quo; simp))) (eE rfl (zN hZ ?_)))))
  skip
  refine Run.fin (Run.ret1 (by rw [hCf]; exact func48) results48 rfl (hR _ _ _ ?_))
  exact ⟨rfl, rfl⟩
 | cons c rest =>
  have g := hg c (by rw [hrs]; simp)
  have hgl := g
  unfold goodR at hgl
  have hep := encR_pos c
  have hlen := encR_len g
  have hgood := encR_good g
  have hse : encs rs = encs u ++ (encR (c : Int) ++ encs rest) := by rw [hrs, encs_append, encs_cons]
  have hrune : runeAt (encs rs) (encs u).length = (c, (encR (c : Int)).length) := by rw [hse]; exact runeAt_mid g _ _
  have hsl := congrArg List.length hse
  simp only [List.length_append] at hsl
  simp only [List.length_cons] at hrl
  have h4 := encs_len_le4 rs
  refine Run.region (Ops.nextStr 0 rfl dc rfl rfl (by omega) ?_)
  rw [hrune]
  refine oP rfl (Ops.nil ?_)
  repeat (first | refine rS ?_ | refine rK ?_ | refine rB ?_ | refine rT rfl ?_)
  refine rO (fun Z hZ => ?_)
  iterate 4 refine eE rfl ?_
  refine zN hZ ?_
  repeat (first | refine rS ?_ | refine rB ?_)
  by_cases h34 : c = 34 \/ c = 92
  ·have hq : quo1 c = 92 :: encR (c : Int) := by unfold quo1; rw [if_pos h34]
   rcases h34 with h34 | h34
   ·skip
    refine rO (fun Z hZ => (eE rfl (kT (Ev.eqlI rfl rfl) (by omega) (eE rfl (oF (oF (eE rfl (eE rfl (zN hZ ((rT rfl (rO (fun Z hZ => (eE rfl (eE rfl (fE (Ev.convRune T rfl rfl rfl) (fE (Ev.catS rfl rfl (by simp only [List.length_append, List.length_cons, List.length_nil] at *; omega)) (fE ((Ev.catS rfl rfl (by simp only [List.length_append, List.length_cons, List.length_nil] at *; omega)).as (show _ = str (34 :: u.flatMap quo1 ++ quo1 c) from congrArg str (by rw [hq]; simp only [List.cons_append, List.nil_append]))) (eE rfl (zN hZ ?_))))))))))))))))))))
    repeat refine rI ?_
    refine Run.dropL (L' := [(b, _)]) (List.Sublist.refl _) ?_
    refine Run.keep [0, 3, 7] [_, _, _] rfl ?_
    exact ih rest.length _ _ _ (by simp only [List.length_cons]; omega) ⟨u ++ [c], rest, rfl, by rw [hrs]; simp, by rw [List.flatMap_append, List.flatMap_singleton]; rfl, by rw [encs_append, List.length_append]; simp [encs]⟩
   ·skip
    refine rO (fun Z hZ => (eE rfl (kF (Ev.eqlI rfl rfl) (by omega) (eE rfl (eE rfl (kT (Ev.eqlI rfl rfl) (by omega) (eE rfl (eE rfl (zN hZ ((rT rfl (rO (fun Z hZ => (eE rfl (eE rfl (fE (Ev.convRune T rfl rfl rfl) (fE (Ev.catS rfl rfl (by simp only [List.length_append, List.length_cons, List.length_nil] at *; omega)) (fE ((Ev.catS rfl rfl (by simp only [List.length_append, List.length_cons, List.length_nil] at *; omega)).as (show _ = str (34 :: u.flatMap quo1 ++ quo1 c) from congrArg str (by rw [hq]; simp only [List.cons_append, List.nil_append]))) (eE rfl (zN hZ ?_))))))))))))))))))))
    repeat refine rI ?_
    refine Run.dropL (L' := [(b, _)]) (List.Sublist.refl _) ?_
    refine Run.keep [0, 3, 7] [_, _, _] rfl ?_
    exact ih rest.length _ _ _ (by simp only [List.length_cons]; omega) ⟨u ++ [c], rest, rfl, by rw [hrs]; simp, by rw [List.flatMap_append, List.flatMap_singleton]; rfl, by rw [encs_append, List.length_append]; simp [encs]⟩
  have h34a : ¬ c = 34 := fun h => h34 (.inl h)
  have h34b : ¬ c = 92 := fun h => h34 (.inr h)
  refine rO (fun Z hZ => (eE rfl (kF (Ev.eqlI rfl rfl) (by omega) (eE rfl (eE rfl (kF (Ev.eqlI rfl rfl) (by omega) (eE rfl (eE rfl (zN hZ ?_)))))))))
  repeat (first | refine rS ?_ | refine rF rfl ?_)
  by_cases h8 : c = 8
  ·subst h8
   refine rO (fun Z hZ => (eE rfl (kT (Ev.eqlI rfl rfl) (by omega) (eE rfl (oF (oF (eE rfl (eE rfl (oF (oF (eE rfl (eE rfl (oF (oF (eE rfl (eE rfl (oF (oF (eE rfl (eE rfl (zN hZ ((rT rfl ?_)))))))))))))))))))))))
   have hkey : ∀ c : Int, IsKey (.int .i32) (.int .i32 c) := fun c => rfl
   refine Run.region (oP rfl (Ops.newMap rfl dc fun bm => ?_))
   iterate 5 refine Ops.insC 0 T rfl rfl rfl rfl rfl rfl rfl (hkey _) rfl ?_
   iterate 2 refine oP rfl ?_
   refine Ops.lookC 0 T rfl dc rfl rfl rfl rfl rfl (hkey _) rfl (Ops.ev (Ev.catS rfl rfl dc) rfl dc (Ops.ev ((Ev.catS rfl rfl (by simp only [List.length_append, List.length_cons, List.length_nil] at *; omega)).as (show _ = str (34 :: u.flatMap quo1 ++ quo1 8) from congrArg str (by rw [show quo1 8 = [92, 98] from rfl]; rfl))) rfl dc (oP rfl (Ops.nil ?_))))
   repeat refine rI ?_
   refine Run.dropL (L' := [(b, _)]) (List.sublist_cons_self _ _) ?_
   refine Run.keep [0, 3, 7] [_, _, _] rfl ?_
   exact ih rest.length _ _ _ (by simp only [List.length_cons]; omega) ⟨u ++ [8], rest, rfl, by rw [hrs]; simp, by rw [List.flatMap_append, List.flatMap_singleton]; rfl, by rw [encs_append, List.length_append]; simp [encs]⟩
  by_cases h12 : c = 12
  ·subst h12
   refine rO (fun Z hZ => (eE rfl (kF (Ev.eqlI rfl rfl) (by omega) (eE rfl (eE rfl (kT (Ev.eqlI rfl rfl) (by omega) (eE rfl (eE rfl (oF (oF (eE rfl (eE rfl (oF (oF (eE rfl (eE rfl (oF (oF (eE rfl (eE rfl (zN hZ ((rT rfl ?_)))))))))))))))))))))))
   have hkey : ∀ c : Int, IsKey (.int .i32) (.int .i32 c) := fun c => rfl
   refine Run.region (oP rfl (Ops.newMap rfl dc fun bm => ?_))
   iterate 5 refine Ops.insC 0 T rfl rfl rfl rfl rfl rfl rfl (hkey _) rfl ?_
   iterate 2 refine oP rfl ?_
   refine Ops.lookC 0 T rfl dc rfl rfl rfl rfl rfl (hkey _) rfl (Ops.ev (Ev.catS rfl rfl dc) rfl dc (Ops.ev ((Ev.catS rfl rfl (by simp only [List.length_append, List.length_cons, List.length_nil] at *; omega)).as (show _ = str (34 :: u.flatMap quo1 ++ quo1 12) from congrArg str (by rw [show quo1 12 = [92, 102] from rfl]; rfl))) rfl dc (oP rfl (Ops.nil ?_))))
   repeat refine rI ?_
   refine Run.dropL (L' := [(b, _)]) (List.sublist_cons_self _ _) ?_
   refine Run.keep [0, 3, 7] [_, _, _] rfl ?_
   exact ih rest.length _ _ _ (by simp only [List.length_cons]; omega) ⟨u ++ [12], rest, rfl, by rw [hrs]; simp, by rw [List.flatMap_append, List.flatMap_singleton]; rfl, by rw [encs_append, List.length_append]; simp [encs]⟩
  by_cases h10 : c = 10
  ·subst h10
   refine rO (fun Z hZ => (eE rfl (kF (Ev.eqlI rfl rfl) (by omega) (eE rfl (eE rfl (kF (Ev.eqlI rfl rfl) (by omega) (eE rfl (eE rfl (eE rfl (kT (Ev.eqlI rfl rfl) (by omega) (eE rfl (eE rfl (oF (oF (eE rfl (eE rfl (oF (oF (eE rfl (eE rfl (zN hZ ((rT rfl ?_)))))))))))))))))))))))
   have hkey : ∀ c : Int, IsKey (.int .i32) (.int .i32 c) := fun c => rfl
   refine Run.region (oP rfl (Ops.newMap rfl dc fun bm => ?_))
   iterate 5 refine Ops.insC 0 T rfl rfl rfl rfl rfl rfl rfl (hkey _) rfl ?_
   iterate 2 refine oP rfl ?_
   refine Ops.lookC 0 T rfl dc rfl rfl rfl rfl rfl (hkey _) rfl (Ops.ev (Ev.catS rfl rfl dc) rfl dc (Ops.ev ((Ev.catS rfl rfl (by simp only [List.length_append, List.length_cons, List.length_nil] at *; omega)).as (show _ = str (34 :: u.flatMap quo1 ++ quo1 10) from congrArg str (by rw [show quo1 10 = [92, 110] from rfl]; rfl))) rfl dc (oP rfl (Ops.nil ?_))))
   repeat refine rI ?_
   refine Run.dropL (L' := [(b, _)]) (List.sublist_cons_self _ _) ?_
   refine Run.keep [0, 3, 7] [_, _, _] rfl ?_
   exact ih rest.length _ _ _ (by simp only [List.length_cons]; omega) ⟨u ++ [10], rest, rfl, by rw [hrs]; simp, by rw [List.flatMap_append, List.flatMap_singleton]; rfl, by rw [encs_append, List.length_append]; simp [encs]⟩
  by_cases h13 : c = 13
  ·subst h13
   refine rO (fun Z hZ => (eE rfl (kF (Ev.eqlI rfl rfl) (by omega) (eE rfl (eE rfl (kF (Ev.eqlI rfl rfl) (by omega) (eE rfl (eE rfl (eE rfl (kF (Ev.eqlI rfl rfl) (by omega) (eE rfl (eE rfl (eE rfl (kT (Ev.eqlI rfl rfl) (by omega) (eE rfl (eE rfl (oF (oF (eE rfl (eE rfl (zN hZ ((rT rfl ?_)))))))))))))))))))))))
   have hkey : ∀ c : Int, IsKey (.int .i32) (.int .i32 c) := fun c => rfl
   refine Run.region (oP rfl (Ops.newMap rfl dc fun bm => ?_))
   iterate 5 refine Ops.insC 0 T rfl rfl rfl rfl rfl rfl rfl (hkey _) rfl ?_
   iterate 2 refine oP rfl ?_
   refine Ops.lookC 0 T rfl dc rfl rfl rfl rfl rfl (hkey _) rfl (Ops.ev (Ev.catS rfl rfl dc) rfl dc (Ops.ev ((Ev.catS rfl rfl (by simp only [List.length_append, List.length_cons, List.length_nil] at *; omega)).as (show _ = str (34 :: u.flatMap quo1 ++ quo1 13) from congrArg str (by rw [show quo1 13 = [92, 114] from rfl]; rfl))) rfl dc (oP rfl (Ops.nil ?_))))
   repeat refine rI ?_
   refine Run.dropL (L' := [(b, _)]) (List.sublist_cons_self _ _) ?_
   refine Run.keep [0, 3, 7] [_, _, _] rfl ?_
   exact ih rest.length _ _ _ (by simp only [List.length_cons]; omega) ⟨u ++ [13], rest, rfl, by rw [hrs]; simp, by rw [List.flatMap_append, List.flatMap_singleton]; rfl, by rw [encs_append, List.length_append]; simp [encs]⟩
  by_cases h9 : c = 9
  ·subst h9
   refine rO (fun Z hZ => (eE rfl (kF (Ev.eqlI rfl rfl) (by omega) (eE rfl (eE rfl (kF (Ev.eqlI rfl rfl) (by omega) (eE rfl (eE rfl (eE rfl (kF (Ev.eqlI rfl rfl) (by omega) (eE rfl (eE rfl (eE rfl (kF (Ev.eqlI rfl rfl) (by omega) (eE rfl (eE rfl (eE rfl (kT (Ev.eqlI rfl rfl) (by omega) (eE rfl (eE rfl (zN hZ ((rT rfl ?_)))))))))))))))))))))))
   have hkey : ∀ c : Int, IsKey (.int .i32) (.int .i32 c) := fun c => rfl
   refine Run.region (oP rfl (Ops.newMap rfl dc fun bm => ?_))
   iterate 5 refine Ops.insC 0 T rfl rfl rfl rfl rfl rfl rfl (hkey _) rfl ?_
   iterate 2 refine oP rfl ?_
   refine Ops.lookC 0 T rfl dc rfl rfl rfl rfl rfl (hkey _) rfl (Ops.ev (Ev.catS rfl rfl dc) rfl dc (Ops.ev ((Ev.catS rfl rfl (by simp only [List.length_append, List.length_cons, List.length_nil] at *; omega)).as (show _ = str (34 :: u.flatMap quo1 ++ quo1 9) from congrArg str (by rw [show quo1 9 = [92, 116] from rfl]; rfl))) rfl dc (oP rfl (Ops.nil ?_))))
   repeat refine rI ?_
   refine Run.dropL (L' := [(b, _)]) (List.sublist_cons_self _ _) ?_
   refine Run.keep [0, 3, 7] [_, _, _] rfl ?_
   exact ih rest.length _ _ _ (by simp only [List.length_cons]; omega) ⟨u ++ [9], rest, rfl, by rw [hrs]; simp, by rw [List.flatMap_append, List.flatMap_singleton]; rfl, by rw [encs_append, List.length_append]; simp [encs]⟩
  refine rO (fun Z hZ => (eE rfl (kF (Ev.eqlI rfl rfl) (by omega) (eE rfl (eE rfl (kF (Ev.eqlI rfl rfl) (by omega) (eE rfl (eE rfl (eE rfl (kF (Ev.eqlI rfl rfl) (by omega) (eE rfl (eE rfl (eE rfl (kF (Ev.eqlI rfl rfl) (by omega) (eE rfl (eE rfl (eE rfl (kF (Ev.eqlI rfl rfl) (by omega) (eE rfl (eE rfl (zN hZ ?_)))))))))))))))))))))
  repeat (first | refine rS ?_ | refine rF rfl ?_)
  by_cases hx : c < 32 \/ c = 60 \/ c = 62 \/ c = 38 \/ c = 8232 \/ c = 8233
  ·have hq : quo1 c = [92, 117] ++ hexes c := by unfold quo1; rw [if_neg h34, if_neg h8, if_neg h12, if_neg h10, if_neg h13, if_neg h9, if_pos hx]
   by_cases hx0 : c < 32
   ·skip
    refine rO (fun Z hZ => (eE rfl (kT (Ev.lss rfl rfl) (by omega) (eE rfl (oF (oF (eE rfl (eE rfl (oF (oF (eE rfl (eE rfl (oF (oF (eE rfl (eE rfl (oF (oF (eE rfl (eE rfl (oF (oF (eE rfl (eE rfl (zN hZ ((rT rfl (rP 2 (fun Z hZ => (eE rfl (eE rfl (zN hZ ((Ops.call ((spec_hexes _ c (by omega))) rfl dc call52 rfl ?_))))))))))))))))))))))))))))))))))
    rintro w J l rfl
    refine Ops.ev (Ev.catS rfl rfl (by simp [hexes])) rfl dc (Ops.ev ((Ev.catS rfl rfl (by simp only [List.length_append, List.length_cons, List.length_nil, hexes] at *; omega)).as (show _ = str (34 :: u.flatMap quo1 ++ quo1 c) from congrArg str (by rw [hq]))) rfl dc (oP rfl (Ops.nil ?_)))
    repeat refine rI ?_
    refine Run.dropL (L' := [(b, _)]) (List.Sublist.refl _) ?_
    refine Run.keep [0, 3, 7] [_, _, _] rfl ?_
    exact ih rest.length _ _ _ (by simp only [List.length_cons]; omega) ⟨u ++ [c], rest, rfl, by rw [hrs]; simp, by rw [List.flatMap_append, List.flatMap_singleton]; rfl, by rw [encs_append, List.length_append]; simp [encs]⟩
   by_cases hx1 : c = 60
   ·skip
    refine rO (fun Z hZ => (eE rfl (kF (Ev.lss rfl rfl) (by omega) (eE rfl (eE rfl (kT (Ev.eqlI rfl rfl) (by omega) (eE rfl (eE rfl (oF (oF (eE rfl (eE rfl (oF (oF (eE rfl (eE rfl (oF (oF (eE rfl (eE rfl (oF (oF (eE rfl (eE rfl (zN hZ ((rT rfl (rP 2 (fun Z hZ => (eE rfl (eE rfl (zN hZ ((Ops.call ((spec_hexes _ c (by omega))) rfl dc call52 rfl ?_))))))))))))))))))))))))))))))))))
    rintro w J l rfl
    refine Ops.ev (Ev.catS rfl rfl (by simp [hexes])) rfl dc (Ops.ev ((Ev.catS rfl rfl (by simp only [List.length_append, List.length_cons, List.length_nil, hexes] at *; omega)).as (show _ = str (34 :: u.flatMap quo1 ++ quo1 c) from congrArg str (by rw [hq]))) rfl dc (oP rfl (Ops.nil ?_)))
    repeat refine rI ?_
    refine Run.dropL (L' := [(b, _)]) (List.Sublist.refl _) ?_
    refine Run.keep [0, 3, 7] [_, _, _] rfl ?_
    exact ih rest.length _ _ _ (by simp only [List.length_cons]; omega) ⟨u ++ [c], rest, rfl, by rw [hrs]; simp, by rw [List.flatMap_append, List.flatMap_singleton]; rfl, by rw [encs_append, List.length_append]; simp [encs]⟩
   by_cases hx2 : c = 62
   ·skip
    refine rO (fun Z hZ => (eE rfl (kF (Ev.lss rfl rfl) (by omega) (eE rfl (eE rfl (kF (Ev.eqlI rfl rfl) (by omega) (eE rfl (eE rfl (eE rfl (kT (Ev.eqlI rfl rfl) (by omega) (eE rfl (eE rfl (oF (oF (eE rfl (eE rfl (oF (oF (eE rfl (eE rfl (oF (oF (eE rfl (eE rfl (zN hZ ((rT rfl (rP 2 (fun Z hZ => (eE rfl (eE rfl (zN hZ ((Ops.call ((spec_hexes _ c (by omega))) rfl dc call52 rfl ?_))))))))))))))))))))))))))))))))))
    rintro w J l rfl
    refine Ops.ev (Ev.catS rfl rfl (by simp [hexes])) rfl dc (Ops.ev ((Ev.catS rfl rfl (by simp only [List.length_append, List.length_cons, List.length_nil, hexes] at *; omega)).as (show _ = str (34 :: u.flatMap quo1 ++ quo1 c) from congrArg str (by rw [hq]))) rfl dc (oP rfl (Ops.nil ?_)))
    repeat refine rI ?_
    refine Run.dropL (L' := [(b, _)]) (List.Sublist.refl _) ?_
    refine Run.keep [0, 3, 7] [_, _, _] rfl ?_
    exact ih rest.length _ _ _ (by simp only [List.length_cons]; omega) ⟨u ++ [c], rest, rfl, by rw [hrs]; simp, by rw [List.flatMap_append, List.flatMap_singleton]; rfl, by rw [encs_append, List.length_append]; simp [encs]⟩
   by_cases hx3 : c = 38
   ·skip
    refine rO (fun Z hZ => (eE rfl (kF (Ev.lss rfl rfl) (by omega) (eE rfl (eE rfl (kF (Ev.eqlI rfl rfl) (by omega) (eE rfl (eE rfl (eE rfl (kF (Ev.eqlI rfl rfl) (by omega) (eE rfl (eE rfl (eE rfl (kT (Ev.eqlI rfl rfl) (by omega) (eE rfl (eE rfl (oF (oF (eE rfl (eE rfl (oF (oF (eE rfl (eE rfl (zN hZ ((rT rfl (rP 2 (fun Z hZ => (eE rfl (eE rfl (zN hZ ((Ops.call ((spec_hexes _ c (by omega))) rfl dc call52 rfl ?_))))))))))))))))))))))))))))))))))
    rintro w J l rfl
    refine Ops.ev (Ev.catS rfl rfl (by simp [hexes])) rfl dc (Ops.ev ((Ev.catS rfl rfl (by simp only [List.length_append, List.length_cons, List.length_nil, hexes] at *; omega)).as (show _ = str (34 :: u.flatMap quo1 ++ quo1 c) from congrArg str (by rw [hq]))) rfl dc (oP rfl (Ops.nil ?_)))
    repeat refine rI ?_
    refine Run.dropL (L' := [(b, _)]) (List.Sublist.refl _) ?_
    refine Run.keep [0, 3, 7] [_, _, _] rfl ?_
    exact ih rest.length _ _ _ (by simp only [List.length_cons]; omega) ⟨u ++ [c], rest, rfl, by rw [hrs]; simp, by rw [List.flatMap_append, List.flatMap_singleton]; rfl, by rw [encs_append, List.length_append]; simp [encs]⟩
   by_cases hx4 : c = 8232
   ·skip
    refine rO (fun Z hZ => (eE rfl (kF (Ev.lss rfl rfl) (by omega) (eE rfl (eE rfl (kF (Ev.eqlI rfl rfl) (by omega) (eE rfl (eE rfl (eE rfl (kF (Ev.eqlI rfl rfl) (by omega) (eE rfl (eE rfl (eE rfl (kF (Ev.eqlI rfl rfl) (by omega) (eE rfl (eE rfl (eE rfl (kT (Ev.eqlI rfl rfl) (by omega) (eE rfl (eE rfl (oF (oF (eE rfl (eE rfl (zN hZ ((rT rfl (rP 2 (fun Z hZ => (eE rfl (eE rfl (zN hZ ((Ops.call ((spec_hexes _ c (by omega))) rfl dc call52 rfl ?_))))))))))))))))))))))))))))))))))
    rintro w J l rfl
    refine Ops.ev (Ev.catS rfl rfl (by simp [hexes])) rfl dc (Ops.ev ((Ev.catS rfl rfl (by simp only [List.length_append, List.length_cons, List.length_nil, hexes] at *; omega)).as (show _ = str (34 :: u.flatMap quo1 ++ quo1 c) from congrArg str (by rw [hq]))) rfl dc (oP rfl (Ops.nil ?_)))
    repeat refine rI ?_
    refine Run.dropL (L' := [(b, _)]) (List.Sublist.refl _) ?_
    refine Run.keep [0, 3, 7] [_, _, _] rfl ?_
    exact ih rest.length _ _ _ (by simp only [List.length_cons]; omega) ⟨u ++ [c], rest, rfl, by rw [hrs]; simp, by rw [List.flatMap_append, List.flatMap_singleton]; rfl, by rw [encs_append, List.length_append]; simp [encs]⟩
   ·skip
    refine rO (fun Z hZ => (eE rfl (kF (Ev.lss rfl rfl) (by omega) (eE rfl (eE rfl (kF (Ev.eqlI rfl rfl) (by omega) (eE rfl (eE rfl (eE rfl (kF (Ev.eqlI rfl rfl) (by omega) (eE rfl (eE rfl (eE rfl (kF (Ev.eqlI rfl rfl) (by omega) (eE rfl (eE rfl (eE rfl (kF (Ev.eqlI rfl rfl) (by omega) (eE rfl (eE rfl (eE rfl (kT (Ev.eqlI rfl rfl) (by omega) (eE rfl (eE rfl (zN hZ ((rT rfl (rP 2 (fun Z hZ => (eE rfl (eE rfl (zN hZ ((Ops.call ((spec_hexes _ c (by omega))) rfl dc call52 rfl ?_))))))))))))))))))))))))))))))))))
    rintro w J l rfl
    refine Ops.ev (Ev.catS rfl rfl (by simp [hexes])) rfl dc (Ops.ev ((Ev.catS rfl rfl (by simp only [List.length_append, List.length_cons, List.length_nil, hexes] at *; omega)).as (show _ = str (34 :: u.flatMap quo1 ++ quo1 c) from congrArg str (by rw [hq]))) rfl dc (oP rfl (Ops.nil ?_)))
    repeat refine rI ?_
    refine Run.dropL (L' := [(b, _)]) (List.Sublist.refl _) ?_
    refine Run.keep [0, 3, 7] [_, _, _] rfl ?_
    exact ih rest.length _ _ _ (by simp only [List.length_cons]; omega) ⟨u ++ [c], rest, rfl, by rw [hrs]; simp, by rw [List.flatMap_append, List.flatMap_singleton]; rfl, by rw [encs_append, List.length_append]; simp [encs]⟩
  ·have hq : quo1 c = encR (c : Int) := by unfold quo1; rw [if_neg h34, if_neg h8, if_neg h12, if_neg h10, if_neg h13, if_neg h9, if_neg hx]
   refine rO (fun Z hZ => (eE rfl (kF (Ev.lss rfl rfl) (by omega) (eE rfl (eE rfl (kF (Ev.eqlI rfl rfl) (by omega) (eE rfl (eE rfl (eE rfl (kF (Ev.eqlI rfl rfl) (by omega) (eE rfl (eE rfl (eE rfl (kF (Ev.eqlI rfl rfl) (by omega) (eE rfl (eE rfl (eE rfl (kF (Ev.eqlI rfl rfl) (by omega) (eE rfl (eE rfl (eE rfl (kF (Ev.eqlI rfl rfl) (by omega) (eE rfl (eE rfl (zN hZ ?_)))))))))))))))))))))))))
   repeat (first | refine rS ?_ | refine rF rfl ?_)
   by_cases hfd : c = 65533
   ·have h3l : (encR (c : Int)).length = 3 := by rw [hlen, if_neg (by omega), if_neg (by omega), if_pos (by omega)]
    have h3e : encR (c : Int) = [239, 191, 189] := by rw [hfd]; rfl
    refine rO (fun Z hZ => (eE rfl (kT (Ev.eqlI rfl rfl) (by omega) (eE rfl (eE rfl (fE (Ev.addK (r := (((encs u).length + 3 : Nat) : Int)) rfl rfl (by rw [wI (by omega) (by omega)]; omega)) (eE rfl (fE (Ev.lenS T rfl rfl) (kF (Ev.gtr rfl rfl) (by omega) ?_)))))))))
    iterate 4 refine eE rfl ?_
    refine fE (Ev.addK (r := (((encs u).length + 3 : Nat) : Int)) rfl rfl (by rw [wI (by omega) (by omega)]; omega)) (fE ((Ev.cutS T rfl rfl rfl rfl (by omega) (by omega) (by omega)).as (show _ = str [239, 191, 189] from congrArg str (by rw [hse, h3e, Int.toNat_natCast, Int.toNat_natCast]; simp [List.take_append]))) (fE ((Ev.neqS rfl rfl).as (show _ = Value.bool false from rfl)) (eE rfl (eE rfl (eE rfl (zN hZ ((rF rfl (rO (fun Z hZ => (eE rfl (eE rfl (fE (Ev.convRune T rfl rfl rfl) (fE ((Ev.catS rfl rfl (by simp only [List.length_append, List.length_cons, List.length_nil] at *; omega)).as (show _ = str (34 :: u.flatMap quo1 ++ quo1 c) from congrArg str (by rw [hq]))) (eE rfl (zN hZ ?_))))))))))))))))
    repeat refine rI ?_
    refine Run.dropL (L' := [(b, _)]) (List.Sublist.refl _) ?_
    refine Run.keep [0, 3, 7] [_, _, _] rfl ?_
    exact ih rest.length _ _ _ (by simp only [List.length_cons]; omega) ⟨u ++ [c], rest, rfl, by rw [hrs]; simp, by rw [List.flatMap_append, List.flatMap_singleton]; rfl, by rw [encs_append, List.length_append]; simp [encs]⟩
   ·skip
    refine rO (fun Z hZ => (eE rfl (kF (Ev.eqlI rfl rfl) (by omega) (eE rfl ?_))))
    iterate 13 refine oF ?_
    iterate 2 refine eE rfl ?_
    refine zN hZ ((rF rfl (rO (fun Z hZ => (eE rfl (eE rfl (fE (Ev.convRune T rfl rfl rfl) (fE ((Ev.catS rfl rfl (by simp only [List.length_append, List.length_cons, List.length_nil] at *; omega)).as (show _ = str (34 :: u.flatMap quo1 ++ quo1 c) from congrArg str (by rw [hq]))) (eE rfl (zN hZ ?_))))))))))
    repeat refine rI ?_
    refine Run.dropL (L' := [(b, _)]) (List.Sublist.refl _) ?_
    refine Run.keep [0, 3, 7] [_, _, _] rfl ?_
    exact ih rest.length _ _ _ (by simp only [List.length_cons]; omega) ⟨u ++ [c], rest, rfl, by rw [hrs]; simp, by rw [List.flatMap_append, List.flatMap_singleton]; rfl, by rw [encs_append, List.length_append]; simp [encs]⟩
end Go.V
