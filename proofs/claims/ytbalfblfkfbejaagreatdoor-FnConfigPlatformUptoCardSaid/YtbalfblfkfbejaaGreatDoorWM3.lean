import Derived.Test.YtbalfblfkfbejaaGreatDoorWM2
import Derived.Deep.Quiet
import Derived.StillTail
import Derived.Test.YtbalfblfkfbejaaGreatDoorWM1
import Derived.Test.YtbalfblfkfbejaaGreatDoorProg
import Derived.KernelRfl
import Derived.LaidEql
import Derived.Laws.MakeOwn
namespace Go.V
open Go.RowKit
set_option linter.unusedVariables false
set_option linter.unusedSimpArgs false
def reachB (md : Region.Mode) (ops : Array Oper) : Nat → Nat → Nat → Bool
  | 0, _, _ => false
  | f + 1, t, i => match ops[t]? with
    | none => false
    | some o => o.after.toList.any fun e => Region.binds md e && (Nat.beq e.on i || (Nat.blt i e.on && reachB md ops f e.on i))
def tailsB (md : Region.Mode) (ops : Array Oper) (ms : List Bool) : Bool := (List.range ops.size).all fun t => ms.getD t false || (List.range ops.size).all fun i => !(ms.getD i false) || reachB md ops ops.size t i
def headB (md : Region.Mode) (ops : Array Oper) : List Bool → Nat → List Bool → Option (List Bool)
  | [], _, l => some l
  | false :: ms, j, l => headB md ops ms (j + 1) l
  | true :: ms, j, l => if (Region.ready md ops l.toArray).contains j && Region.free md ops l.toArray j then headB md ops ms (j + 1) (l.set j true) else none
def quietB (md : Region.Mode) (ops : Array Oper) (ms : List Bool) (lm : List Bool) : Bool :=
  Region.noSelect ops && Nat.ble ms.length ops.size && tailsB md ops ms && (headB md ops ms 0 (List.replicate ops.size false) == some lm) && ((List.range ops.size).all fun i => !(ms.getD i false) || lm.getD i false)
def trues (ms : List Bool) : Nat := (ms.filter id).length
structure Cl (md : Region.Mode) (ops : Array Oper) (listed : Array Bool) : Prop where
  size : listed.size = ops.size
  closed : ∀ (j : Nat) oj, ops[j]? = some oj → listed.getD j false = true → ∀ e ∈ oj.after, Region.binds md e = true → listed.getD e.on false = true
theorem Cl.set {md : Region.Mode} {ops : Array Oper} {listed : Array Bool} {i : Nat} (h : Cl md ops listed) (hi : i ∈ Region.ready md ops listed) : Cl md ops (listed.setIfInBounds i true) := by
  obtain ⟨_, oi, hoi, hall⟩ := mem_ready.1 hi
  refine ⟨by simp [h.size], fun j oj hj hl e he hb => ?_⟩
  by_cases hij : i = j
  · subst hij
    obtain rfl : oj = oi := Option.some.inj (hj.symm.trans hoi)
    exact getD_set_true (hall e he hb)
  · rw [getD_set_ne false hij] at hl
    exact getD_set_true (h.closed j oj hj hl e he hb)
theorem reach_listed {md : Region.Mode} {ops : Array Oper} {listed : Array Bool} (h : Cl md ops listed) : ∀ (f t i : Nat), (∀ o, ops[t]? = some o → ∀ e ∈ o.after, Region.binds md e = true → listed.getD e.on false = true) →
    reachB md ops f t i = true → listed.getD i false = true
  | 0, t, i, _, hr => by cases hr
  | f + 1, t, i, hp, hr => by
    simp only [reachB] at hr
    split at hr
    · cases hr
    · rename_i o ho
      obtain ⟨e, he, hb⟩ := List.any_eq_true.1 hr
      simp only [Bool.and_eq_true, Bool.or_eq_true] at hb
      have he' : e ∈ o.after := by simpa using he
      have h1 := hp o ho e he' hb.1
      rcases hb.2 with h2 | ⟨_, h2⟩
      · rw [← Nat.eq_of_beq_eq_true h2]; exact h1
      · exact reach_listed h f e.on i (fun o' ho' e' he'' hb' => h.closed e.on o' ho' h1 e' he'' hb') h2
theorem ready_head {md : Region.Mode} {ops : Array Oper} {listed : Array Bool} {ms : List Bool} {i : Nat} (h : Cl md ops listed) (ht : tailsB md ops ms = true) (hi : ms.getD i false = true) (his : i < ops.size) (hun : listed.getD i true = false) : ∀ t ∈ Region.ready md ops listed, ms.getD t false = true := by
  intro t hr
  cases htm : ms.getD t false with
  | true => rfl
  | false =>
    exfalso
    obtain ⟨_, ot, hot, hall⟩ := mem_ready.1 hr
    have htlt : t < ops.size := (Array.getElem?_eq_some_iff.1 hot).1
    have h1 := List.all_eq_true.1 ht t (List.mem_range.2 htlt)
    rw [htm, Bool.false_or] at h1
    have h2 := List.all_eq_true.1 h1 i (List.mem_range.2 his)
    rw [hi, Bool.not_true, Bool.false_or] at h2
    have h3 := reach_listed h _ _ _ (fun o ho e he hb => by
      obtain rfl : o = ot := Option.some.inj (ho.symm.trans hot)
      exact hall e he hb) h2
    rw [getD_both hun] at h3
    cases h3
def wpHead (P : Program) (md : Region.Mode) (ops : Array Oper) (S : World → Prop) (m : List Bool) (G : Array Bool → Act → Prop) : Nat → Array Bool → Act → Prop
  | 0, listed, a => G listed a
  | f + 1, listed, a => Region.ready md ops listed ≠ [] ∧ ∀ i ∈ Region.ready md ops listed, m.getD i false = true ∧ qOp P ops S i (wpHead P md ops S m G f (listed.setIfInBounds i true)) a
theorem wpAny_of_wpHead {P : Program} {md : Region.Mode} {ops : Array Oper} {S : World → Prop} {m : List Bool} {g : Nat} {G : Array Bool → Act → Prop} {Q' : Exit → Act → World → Prop} (hG : ∀ listed a w, S w → G listed a → wpAny P md ops Q' g listed a w) :
    ∀ (f : Nat) (listed : Array Bool) (a : Act) (w : World), S w → wpHead P md ops S m G f listed a → wpAny P md ops Q' (f + g) listed a w
  | 0, listed, a, w, hw, h => by rw [Nat.zero_add]; exact hG _ _ _ hw h
  | f + 1, listed, a, w, hw, h => by
    rw [show f + 1 + g = (f + g) + 1 by omega]
    exact ⟨fun h0 => absurd h0 h.1, fun i hi => wpOp_of_qOp hw (fun a' w' hw' => wpAny_of_wpHead hG f _ a' w' hw') (h.2 i hi).2⟩
theorem wpHead_first {P : Program} {md : Region.Mode} {ops : Array Oper} {S : World → Prop} {m : List Bool} {i : Nat} {oi : Oper} {v : Value} {G : Array Bool → Act → Prop} (hi : ops[i]? = some oi) (hsel : ∀ (j : Nat) (o : Oper) cs b, ops[j]? = some o → o.op ≠ .select cs b)
    (ht : tailsB md ops m = true) (him : m.getD i false = true) (hdone : ∀ listed a, G listed a → ∀ j, j < ops.size → m.getD j false = true → listed.getD j true = true) :
    ∀ (f : Nat) (listed : Array Bool) (a : Act), Cl md ops listed →
      (∀ j oj, ops[j]? = some oj → j ≠ i → listed.getD j true = false → (∀ e ∈ oj.after, Region.binds md e = true → e.on ≠ i) → oi.apart ops oj = true) →
      i ∈ Region.ready md ops listed → YieldsIn P ops S oi v a →
      wpHead P md ops S m G f (listed.setIfInBounds i true) (a.put oi.dst v) → wpHead P md ops S m G (f + 1) listed a := by
  intro f
  induction f with
  | zero =>
    intro listed a inv _ hr hy H
    have hun := (mem_ready.1 hr).1
    refine ⟨fun h => (by rw [h] at hr; cases hr), fun j hj => ?_⟩
    have hjn := ready_head inv ht him (Array.getElem?_eq_some_iff.1 hi).1 hun j hj
    refine ⟨hjn, ?_⟩
    by_cases hji : j = i
    · subst hji; exact hy.qOp hi H
    · obtain ⟨_, oj, hoj, _⟩ := mem_ready.1 hj
      have h1 := hdone _ _ H j (Array.getElem?_eq_some_iff.1 hoj).1 hjn
      rw [getD_set_ne true (Ne.symm hji), (mem_ready.1 hj).1] at h1
      cases h1
  | succ f ih =>
    intro listed a inv hfree hr hy H
    have hun := (mem_ready.1 hr).1
    refine ⟨fun h => (by rw [h] at hr; cases hr), fun j hj => ?_⟩
    have hjn := ready_head inv ht him (Array.getElem?_eq_some_iff.1 hi).1 hun j hj
    refine ⟨hjn, ?_⟩
    by_cases hji : j = i
    · subst hji; exact hy.qOp hi H
    · have h1 := (H.2 j (ready_mono hj hji)).2
      obtain ⟨hjun, oj, hoj, hall⟩ := mem_ready.1 hj
      have hnot : ∀ e ∈ oj.after, Region.binds md e = true → e.on ≠ i := fun e he hb heq => by
        have h1 := hall e he hb
        rw [heq, getD_both hun] at h1
        cases h1
      have h2 := qOp_put hoj (hfree j oj hoj hji hjun hnot) (fun cs b => hsel i oi cs b hi) (fun cs b => hsel j oj cs b hoj) hy h1
      have hfree' : ∀ k ok, ops[k]? = some ok → k ≠ i → (listed.setIfInBounds j true).getD k true = false →
          (∀ e ∈ ok.after, Region.binds md e = true → e.on ≠ i) → oi.apart ops ok = true := fun k ok hk hki hkun hno => by
        refine hfree k ok hk hki ?_ hno
        by_cases hjk : j = k
        · subst hjk; exact hjun
        · rw [getD_set_ne true hjk] at hkun; exact hkun
      refine qOp_mono (fun a' h3 => ih (listed.setIfInBounds j true) a' (inv.set hj) hfree' (ready_mono hr (Ne.symm hji)) h3.1 ?_) h2
      rw [Array.setIfInBounds_comm _ _ hji]
      exact h3.2
section
variable {P : Program} {n : Nat} {C : Cx} {k : List Item} {env : Env} {L : Own} {I : Imm} {ops : Array Oper} {i : Nat} {l : List Oper} {o : Oper}
variable {ty : TypeId} {ps : String} {af : Array Edge} {g : Option (Nat × Bool)} {d : Nat}
def wantD (env : Env) (D : List (Option Nat)) : Option (Nat × Bool) → Option Bool
  | none => some true
  | some (j, b) =>
    match (D[j]?).getD none with
    | some d => match look env d with
      | some (.bool t) => some (t == b)
      | some (.tuple vs) => if vs.toList.isEmpty then some false else none
      | _ => none
    | none => none
theorem wantD_spec {D : List (Option Nat)} {o : Oper} {r : Bool} {a : Act} (hD : ops.toList.map (·.dst) = D) (he : EnvOk n env a) (h : wantD env D o.guard = some r) : Region.wanted o (yielded ops a.tmps) = r := by
  unfold wantD at h
  split at h
  · rename_i hg
    simp only [Region.wanted, hg]
    simpa using h
  · rename_i j b hg
    have hj : (ops[j]?).bind (·.dst) = (D[j]?).getD none := by
      subst hD
      rw [List.getElem?_map, Array.getElem?_toList]
      cases ops[j]? <;> rfl
    split at h
    · rename_i d hd
      rw [hd] at hj
      split at h
      · rename_i t ht
        simp only [Region.wanted, hg, yielded, hj, Option.bind_some, he.at_ _ _ ht]
        cases h
        cases t <;> cases b <;> rfl
      · rename_i vs hv
        split at h
        · cases h
          simp only [Region.wanted, hg, yielded, hj, Option.bind_some, he.at_ _ _ hv]
          rfl
        · cases h
      · cases h
    · cases h
def QD (P : Program) (n : Nat) (C : Cx) (D : List (Option Nat)) (L : Own) (I : Imm) (Z : Env → Prop) : List Bool → List Oper → Env → Prop
  | [], _, env => Z env
  | _ :: _, [], _ => False
  | false :: ms, _ :: r, env => QD P n C D L I Z ms r env
  | true :: ms, o :: r, env => ∃ v, (∀ t, o.dst = some t → t < n) ∧ (∀ ops : Array Oper, ops.toList.map (·.dst) = D → ∀ a, EnvOk n env a → YieldsIn P ops (fun W => Inv C.w0 C.I0 C.L0 I L W) o v a) ∧ QD P n C D L I Z ms r (V.put env o.dst v)
theorem QD.nil {D : List (Option Nat)} {Z : Env → Prop} (h : Z env) : QD P n C D L I Z [] l env := h
theorem list_set_toArray (l : List Bool) (j : Nat) : (l.set j true).toArray = l.toArray.setIfInBounds j true := by
  apply Array.ext'; simp
theorem wpHead_lex {D : List (Option Nat)} {Z : Env → Prop} {mm : List Bool} {lm : List Bool} (hD : ops.toList.map (·.dst) = D) (hsel : Region.noSelect ops = true) (ht : tailsB .any ops mm = true) (hlm : ((List.range ops.size).all fun i => !(mm.getD i false) || lm.getD i false) = true) :
    ∀ (ms : List Bool) (j : Nat) (l : List Oper) (listed : List Bool) (env : Env) (a : Act), (∀ q, l[q]? = ops[j + q]?) → (∀ q, ms.getD q false = true → mm.getD (j + q) false = true) → Cl .any ops listed.toArray →
    headB .any ops ms j listed = some lm → QD P n C D L I Z ms l env → EnvOk n env a →
    wpHead P .any ops (fun W => Inv C.w0 C.I0 C.L0 I L W) mm (fun listed' a' => listed' = lm.toArray ∧ ∃ env', EnvOk n env' a' ∧ Z env') (trues ms) listed.toArray a
  | [], j, l, listed, env, a, _, _, _, hB, h, he => by
    simp only [headB, Option.some.injEq] at hB
    subst hB
    exact ⟨rfl, env, he, h⟩
  | m :: ms, j, [], listed, env, a, hl, hj, inv, hB, h, he => by
    cases m <;> exact h.elim
  | false :: ms, j, o :: l, listed, env, a, hl, hj, inv, hB, h, he => by
    refine wpHead_lex hD hsel ht hlm ms (j + 1) l listed env a (fun q => ?_) (fun q hq => ?_) inv hB h he
    · have := hl (q + 1)
      simpa [Nat.add_assoc, Nat.add_comm 1 q] using this
    · have := hj (q + 1) hq
      rwa [show j + (q + 1) = j + 1 + q by omega] at this
  | true :: ms, j, o :: l, listed, env, a, hl, hj, inv, hB, h, he => by
    have h0 : ops[j]? = some o := by simpa using (hl 0).symm
    have hjm : mm.getD j false = true := hj 0 rfl
    simp only [headB] at hB
    split at hB
    · rename_i hc
      simp only [Bool.and_eq_true] at hc
      obtain ⟨v, hd, hy, hK⟩ := h
      have hr' : j ∈ Region.ready .any ops listed.toArray := by simpa using hc.1
      refine wpHead_first h0 (Region.noSelect_spec hsel) ht hjm (fun listed' a' hL q hqs hq => ?_) (trues ms) listed.toArray a inv (Region.free_spec h0 hc.2) hr' (hy ops hD a he) ?_
      · obtain ⟨rfl, _⟩ := hL
        have := List.all_eq_true.1 hlm q (List.mem_range.2 hqs)
        rw [hq, Bool.not_true, Bool.false_or] at this
        simp only [List.getD_eq_getElem?_getD] at this
        cases hlq : lm[q]? with
        | none => rw [hlq] at this; cases this
        | some b => rw [hlq] at this; simp only [Option.getD_some] at this; subst this; simp [hlq]
      · rw [← list_set_toArray]
        refine wpHead_lex hD hsel ht hlm ms (j + 1) l (listed.set j true) _ _ (fun q => ?_) (fun q hq => ?_) (by rw [list_set_toArray]; exact inv.set hr') hB hK (he.put hd)
        · have := hl (q + 1)
          simpa [Nat.add_assoc, Nat.add_comm 1 q] using this
        · have := hj (q + 1) hq
          rwa [show j + (q + 1) = j + 1 + q by omega] at this
    · cases hB
theorem cl_none (ops : Array Oper) : Cl .any ops (List.replicate ops.size false).toArray :=
  ⟨by simp, fun j oj hj hl => by
    exfalso
    simp only [Array.getD_eq_getD_getElem?, List.getElem?_toArray, List.getElem?_replicate] at hl
    split at hl <;> simp at hl⟩
theorem Run.regionT {id : Nat} {l : List Oper} {D : List (Option Nat)} (S : World → Prop) (ms : List Bool) (lm : List Bool) (fuel : Nat) (hm : P.follows .mixedOrders = true) (hB : quietB .any l.toArray ms lm = true) (hf : Nat.beq (trues ms + fuel) l.length = true) (hD : l.map (·.dst) = D)
    (h : ∀ Z : Env → Prop, (∀ e, RAny P n C l.toArray S k fuel lm e L I → Z e) → QD P n C D L I Z ms l env) : Run P n C (.code (.region id l.toArray true) :: k) env L I := by
  have head := h _ fun _ h => h
  intro b a cs W hb hk he hi
  simp only [quietB, Bool.and_eq_true, beq_iff_eq] at hB
  obtain ⟨⟨⟨⟨hsel, hms⟩, ht⟩, hhead⟩, hlm⟩ := hB
  have hw : (Code.region id l.toArray true).wp P (Qk P n C k) a W := by
    refine wp_region_any hm ?_
    have H := wpHead_lex (P := P) (n := n) (C := C) (L := L) (I := I) (ops := l.toArray) (D := D) (by simpa using hD) hsel ht hlm ms 0 l (List.replicate l.toArray.size false) env a (fun q => by simp) (fun q hq => by rwa [Nat.zero_add]) (cl_none _) hhead head he
    have := wpAny_of_wpHead (Q' := Qk P n C k) (g := fuel) (fun listed a' w hw hG => by
      obtain ⟨rfl, env', he', hz⟩ := hG
      exact wpAny_of_held _ _ _ _ (hz a' w he' hw)) _ _ _ _ hi.drew H
    rw [show trues ms + fuel = l.toArray.size by have := Nat.eq_of_beq_eq_true hf; simpa using this] at this
    have e : (List.replicate l.toArray.size false).toArray = Array.replicate l.toArray.size false := by apply Array.ext'; simp
    rw [e] at this
    exact this
  obtain ⟨e, a', W', hq, harr⟩ := hw b k cs
  cases e with
  | normal =>
    obtain ⟨env', L', I', he', hi', hrun⟩ := hq
    obtain ⟨e, W2, fr, h1, h2, h3⟩ := hrun b a' cs W' hb hk he' hi'
    exact ⟨e, W2, fr, h1, Comes.of_steps harr h2, h3⟩
  | _ => exact hq.elim
theorem Run.regionQ {id : Nat} {l : List Oper} {D : List (Option Nat)} (ms : List Bool) (lm : List Bool) (hm : P.follows .mixedOrders = true) (hB : quietB .any l.toArray ms lm = true) (hf : Nat.beq (trues ms + 0) l.length = true) (hr : Region.ready .any l.toArray lm.toArray = []) (hD : l.map (·.dst) = D)
    (h : ∀ Z : Env → Prop, (∀ e, Run P n C k e L I → Z e) → QD P n C D L I Z ms l env) : Run P n C (.code (.region id l.toArray true) :: k) env L I :=
  Run.regionT (fun _ => True) ms lm 0 hm hB hf hD fun Z hZ => h Z fun e he => hZ e (RAny.done _ hr he)
theorem Ops.quiet {D : List (Option Nat)} {Z : Env → Prop} (hD : ops.toList.map (·.dst) = D) : ∀ (ms : List Bool) (hms : ms.all id = true) (i : Nat) (l : List Oper) (env : Env), QD P n C D L I Z ms l env → (∀ e, Z e → Ops P n C ops (i + ms.length) (l.drop ms.length) k e L I) → Ops P n C ops i l k env L I
  | [], _, i, l, env, h, next => next env h
  | m :: ms, _, i, [], env, h, next => by cases m <;> exact h.elim
  | false :: ms, hms, i, o :: l, env, h, next => by simp at hms
  | true :: ms, hms, i, o :: l, env, h, next => by
    obtain ⟨v, hd, hy, hK⟩ := h
    have ih := Ops.quiet hD ms (by simpa using hms) (i + 1) l _ hK (fun e he => by have := next e he; simp only [List.length_cons, List.drop_succ_cons] at this; rwa [show i + 1 + ms.length = i + (ms.length + 1) by omega])
    intro hl
    obtain ⟨ho, hl'⟩ := Ops.head hl
    intro b a cs W hb hk he hi
    rcases hy ops hD a he with ⟨hw, hq⟩ | ⟨hw, rfl⟩
    · have hqW := hq W hi
      unfold Oper.quietAt at hqW
      have fin : ∀ W', Inv C.w0 C.I0 C.L0 I L W' → Steps P (lone (b.at a (.inRegion ops (i :: List.range' (i + 1) l.length) :: k)) cs W) (lone (b.at (a.put o.dst v) (.inRegion ops (List.range' (i + 1) l.length) :: k)) cs W') →
          ∃ e W'' fr, Ends C.w0 C.I0 C.L0 C.R e W'' ∧ Comes P (lone (b.at a (.inRegion ops (List.range' i (o :: l).length) :: k)) cs W) (lone fr cs W'') e ∧ fr.fn = C.f ∧ fr.leaving P W'' e := fun W' hi' hs => by
        obtain ⟨e, W2, fr, h1, h2, h3⟩ := ih hl' b _ cs W' hb hk (he.put hd) hi'
        refine ⟨e, W2, fr, h1, Comes.of_steps ?_ h2, h3⟩
        simpa [List.range'_succ] using hs
      generalize hr : (execOp a.eval o).run P W = r at hqW
      cases r with
      | ok nx w' =>
        cases nx <;> simp only [Oper.quietUpon] at hqW
        case value u =>
          obtain ⟨rfl, rfl⟩ := hqW
          exact fin _ hi (steps_value ho hw hr)
        case skip =>
          obtain ⟨rfl, rfl⟩ := hqW
          exact fin _ hi (steps_skip ho hw hr)
        case enter f args =>
          obtain ⟨rfl, hc⟩ := hqW
          obtain ⟨v', W2, ⟨hv, hi2⟩, hs⟩ := steps_call (k := k) (b := b) (cs := cs) (rest := List.range' (i + 1) l.length) ho hw hr hc (fun e w'' ⟨he, _⟩ => ⟨v, he⟩)
          cases hv
          exact fin _ hi2 hs
      | halt x w' => simp only [Oper.quietUpon] at hqW
    · have hs := step_op_skip (P := P) (b := b) (a := a) (k := k) (cs := cs) (w := W) (ops := ops) (i := i) (rest := List.range' (i + 1) l.length) (by simp [ho, hw])
      simp only [ho, Option.bind_some] at hs
      obtain ⟨e, W', fr, h1, h2, h3⟩ := ih hl' b _ cs W hb hk (he.put hd) hi
      refine ⟨e, W', fr, h1, Comes.of_steps (.one ?_) h2, h3⟩
      simpa [List.range'_succ] using hs
theorem Run.regionP {id : Nat} {l l2 : List Oper} {D : List (Option Nat)} (ms : List Bool) (m : Nat) (hms : ms.all (fun b => b) = true) (hml : ms.length = m) (hD : l.map (·.dst) = D) (hl : l.drop m = l2) (h : ∀ Z : Env → Prop, (∀ e, Ops P n C l.toArray m l2 k e L I → Z e) → QD P n C D L I Z ms l env) :
    Run P n C (.code (.region id l.toArray false) :: k) env L I := by
  subst hl; subst hml
  exact Run.region (Ops.quiet (by simpa using hD) ms hms 0 l env (h _ fun _ h => h) fun e he => by simpa using he)
theorem Run.regionO {id : Nat} {l : List Oper} {D : List (Option Nat)} (ms : List Bool) (hms : ms.all (fun b => b) = true) (hD : l.map (·.dst) = D) (hm : l.length = ms.length) (h : ∀ Z : Env → Prop, (∀ e, Run P n C k e L I → Z e) → QD P n C D L I Z ms l env) :
    Run P n C (.code (.region id l.toArray false) :: k) env L I :=
  Run.regionP ms ms.length hms rfl hD (by rw [← hm]; exact List.drop_length) fun Z hZ => h Z fun e he => hZ e (Ops.nil he)
variable {D : List (Option Nat)} {Z : Env → Prop} {m : List Bool} {r : List Oper}
def Yv (P : Program) (n : Nat) (env : Env) (S : World → Prop) (op : Op) (v : Value) : Prop := ∀ a W, EnvOk n env a → S W → ∀ dst ty ps af g, (execOp a.eval ⟨dst, op, ty, ps, af, g⟩).run P W = .ok (.value v) W
theorem QD.yv {op : Op} {v : Value} (hd : d < n) (hg : wantD env D g = some true) (hy : Yv P n env (Holds I L) op v) (next : QD P n C D L I Z m r ((d, v) :: env)) : QD P n C D L I Z (true :: m) (⟨some d, op, ty, ps, af, g⟩ :: r) env :=
  ⟨v, dOk hd, fun ops hD a he => .inl ⟨wantD_spec hD he hg, fun W hi => by
      unfold Oper.quietAt
      rw [hy a W he (hi.holds (Le.refl _) fun _ h => h)]
      exact ⟨rfl, rfl⟩⟩, next⟩
theorem QD.ev {op : Op} {v : Value} (T : Tab P) (hd : d < n) (hg : wantD env D g = some true) (h : evalOp T env op = some v) (next : QD P n C D L I Z m r ((d, v) :: env)) : QD P n C D L I Z (true :: m) (⟨some d, op, ty, ps, af, g⟩ :: r) env :=
  QD.yv hd hg (fun a W he _ _ _ _ _ _ => evalOp_ok h he W) next
theorem QD.off {op : Op} (hd : d < n) (hg : wantD env D g = some false) (next : QD P n C D L I Z m r ((d, undef) :: env)) : QD P n C D L I Z (true :: m) (⟨some d, op, ty, ps, af, g⟩ :: r) env :=
  ⟨undef, dOk hd, fun ops hD a he => .inr ⟨wantD_spec hD he hg, rfl⟩, next⟩
theorem QD.callW {op : Op} {f : FuncId} {args : List Value} {v : Value} (hd : d < n) (hg : wantD env D g = some true)
    (hr : ∀ a W, EnvOk n env a → (execOp a.eval ⟨some d, op, ty, ps, af, g⟩).run P W = .ok (.enter f args.toArray) W) (hs : Pure P f args I fun w J => w = v ∧ J = I)
    (next : QD P n C D L I Z m r ((d, v) :: env)) : QD P n C D L I Z (true :: m) (⟨some d, op, ty, ps, af, g⟩ :: r) env :=
  ⟨v, dOk hd, fun ops hD a he => .inl ⟨wantD_spec hD he hg, fun W hi => by
    unfold Oper.quietAt
    rw [hr a W he]
    refine ⟨rfl, ?_⟩
    have hE : Eff P n C env L I ⟨some d, op, ty, ps, af, g⟩ fun w L1 I1 => w = v ∧ L1 = L ∧ I1 = I :=
      Eff.callW (M := []) (N := L) hr (.refl _) hs fun w J M' hle ⟨hM, hw, hJ⟩ => ⟨hw, by rw [hM]; rfl, hJ⟩
    rcases hE a W he hi with ⟨v1, W1, L1, I1, h1, _⟩ | ⟨f', args', h1, h2⟩
    · exfalso
      rw [hr a W he] at h1
      rcases h1 with h1 | ⟨h1, _⟩ <;> cases h1
    · rw [hr a W he] at h1
      cases h1
      exact h2.mono fun e W' ⟨w, L1, I1, e1, e2, e3, e4, e5⟩ => ⟨by rw [e1, e3], by rw [← e4, ← e5]; exact e2⟩⟩, next⟩
theorem Pure.keeps {f : FuncId} {args : List Value} {v : Value} (h : Pure P f args I fun w J => w = v) : Pure P f args I fun w J => w = v ∧ J = I := by
  intro w0 hf
  refine (h w0 hf).mono ?_
  rintro e W ⟨v', J, M, rfl, ⟨rfl, rfl⟩, hi⟩
  exact ⟨_, I, [], rfl, ⟨rfl, rfl, rfl⟩, { hi with fits := ⟨fun b o hb => hi.fits.imm b o (hi.ext b o hb), hi.fits.own, fun b o hm => by simp at hm, hi.fits.nd⟩, ext := Le.refl _, newI := fun b o hb => .inl hb }⟩
theorem QD.call {f : FuncId} {xs : List Operand} {ats : Array TypeId} {vs : List Value} {v : Value} (hs : Pure P f vs I fun w J => w = v) (hd : d < n) (hg : wantD env D g = some true)
    (hc : ∀ args w, (callFunc f args).run P w = .ok (.enter f args) w) (hx : opnds env xs = some vs)
    (next : QD P n C D L I Z m r ((d, v) :: env)) : QD P n C D L I Z (true :: m) (⟨some d, .call ⟨.value (.func f), xs.toArray, ats⟩, ty, ps, af, g⟩ :: r) env :=
  QD.callW hd hg (fun a W he => run_callF hc he hx) hs.keeps next
theorem Yv.load {J : Imm} {M : Own} {t : TypeId} {x : Operand} {b off : Nat} {v : Value} (j : Nat) {cs : List Value} {t' : TypeId} (T : Tab P) (hx : opnd env x = some (.pointer (some ⟨b, off, none⟩)))
    (hM : M[j]? = some (b, blk cs t')) (ha : T.agg t = some false) (hv : cs[off]? = some v) : Yv P n env (Holds J M) (.load t x) v :=
  fun a W he hS _ _ _ _ _ => by simp [execOp, Instr.loadAt, Instr.sureAddr, eval_opnd he hx, run_loadVar1 (T.aggOk ha) (hS.own j hM hv)]
theorem Yv.loadI {J : Imm} {M : Own} {t : TypeId} {x : Operand} {b off : Nat} {v : Value} (T : Tab P) (hA : At J b off [v]) (hx : opnd env x = some (.pointer (some ⟨b, off, none⟩)))
    (ha : T.agg t = some false) : Yv P n env (Holds J M) (.load t x) v :=
  fun a W he hS _ _ _ _ _ => by simp [execOp, Instr.loadAt, Instr.sureAddr, eval_opnd he hx, run_loadVar1 (T.aggOk ha) (by simpa using hS.cell hA 0 v rfl)]
theorem Yv.loadN {J : Imm} {M : Own} {t : TypeId} {x : Operand} {b off q : Nat} {vs : List Value} (j : Nat) {cs : List Value} {t' : TypeId} (T : Tab P) (hx : opnd env x = some (.pointer (some ⟨b, off, none⟩)))
    (hM : M[j]? = some (b, blk cs t')) (ha : T.agg t = some true) (hs : T.size t = some q) (hv : (cs.drop off).take q = vs) (hm : vs.length = q) : Yv P n env (Holds J M) (.load t x) (.agg vs.toArray) :=
  fun a W he hS _ _ _ _ _ => by
    have hc : ∀ j v, vs[j]? = some v → W.cell? ⟨b, off + j, none⟩ = some v := fun q v h => by
      rw [cell_blk (hS.2 b _ (List.mem_of_getElem? hM))]
      rw [← hv, List.getElem?_take] at h
      split at h
      · simpa using h
      · cases h
    simp [execOp, Instr.loadAt, Instr.sureAddr, eval_opnd he hx, run_loadVarN (T.aggOk ha) (T.sizeOk hs) hm hc]
theorem Yv.loadIN {J : Imm} {M : Own} {t : TypeId} {x : Operand} {b off q : Nat} {vs : List Value} (T : Tab P) (hA : At J b off vs) (hx : opnd env x = some (.pointer (some ⟨b, off, none⟩)))
    (ha : T.agg t = some true) (hs : T.size t = some q) (hm : vs.length = q) : Yv P n env (Holds J M) (.load t x) (.agg vs.toArray) :=
  fun a W he hS _ _ _ _ _ => by simp [execOp, Instr.loadAt, Instr.sureAddr, eval_opnd he hx, run_loadVarN (T.aggOk ha) (T.sizeOk hs) hm (hS.cell hA)]
theorem Eff.yv {op : Op} {v : Value} {K : Value → Own → Imm → Prop} (hy : Yv P n env (Holds I L) op v) (next : K v L I) : Eff P n C env L I ⟨some d, op, ty, ps, af, g⟩ K :=
  Eff.valW fun a W he hi => ⟨v, W, L, I, .inl (hy a W he (hi.holds (Le.refl _) fun _ h => h) _ _ _ _ _), hi, next⟩
theorem Yld.yv {S : World → Prop} {op : Op} {v : Value} (hg : want env ops g = some true) (hy : ∀ W, S W → Holds I L W) (h : Yv P n env (Holds I L) op v) : Yld P n env ops S ⟨some d, op, ty, ps, af, g⟩ v :=
  .inl ⟨hg, fun a W he hS => h a W he (hy W hS) _ _ _ _ _⟩
end
end Go.V
namespace Go.V
open Go.RowKit
set_option linter.unusedVariables false
set_option linter.unusedSimpArgs false
def Ev (P : Program) (n : Nat) (env : Env) (op : Op) (v : Value) : Prop := ∀ (a : Act) (W : World), EnvOk n env a → ∀ dst ty ps af g, (execOp a.eval ⟨dst, op, ty, ps, af, g⟩).run P W = .ok (.value v) W
abbrev w8 (a : UInt8) : Value := .int .u8 (a.toNat : Int)
theorem wrap32 (x : Int) : IntKind.u32.wrap x = x % 4294967296 := by simp [IntKind.wrap, IntKind.signed, IntKind.bits]
theorem wrap8 (x : Int) : IntKind.u8.wrap x = x % 256 := by simp [IntKind.wrap, IntKind.signed, IntKind.bits]
section
variable {P : Program} {n : Nat} {C : Cx} {k : List Item} {env : Env} {L : Own} {I : Imm} {ops : Array Oper} {i : Nat} {l : List Oper} {S : World → Prop}
variable {ty : TypeId} {ps : String} {af : Array Edge} {g : Option (Nat × Bool)} {d : Nat}
theorem Ops.ev {op : Op} {v : Value} (h : Ev P n env op v) (hg : want env ops g = some true) (hd : d < n) (next : Ops P n C ops (i + 1) l k ((d, v) :: env) L I) : Ops P n C ops i (⟨some d, op, ty, ps, af, g⟩ :: l) k env L I :=
  Ops.val hg (dOk hd) (fun a W he _ => h a W he _ _ _ _ _) next
theorem Yld.ev {op : Op} {v : Value} (h : Ev P n env op v) (hg : want env ops g = some true) : Yld P n env ops S ⟨some d, op, ty, ps, af, g⟩ v := .inl ⟨hg, fun a W he _ => h a W he _ _ _ _ _⟩
theorem Ev.yv {op : Op} {v : Value} (h : Ev P n env op v) : Yv P n env S op v := fun a W he _ dst ty ps af g => h a W he dst ty ps af g
theorem QD.e {D : List (Option Nat)} {Z : Env → Prop} {m : List Bool} {r : List Oper} {op : Op} {v : Value} (h : Ev P n env op v) (hd : d < n) (hg : wantD env D g = some true) (next : QD P n C D L I Z m r ((d, v) :: env)) : QD P n C D L I Z (true :: m) (⟨some d, op, ty, ps, af, g⟩ :: r) env :=
  QD.yv hd hg h.yv next
theorem Ev.as {op : Op} {v v' : Value} (h : Ev P n env op v) (e : v = v') : Ev P n env op v' := e ▸ h
variable {x y : Operand} {t t' : TypeId}
theorem Ev.of2 {op : BinOp} {v u r : Value} (hx : opnd env x = some v) (hy : opnd env y = some u) (h : ∀ W, (eqGuard op t x y v u).run P W = .ok () W) (h2 : ∀ W, (binOp op t v u).run P W = .ok r W) : Ev P n env (.binOp op t x y t') r :=
  fun a W he _ _ _ _ _ => by simp [execOp, eval_opnd he hx, eval_opnd he hy, h, h2]
section
variable {a b : UInt32}
end
section
variable {a b : UInt64}
end
theorem Ev.conv {src dst : TypeId} {ks kd : IntKind} {a r : Int} (T : Tab P) (hs : T.und src = some (.int ks)) (ht : T.und dst = some (.int kd)) (hx : opnd env x = some (.int ks a)) (hr : kd.wrap a = r) : Ev P n env (.convert src dst x) (.int kd r) :=
  fun c W he _ _ _ _ _ => by
    subst hr
    simp [execOp, eval_opnd he hx, convert, T.undOk hs, T.undOk ht, Conv.intToInt]
theorem Ev.indexS {ts e : TypeId} {ix : Operand} {kd : IntKind} {j : Int} {len c b off size : Nat} (T : Tab P) (hu : T.und ts = some (.slice e)) (hz : T.size e = some size) (hx : opnd env x = some (.slice (some ⟨b, off, none⟩) len c)) (hi : opnd env ix = some (.int kd j))
    (h0 : 0 ≤ j) (h1 : j < len) : Ev P n env (.indexAddr ts x ix) (.pointer (some ⟨b, off + j.toNat * size, none⟩)) :=
  fun c W he _ _ _ _ _ => by
    simp [execOp, Instr.indexAt, eval_opnd he hx, eval_opnd he hi, asIntOf, T.undOk hu, T.sizeOk hz, h0, h1, add_off]
section
variable {kd : IntKind} {a b r : Int}
theorem Ev.addI (hx : opnd env x = some (.int kd a)) (hy : opnd env y = some (.int kd b)) (hr : kd.wrap (a + b) = r) : Ev P n env (.binOp .add t x y t') (.int kd r) :=
  Ev.of2 hx hy (fun _ => run_eqGuard_int ..) fun W => by subst hr; simp [binOp, Op.intArith]
theorem Ev.quoI (hx : opnd env x = some (.int kd a)) (hy : opnd env y = some (.int kd b)) (hb : b ≠ 0) (hr : kd.wrap (a.tdiv b) = r) : Ev P n env (.binOp .quo t x y t') (.int kd r) :=
  Ev.of2 hx hy (fun _ => run_eqGuard_int ..) fun W => by subst hr; simp [binOp, Op.intDiv, hb]
theorem Ev.lss (hx : opnd env x = some (.int kd a)) (hy : opnd env y = some (.int kd b)) : Ev P n env (.binOp .lss t x y t') (.bool (decide (a < b))) := Ev.of2 hx hy (fun _ => run_eqGuard_int ..) fun W => by simp [binOp, Op.intCmp]
theorem Ev.leq (hx : opnd env x = some (.int kd a)) (hy : opnd env y = some (.int kd b)) : Ev P n env (.binOp .leq t x y t') (.bool (decide (a ≤ b))) := Ev.of2 hx hy (fun _ => run_eqGuard_int ..) fun W => by simp [binOp, Op.intCmp]
theorem Ev.gtr (hx : opnd env x = some (.int kd a)) (hy : opnd env y = some (.int kd b)) : Ev P n env (.binOp .gtr t x y t') (.bool (decide (b < a))) := Ev.of2 hx hy (fun _ => run_eqGuard_int ..) fun W => by simp [binOp, Op.intCmp]
theorem Ev.geq (hx : opnd env x = some (.int kd a)) (hy : opnd env y = some (.int kd b)) : Ev P n env (.binOp .geq t x y t') (.bool (decide (b ≤ a))) := Ev.of2 hx hy (fun _ => run_eqGuard_int ..) fun W => by simp [binOp, Op.intCmp]
theorem Ev.eqlI (hx : opnd env x = some (.int kd a)) (hy : opnd env y = some (.int kd b)) : Ev P n env (.binOp .eql t x y t') (.bool (decide (a = b))) := Ev.of2 hx hy (fun _ => run_eqGuard_int ..) fun W => by simp [binOp, Op.intCmp]; rfl
theorem Ev.neqI (hx : opnd env x = some (.int kd a)) (hy : opnd env y = some (.int kd b)) : Ev P n env (.binOp .neq t x y t') (.bool (!decide (a = b))) := Ev.of2 hx hy (fun _ => run_eqGuard_int ..) fun W => by simp [binOp, Op.intCmp]; rfl
end
section
variable {s u : List UInt8}
theorem Ev.lenS {ts : TypeId} (T : Tab P) (hu : T.und ts = some .string) (hx : opnd env x = some (str s)) : Ev P n env (.call ⟨.builtin .len, #[x], #[ts]⟩) (.int .i64 s.length) :=
  fun a W he _ _ _ _ _ => by simp [execOp, resolve, invoke, builtin, Builtin.len_, eval_opnd he hx, T.undOk hu, str, goInt, str_size]
theorem Ev.eqlS (hx : opnd env x = some (str s)) (hy : opnd env y = some (str u)) : Ev P n env (.binOp .eql t x y t') (.bool (decide (s = u))) :=
  Ev.of2 hx hy (fun _ => run_eqGuard_string ..) fun W => by
    have : (s == u) = decide (s = u) := by rw [Bool.eq_iff_iff]; simp
    simp [str, binOp, Op.stringOp, str_toList, this]
theorem Ev.neqS (hx : opnd env x = some (str s)) (hy : opnd env y = some (str u)) : Ev P n env (.binOp .neq t x y t') (.bool (!decide (s = u))) :=
  Ev.of2 hx hy (fun _ => run_eqGuard_string ..) fun W => by
    have : (s == u) = decide (s = u) := by rw [Bool.eq_iff_iff]; simp
    simp [str, binOp, Op.stringOp, str_toList, this]
theorem Ev.cutSLo {ts : TypeId} {lo : Operand} {kd : IntKind} {j : Int} (T : Tab P) (hu : T.und ts = some .string) (hx : opnd env x = some (str s)) (hlo : opnd env lo = some (.int kd j)) (h0 : 0 ≤ j) (h1 : j ≤ s.length) :
    Ev P n env (.slice ts x (some lo) none none) (str (s.drop j.toNat)) :=
  fun a W he _ _ _ _ _ => by
    have hj := run_sliceBound (P := P) (v := .int kd j) (y := s.length) (code := .sliceB) rfl h0 (by omega) W
    have ht : s.take s.length = s := List.take_length
    simp [execOp, Instr.sliceAt, Instr.slice, Instr.sliceBounds, eval_opnd he hx, eval_opnd he hlo, T.undOk hu, str, str_size, hj, str_extract, ht]
theorem Ev.cutSHi {ts : TypeId} {hi : Operand} {kd : IntKind} {q : Int} (T : Tab P) (hu : T.und ts = some .string) (hx : opnd env x = some (str s)) (hhi : opnd env hi = some (.int kd q)) (h0 : 0 ≤ q) (h1 : q ≤ s.length) :
    Ev P n env (.slice ts x none (some hi) none) (str (s.take q.toNat)) :=
  fun a W he _ _ _ _ _ => by
    have hm := run_sliceBound (P := P) (v := .int kd q) (y := s.length) (code := .sliceAlen) rfl (by omega) (by omega) W
    simp [execOp, Instr.sliceAt, Instr.slice, Instr.sliceBounds, eval_opnd he hx, eval_opnd he hhi, T.undOk hu, str, str_size, hm, str_extract]
end
theorem Ev.eqlNil {u : TypeDesc} {v z : Value} {r : Bool} (T : Tab P) (hu : T.und t = some u) (hz : nilOf u = some z) (hx : opnd env x = some v) (hv : isNilV v = some r) (hf : fitsNil u v = true) : Ev P n env (.binOp .eql t x (.const z) t') (.bool r) :=
  fun a W he _ _ _ _ _ => by
    have h1 := run_eqGuard_nil (op := .eql) (t := t) (x := x) (v := v) (z := z) (c := z) (P := P) hz W
    have h2 := run_equal_nil (P := P) (T.undOk hu) hz hv hf W
    have h3 : binOp .eql t v z = (Op.equal t v z >>= fun b => pure (.bool b)) := by
      cases v <;> simp [isNilV] at hv <;> rfl
    have hz2 : a.eval (.const z) = z := rfl
    simp only [execOp, eval_opnd he hx, hz2, Sem.run_bind, h1, Result.andThen_ok, h3, h2]
    rfl
theorem Ev.neqNil {u : TypeDesc} {v z : Value} {r : Bool} (T : Tab P) (hu : T.und t = some u) (hz : nilOf u = some z) (hx : opnd env x = some v) (hv : isNilV v = some r) (hf : fitsNil u v = true) : Ev P n env (.binOp .neq t x (.const z) t') (.bool (!r)) :=
  fun a W he _ _ _ _ _ => by
    have h1 := run_eqGuard_nil (op := .neq) (t := t) (x := x) (v := v) (z := z) (c := z) (P := P) hz W
    have h2 := run_equal_nil (P := P) (T.undOk hu) hz hv hf W
    have h3 : binOp .neq t v z = (Op.equal t v z >>= fun b => pure (.bool (!b))) := by
      cases v <;> simp [isNilV] at hv <;> rfl
    have hz2 : a.eval (.const z) = z := rfl
    simp only [execOp, eval_opnd he hx, hz2, Sem.run_bind, h1, Result.andThen_ok, h3, h2]
    rfl
theorem Ev.buildS {xs : List (Nat × Operand)} {vs : List (Nat × Value)} {pl : List (Nat × Nat)} {z : Array Value} {cs : List Value}
    (hb : ∀ w ps cells, Instr.fill (pl[·]?) z ps = some cells → (Instr.build t ps.toArray).run P w = .ok (.agg cells) w) (hx : parts env xs = some vs) (hf : fillL pl z.toList vs = some cs) : Ev P n env (.build t xs.toArray) (.agg cs.toArray) :=
  fun a W he _ _ _ _ _ => by
    have h := hb W vs cs.toArray (by simpa using fillL_ok pl vs z.toList cs hf)
    rw [← parts_spec he hx] at h
    simp only [execOp, List.map_toArray, Sem.run_bind]
    have hm : (List.map (fun (x : Nat × Operand) => match x with | (i, x) => (i, a.eval x)) xs) = xs.map (fun (p : Nat × Operand) => (p.1, a.eval p.2)) := rfl
    rw [hm, h]; rfl
end
end Go.V
namespace Go.V
open Go.Proofs.Tryz
set_option linter.unusedVariables false
set_option maxRecDepth 100000
noncomputable def undL : List TypeDesc := [t0.desc, t1.desc, t2.desc, t3.desc, t4.desc, t5.desc, t5.desc, t7.desc, t7.desc, t9.desc, t9.desc, t9.desc, t12.desc, t13.desc, t13.desc, t15.desc, t16.desc, t17.desc, t18.desc, t18.desc, t20.desc, t21.desc, t22.desc, t23.desc, t24.desc, t25.desc, t26.desc, t27.desc, t27.desc, t29.desc, t29.desc, t31.desc, t32.desc, t33.desc, t34.desc, t35.desc, t36.desc, t37.desc, t38.desc, t38.desc, t40.desc, t41.desc, t42.desc, t43.desc, t43.desc, t45.desc, t46.desc, t46.desc, t48.desc, t49.desc, t49.desc, t51.desc, t52.desc, t53.desc, t54.desc, t55.desc, t56.desc, t57.desc, t58.desc, t59.desc, t60.desc, t61.desc, t62.desc, t63.desc, t63.desc, t65.desc, t66.desc, t67.desc, t68.desc, t69.desc, t70.desc, t71.desc, t72.desc, t73.desc, t74.desc, t75.desc, t75.desc, t77.desc, t78.desc, t79.desc, t79.desc, t81.desc, t81.desc, t83.desc, t84.desc, t85.desc, t86.desc, t86.desc, t88.desc, t89.desc, t90.desc, t91.desc, t92.desc, t93.desc, t93.desc, t95.desc, t95.desc, t97.desc, t98.desc, t99.desc, t99.desc, t101.desc, t102.desc, t103.desc, t104.desc, t104.desc, t106.desc, t106.desc, t108.desc, t109.desc, t109.desc, t111.desc, t112.desc, t113.desc, t113.desc, t115.desc, t116.desc, t117.desc, t118.desc, t119.desc, t120.desc, t121.desc, t122.desc, t123.desc, t124.desc, t125.desc, t126.desc, t127.desc, t128.desc, t129.desc, t130.desc, t131.desc, t9.desc, t133.desc, t134.desc, t135.desc, t135.desc, t137.desc, t138.desc, t139.desc, t140.desc, t43.desc, t142.desc, t143.desc, t143.desc, t145.desc, t145.desc, t147.desc, t148.desc, t149.desc, t150.desc, t151.desc, t152.desc, t153.desc, t154.desc, t154.desc, t156.desc, t157.desc, t158.desc, t159.desc, t2.desc, t161.desc, t161.desc, t163.desc, t163.desc, t165.desc, t166.desc, t167.desc, t168.desc, t169.desc, t170.desc, t171.desc, t172.desc, t173.desc, t174.desc, t174.desc, t176.desc, t177.desc, t177.desc, t179.desc, t180.desc, t181.desc, t182.desc, t183.desc, t184.desc, t185.desc, t186.desc, t187.desc, t188.desc, t189.desc, t190.desc, t191.desc, t192.desc, t193.desc, t194.desc, t195.desc, t195.desc, t197.desc, t198.desc, t198.desc, t200.desc, t9.desc, t202.desc, t203.desc, t204.desc, t205.desc, t206.desc, t207.desc, t208.desc, t209.desc, t210.desc, t211.desc, t212.desc, t213.desc, t214.desc, t215.desc, t216.desc, t217.desc, t218.desc, t218.desc, t220.desc, t221.desc, t222.desc, t222.desc, t224.desc, t225.desc, t226.desc, t226.desc, t228.desc, t229.desc, t229.desc, t231.desc, t232.desc, t233.desc, t234.desc, t235.desc, t236.desc, t237.desc, t238.desc, t239.desc, t240.desc, t241.desc, t242.desc, t243.desc, t244.desc, t245.desc, t246.desc, t247.desc, t248.desc, t249.desc, t250.desc, t251.desc, t252.desc, t253.desc, t254.desc, t255.desc, t256.desc, t257.desc, t258.desc, t259.desc, t260.desc, t261.desc, t262.desc, t263.desc, t264.desc, t265.desc, t266.desc, t267.desc, t268.desc, t269.desc, t270.desc, t271.desc, t272.desc, t273.desc, t274.desc, t275.desc, t276.desc, t277.desc, t278.desc, t279.desc, t280.desc, t280.desc, t282.desc, t283.desc, t283.desc, t285.desc, t5.desc, t5.desc, t288.desc, t289.desc, t21.desc, t21.desc, t292.desc, t292.desc, t294.desc, t295.desc, t296.desc, t297.desc, t298.desc, t299.desc, t300.desc, t301.desc, t302.desc, t303.desc, t304.desc, t305.desc, t306.desc, t307.desc, t308.desc, t309.desc, t310.desc, t311.desc, t312.desc, t313.desc, t314.desc, t315.desc, t316.desc, t317.desc, t318.desc, t319.desc, t320.desc, t321.desc, t322.desc, t323.desc, t324.desc, t9.desc, t326.desc, t327.desc, t3.desc, t3.desc, t330.desc, t331.desc, t332.desc, t333.desc, t334.desc, t335.desc, t336.desc, t337.desc, t338.desc, t339.desc, t340.desc, t341.desc, t342.desc, t343.desc, t343.desc, t345.desc, t346.desc, t347.desc, t348.desc, t349.desc, t350.desc, t351.desc, t352.desc, t352.desc, t354.desc, t355.desc, t356.desc, t357.desc, t358.desc, t359.desc, t360.desc, t360.desc, t362.desc, t363.desc, t364.desc, t364.desc, t3.desc, t367.desc, t368.desc, t369.desc, t370.desc, t371.desc, t372.desc, t373.desc, t373.desc, t375.desc, t376.desc, t377.desc, t378.desc, t379.desc, t380.desc, t381.desc, t382.desc, t383.desc, t384.desc, t385.desc, t386.desc, t387.desc, t388.desc, t389.desc, t390.desc, t391.desc, t392.desc, t393.desc, t394.desc, t395.desc, t396.desc, t397.desc, t398.desc, t399.desc, t400.desc, t401.desc, t402.desc, t403.desc, t404.desc, t405.desc, t406.desc, t407.desc, t408.desc, t409.desc, t410.desc]
noncomputable def tiL : List TypeInfo := [t0, t1, t2, t3, t4, t5, t6, t7, t8, t9, t10, t11, t12, t13, t14, t15, t16, t17, t18, t19, t20, t21, t22, t23, t24, t25, t26, t27, t28, t29, t30, t31, t32, t33, t34, t35, t36, t37, t38, t39, t40, t41, t42, t43, t44, t45, t46, t47, t48, t49, t50, t51, t52, t53, t54, t55, t56, t57, t58, t59, t60, t61, t62, t63, t64, t65, t66, t67, t68, t69, t70, t71, t72, t73, t74, t75, t76, t77, t78, t79, t80, t81, t82, t83, t84, t85, t86, t87, t88, t89, t90, t91, t92, t93, t94, t95, t96, t97, t98, t99, t100, t101, t102, t103, t104, t105, t106, t107, t108, t109, t110, t111, t112, t113, t114, t115, t116, t117, t118, t119, t120, t121, t122, t123, t124, t125, t126, t127, t128, t129, t130, t131, t132, t133, t134, t135, t136, t137, t138, t139, t140, t141, t142, t143, t144, t145, t146, t147, t148, t149, t150, t151, t152, t153, t154, t155, t156, t157, t158, t159, t160, t161, t162, t163, t164, t165, t166, t167, t168, t169, t170, t171, t172, t173, t174, t175, t176, t177, t178, t179, t180, t181, t182, t183, t184, t185, t186, t187, t188, t189, t190, t191, t192, t193, t194, t195, t196, t197, t198, t199, t200, t201, t202, t203, t204, t205, t206, t207, t208, t209, t210, t211, t212, t213, t214, t215, t216, t217, t218, t219, t220, t221, t222, t223, t224, t225, t226, t227, t228, t229, t230, t231, t232, t233, t234, t235, t236, t237, t238, t239, t240, t241, t242, t243, t244, t245, t246, t247, t248, t249, t250, t251, t252, t253, t254, t255, t256, t257, t258, t259, t260, t261, t262, t263, t264, t265, t266, t267, t268, t269, t270, t271, t272, t273, t274, t275, t276, t277, t278, t279, t280, t281, t282, t283, t284, t285, t286, t287, t288, t289, t290, t291, t292, t293, t294, t295, t296, t297, t298, t299, t300, t301, t302, t303, t304, t305, t306, t307, t308, t309, t310, t311, t312, t313, t314, t315, t316, t317, t318, t319, t320, t321, t322, t323, t324, t325, t326, t327, t328, t329, t330, t331, t332, t333, t334, t335, t336, t337, t338, t339, t340, t341, t342, t343, t344, t345, t346, t347, t348, t349, t350, t351, t352, t353, t354, t355, t356, t357, t358, t359, t360, t361, t362, t363, t364, t365, t366, t367, t368, t369, t370, t371, t372, t373, t374, t375, t376, t377, t378, t379, t380, t381, t382, t383, t384, t385, t386, t387, t388, t389, t390, t391, t392, t393, t394, t395, t396, t397, t398, t399, t400, t401, t402, t403, t404, t405, t406, t407, t408, t409, t410]
def AllU (P : Program) : Nat → List TypeDesc → Prop
  | _, [] => True
  | i, u :: r => (∀ w, (underlying i).run P w = .ok u w) ∧ AllU P (i + 1) r
def AllI (P : Program) : Nat → List TypeInfo → Prop
  | _, [] => True
  | i, u :: r => (∀ w, (typeInfo i).run P w = .ok u w) ∧ AllI P (i + 1) r
theorem AllU.get {P : Program} : ∀ {l : List TypeDesc} {i t : Nat} {u : TypeDesc}, AllU P i l → l[t]? = some u → ∀ w, (underlying (i + t)).run P w = .ok u w
  | [], i, t, u, _, h => by simp at h
  | x :: r, i, 0, u, h, e => by simp at e; subst e; exact h.1
  | x :: r, i, t + 1, u, h, e => by
    have := AllU.get h.2 (t := t) (by simpa using e)
    rwa [show i + 1 + t = i + (t + 1) by omega] at this
theorem AllI.get {P : Program} : ∀ {l : List TypeInfo} {i t : Nat} {u : TypeInfo}, AllI P i l → l[t]? = some u → ∀ w, (typeInfo (i + t)).run P w = .ok u w
  | [], i, t, u, _, h => by simp at h
  | x :: r, i, 0, u, h, e => by simp at e; subst e; exact h.1
  | x :: r, i, t + 1, u, h, e => by
    have := AllI.get h.2 (t := t) (by simpa using e)
    rwa [show i + 1 + t = i + (t + 1) by omega] at this
theorem undL_all : AllU prog 0 undL := ⟨runUnderlying0, runUnderlying1, runUnderlying2, runUnderlying3, runUnderlying4, runUnderlying5, runUnderlying6, runUnderlying7, runUnderlying8, runUnderlying9, runUnderlying10, runUnderlying11, runUnderlying12, runUnderlying13, runUnderlying14, runUnderlying15, runUnderlying16, runUnderlying17, runUnderlying18, runUnderlying19, runUnderlying20, runUnderlying21, runUnderlying22, runUnderlying23, runUnderlying24, runUnderlying25, runUnderlying26, runUnderlying27, runUnderlying28, runUnderlying29, runUnderlying30, runUnderlying31, runUnderlying32, runUnderlying33, runUnderlying34, runUnderlying35, runUnderlying36, runUnderlying37, runUnderlying38, runUnderlying39, runUnderlying40, runUnderlying41, runUnderlying42, runUnderlying43, runUnderlying44, runUnderlying45, runUnderlying46, runUnderlying47, runUnderlying48, runUnderlying49, runUnderlying50, runUnderlying51, runUnderlying52, runUnderlying53, runUnderlying54, runUnderlying55, runUnderlying56, runUnderlying57, runUnderlying58, runUnderlying59, runUnderlying60, runUnderlying61, runUnderlying62, runUnderlying63, runUnderlying64, runUnderlying65, runUnderlying66, runUnderlying67, runUnderlying68, runUnderlying69, runUnderlying70, runUnderlying71, runUnderlying72, runUnderlying73, runUnderlying74, runUnderlying75, runUnderlying76, runUnderlying77, runUnderlying78, runUnderlying79, runUnderlying80, runUnderlying81, runUnderlying82, runUnderlying83, runUnderlying84, runUnderlying85, runUnderlying86, runUnderlying87, runUnderlying88, runUnderlying89, runUnderlying90, runUnderlying91, runUnderlying92, runUnderlying93, runUnderlying94, runUnderlying95, runUnderlying96, runUnderlying97, runUnderlying98, runUnderlying99, runUnderlying100, runUnderlying101, runUnderlying102, runUnderlying103, runUnderlying104, runUnderlying105, runUnderlying106, runUnderlying107, runUnderlying108, runUnderlying109, runUnderlying110, runUnderlying111, runUnderlying112, runUnderlying113, runUnderlying114, runUnderlying115, runUnderlying116, runUnderlying117, runUnderlying118, runUnderlying119, runUnderlying120, runUnderlying121, runUnderlying122, runUnderlying123, runUnderlying124, runUnderlying125, runUnderlying126, runUnderlying127, runUnderlying128, runUnderlying129, runUnderlying130, runUnderlying131, runUnderlying132, runUnderlying133, runUnderlying134, runUnderlying135, runUnderlying136, runUnderlying137, runUnderlying138, runUnderlying139, runUnderlying140, runUnderlying141, runUnderlying142, runUnderlying143, runUnderlying144, runUnderlying145, runUnderlying146, runUnderlying147, runUnderlying148, runUnderlying149, runUnderlying150, runUnderlying151, runUnderlying152, runUnderlying153, runUnderlying154, runUnderlying155, runUnderlying156, runUnderlying157, runUnderlying158, runUnderlying159, runUnderlying160, runUnderlying161, runUnderlying162, runUnderlying163, runUnderlying164, runUnderlying165, runUnderlying166, runUnderlying167, runUnderlying168, runUnderlying169, runUnderlying170, runUnderlying171, runUnderlying172, runUnderlying173, runUnderlying174, runUnderlying175, runUnderlying176, runUnderlying177, runUnderlying178, runUnderlying179, runUnderlying180, runUnderlying181, runUnderlying182, runUnderlying183, runUnderlying184, runUnderlying185, runUnderlying186, runUnderlying187, runUnderlying188, runUnderlying189, runUnderlying190, runUnderlying191, runUnderlying192, runUnderlying193, runUnderlying194, runUnderlying195, runUnderlying196, runUnderlying197, runUnderlying198, runUnderlying199, runUnderlying200, runUnderlying201, runUnderlying202, runUnderlying203, runUnderlying204, runUnderlying205, runUnderlying206, runUnderlying207, runUnderlying208, runUnderlying209, runUnderlying210, runUnderlying211, runUnderlying212, runUnderlying213, runUnderlying214, runUnderlying215, runUnderlying216, runUnderlying217, runUnderlying218, runUnderlying219, runUnderlying220, runUnderlying221, runUnderlying222, runUnderlying223, runUnderlying224, runUnderlying225, runUnderlying226, runUnderlying227, runUnderlying228, runUnderlying229, runUnderlying230, runUnderlying231, runUnderlying232, runUnderlying233, runUnderlying234, runUnderlying235, runUnderlying236, runUnderlying237, runUnderlying238, runUnderlying239, runUnderlying240, runUnderlying241, runUnderlying242, runUnderlying243, runUnderlying244, runUnderlying245, runUnderlying246, runUnderlying247, runUnderlying248, runUnderlying249, runUnderlying250, runUnderlying251, runUnderlying252, runUnderlying253, runUnderlying254, runUnderlying255, runUnderlying256, runUnderlying257, runUnderlying258, runUnderlying259, runUnderlying260, runUnderlying261, runUnderlying262, runUnderlying263, runUnderlying264, runUnderlying265, runUnderlying266, runUnderlying267, runUnderlying268, runUnderlying269, runUnderlying270, runUnderlying271, runUnderlying272, runUnderlying273, runUnderlying274, runUnderlying275, runUnderlying276, runUnderlying277, runUnderlying278, runUnderlying279, runUnderlying280, runUnderlying281, runUnderlying282, runUnderlying283, runUnderlying284, runUnderlying285, runUnderlying286, runUnderlying287, runUnderlying288, runUnderlying289, runUnderlying290, runUnderlying291, runUnderlying292, runUnderlying293, runUnderlying294, runUnderlying295, runUnderlying296, runUnderlying297, runUnderlying298, runUnderlying299, runUnderlying300, runUnderlying301, runUnderlying302, runUnderlying303, runUnderlying304, runUnderlying305, runUnderlying306, runUnderlying307, runUnderlying308, runUnderlying309, runUnderlying310, runUnderlying311, runUnderlying312, runUnderlying313, runUnderlying314, runUnderlying315, runUnderlying316, runUnderlying317, runUnderlying318, runUnderlying319, runUnderlying320, runUnderlying321, runUnderlying322, runUnderlying323, runUnderlying324, runUnderlying325, runUnderlying326, runUnderlying327, runUnderlying328, runUnderlying329, runUnderlying330, runUnderlying331, runUnderlying332, runUnderlying333, runUnderlying334, runUnderlying335, runUnderlying336, runUnderlying337, runUnderlying338, runUnderlying339, runUnderlying340, runUnderlying341, runUnderlying342, runUnderlying343, runUnderlying344, runUnderlying345, runUnderlying346, runUnderlying347, runUnderlying348, runUnderlying349, runUnderlying350, runUnderlying351, runUnderlying352, runUnderlying353, runUnderlying354, runUnderlying355, runUnderlying356, runUnderlying357, runUnderlying358, runUnderlying359, runUnderlying360, runUnderlying361, runUnderlying362, runUnderlying363, runUnderlying364, runUnderlying365, runUnderlying366, runUnderlying367, runUnderlying368, runUnderlying369, runUnderlying370, runUnderlying371, runUnderlying372, runUnderlying373, runUnderlying374, runUnderlying375, runUnderlying376, runUnderlying377, runUnderlying378, runUnderlying379, runUnderlying380, runUnderlying381, runUnderlying382, runUnderlying383, runUnderlying384, runUnderlying385, runUnderlying386, runUnderlying387, runUnderlying388, runUnderlying389, runUnderlying390, runUnderlying391, runUnderlying392, runUnderlying393, runUnderlying394, runUnderlying395, runUnderlying396, runUnderlying397, runUnderlying398, runUnderlying399, runUnderlying400, runUnderlying401, runUnderlying402, runUnderlying403, runUnderlying404, runUnderlying405, runUnderlying406, runUnderlying407, runUnderlying408, runUnderlying409, runUnderlying410, trivial⟩
theorem tiL_all : AllI prog 0 tiL := ⟨typeInfo0, typeInfo1, typeInfo2, typeInfo3, typeInfo4, typeInfo5, typeInfo6, typeInfo7, typeInfo8, typeInfo9, typeInfo10, typeInfo11, typeInfo12, typeInfo13, typeInfo14, typeInfo15, typeInfo16, typeInfo17, typeInfo18, typeInfo19, typeInfo20, typeInfo21, typeInfo22, typeInfo23, typeInfo24, typeInfo25, typeInfo26, typeInfo27, typeInfo28, typeInfo29, typeInfo30, typeInfo31, typeInfo32, typeInfo33, typeInfo34, typeInfo35, typeInfo36, typeInfo37, typeInfo38, typeInfo39, typeInfo40, typeInfo41, typeInfo42, typeInfo43, typeInfo44, typeInfo45, typeInfo46, typeInfo47, typeInfo48, typeInfo49, typeInfo50, typeInfo51, typeInfo52, typeInfo53, typeInfo54, typeInfo55, typeInfo56, typeInfo57, typeInfo58, typeInfo59, typeInfo60, typeInfo61, typeInfo62, typeInfo63, typeInfo64, typeInfo65, typeInfo66, typeInfo67, typeInfo68, typeInfo69, typeInfo70, typeInfo71, typeInfo72, typeInfo73, typeInfo74, typeInfo75, typeInfo76, typeInfo77, typeInfo78, typeInfo79, typeInfo80, typeInfo81, typeInfo82, typeInfo83, typeInfo84, typeInfo85, typeInfo86, typeInfo87, typeInfo88, typeInfo89, typeInfo90, typeInfo91, typeInfo92, typeInfo93, typeInfo94, typeInfo95, typeInfo96, typeInfo97, typeInfo98, typeInfo99, typeInfo100, typeInfo101, typeInfo102, typeInfo103, typeInfo104, typeInfo105, typeInfo106, typeInfo107, typeInfo108, typeInfo109, typeInfo110, typeInfo111, typeInfo112, typeInfo113, typeInfo114, typeInfo115, typeInfo116, typeInfo117, typeInfo118, typeInfo119, typeInfo120, typeInfo121, typeInfo122, typeInfo123, typeInfo124, typeInfo125, typeInfo126, typeInfo127, typeInfo128, typeInfo129, typeInfo130, typeInfo131, typeInfo132, typeInfo133, typeInfo134, typeInfo135, typeInfo136, typeInfo137, typeInfo138, typeInfo139, typeInfo140, typeInfo141, typeInfo142, typeInfo143, typeInfo144, typeInfo145, typeInfo146, typeInfo147, typeInfo148, typeInfo149, typeInfo150, typeInfo151, typeInfo152, typeInfo153, typeInfo154, typeInfo155, typeInfo156, typeInfo157, typeInfo158, typeInfo159, typeInfo160, typeInfo161, typeInfo162, typeInfo163, typeInfo164, typeInfo165, typeInfo166, typeInfo167, typeInfo168, typeInfo169, typeInfo170, typeInfo171, typeInfo172, typeInfo173, typeInfo174, typeInfo175, typeInfo176, typeInfo177, typeInfo178, typeInfo179, typeInfo180, typeInfo181, typeInfo182, typeInfo183, typeInfo184, typeInfo185, typeInfo186, typeInfo187, typeInfo188, typeInfo189, typeInfo190, typeInfo191, typeInfo192, typeInfo193, typeInfo194, typeInfo195, typeInfo196, typeInfo197, typeInfo198, typeInfo199, typeInfo200, typeInfo201, typeInfo202, typeInfo203, typeInfo204, typeInfo205, typeInfo206, typeInfo207, typeInfo208, typeInfo209, typeInfo210, typeInfo211, typeInfo212, typeInfo213, typeInfo214, typeInfo215, typeInfo216, typeInfo217, typeInfo218, typeInfo219, typeInfo220, typeInfo221, typeInfo222, typeInfo223, typeInfo224, typeInfo225, typeInfo226, typeInfo227, typeInfo228, typeInfo229, typeInfo230, typeInfo231, typeInfo232, typeInfo233, typeInfo234, typeInfo235, typeInfo236, typeInfo237, typeInfo238, typeInfo239, typeInfo240, typeInfo241, typeInfo242, typeInfo243, typeInfo244, typeInfo245, typeInfo246, typeInfo247, typeInfo248, typeInfo249, typeInfo250, typeInfo251, typeInfo252, typeInfo253, typeInfo254, typeInfo255, typeInfo256, typeInfo257, typeInfo258, typeInfo259, typeInfo260, typeInfo261, typeInfo262, typeInfo263, typeInfo264, typeInfo265, typeInfo266, typeInfo267, typeInfo268, typeInfo269, typeInfo270, typeInfo271, typeInfo272, typeInfo273, typeInfo274, typeInfo275, typeInfo276, typeInfo277, typeInfo278, typeInfo279, typeInfo280, typeInfo281, typeInfo282, typeInfo283, typeInfo284, typeInfo285, typeInfo286, typeInfo287, typeInfo288, typeInfo289, typeInfo290, typeInfo291, typeInfo292, typeInfo293, typeInfo294, typeInfo295, typeInfo296, typeInfo297, typeInfo298, typeInfo299, typeInfo300, typeInfo301, typeInfo302, typeInfo303, typeInfo304, typeInfo305, typeInfo306, typeInfo307, typeInfo308, typeInfo309, typeInfo310, typeInfo311, typeInfo312, typeInfo313, typeInfo314, typeInfo315, typeInfo316, typeInfo317, typeInfo318, typeInfo319, typeInfo320, typeInfo321, typeInfo322, typeInfo323, typeInfo324, typeInfo325, typeInfo326, typeInfo327, typeInfo328, typeInfo329, typeInfo330, typeInfo331, typeInfo332, typeInfo333, typeInfo334, typeInfo335, typeInfo336, typeInfo337, typeInfo338, typeInfo339, typeInfo340, typeInfo341, typeInfo342, typeInfo343, typeInfo344, typeInfo345, typeInfo346, typeInfo347, typeInfo348, typeInfo349, typeInfo350, typeInfo351, typeInfo352, typeInfo353, typeInfo354, typeInfo355, typeInfo356, typeInfo357, typeInfo358, typeInfo359, typeInfo360, typeInfo361, typeInfo362, typeInfo363, typeInfo364, typeInfo365, typeInfo366, typeInfo367, typeInfo368, typeInfo369, typeInfo370, typeInfo371, typeInfo372, typeInfo373, typeInfo374, typeInfo375, typeInfo376, typeInfo377, typeInfo378, typeInfo379, typeInfo380, typeInfo381, typeInfo382, typeInfo383, typeInfo384, typeInfo385, typeInfo386, typeInfo387, typeInfo388, typeInfo389, typeInfo390, typeInfo391, typeInfo392, typeInfo393, typeInfo394, typeInfo395, typeInfo396, typeInfo397, typeInfo398, typeInfo399, typeInfo400, typeInfo401, typeInfo402, typeInfo403, typeInfo404, typeInfo405, typeInfo406, typeInfo407, typeInfo408, typeInfo409, typeInfo410, trivial⟩
noncomputable def und (t : Nat) : Option TypeDesc := undL[t]?
noncomputable def tinfo (t : Nat) : Option TypeInfo := tiL[t]?
theorem und_ok {t : Nat} {u : TypeDesc} (h : und t = some u) : ∀ w, (underlying t).run prog w = .ok u w := by
  have := undL_all.get h; simpa using this
theorem tinfo_ok {t : Nat} {u : TypeInfo} (h : tinfo t = some u) : ∀ w, (typeInfo t).run prog w = .ok u w := by
  have := tiL_all.get h; simpa using this
def aggOf : TypeDesc → Bool
  | .struct _ => true
  | .array _ _ => true
  | _ => false
theorem isAgg_of {P : Program} {t : TypeId} {u : TypeDesc} (h : ∀ w, (underlying t).run P w = .ok u w) : ∀ w, (isAgg t).run P w = .ok (aggOf u) w := by
  intro w; simp only [isAgg, Sem.run_bind, h, Result.andThen_ok]; cases u <;> rfl
noncomputable def T : Tab prog where
  und := und
  size t := (tinfo t).map (·.size)
  agg t := (und t).map aggOf
  zero t := (tinfo t).bind (·.zero)
  undOk := und_ok
  sizeOk {t m} h w := by
    cases hi : tinfo t with
    | none => simp [hi] at h
    | some u => simp [hi] at h; simp [sizeOf, tinfo_ok hi, h]
  aggOk {t b} h w := by
    cases hi : und t with
    | none => simp [hi] at h
    | some u => simp [hi] at h; rw [isAgg_of (und_ok hi), h]
  zeroOk {t z} h w := by
    cases hi : tinfo t with
    | none => simp [hi] at h
    | some u => simp [hi] at h; simp [zeroValue, tinfo_ok hi, h]
theorem el24 : Elem prog 24 9 1 16 := ⟨underlying24, t9, _, by kernel_rfl, rfl, rfl, rfl, rfl⟩
theorem bd28 : ∀ w ps cells, Instr.fill (([(0, 1), (1, 1), (2, 1), (3, 1), (4, 1), (5, 1), (6, 1), (7, 1), (8, 1), (9, 1), (10, 1), (11, 1), (12, 1), (13, 1), (14, 1), (15, 1), (16, 1), (17, 1), (18, 1), (19, 1), (20, 1), (21, 1), (22, 1), (23, 1)] : List (Nat × Nat))[·]?) (t28.zero.getD undef).cells ps = some cells → (Instr.build 28 ps.toArray).run prog w = .ok (.agg cells) w := by
  intro w ps cells h
  simp only [t28, Option.getD] at h
  simp [Instr.build, runUnderlying28, zeroValue28, sizeOf4, sizeOf9, sizeOf24, sizeOf25, sizeOf26, h]
theorem bd30 : ∀ w ps cells, Instr.fill (([(0, 1), (1, 1), (2, 1), (3, 1), (4, 1), (5, 1), (6, 1), (7, 1), (8, 1), (9, 1), (10, 1), (11, 24), (35, 1)] : List (Nat × Nat))[·]?) (t30.zero.getD undef).cells ps = some cells → (Instr.build 30 ps.toArray).run prog w = .ok (.agg cells) w := by
  intro w ps cells h
  simp only [t30, Option.getD] at h
  simp [Instr.build, runUnderlying30, zeroValue30, sizeOf2, sizeOf9, sizeOf22, sizeOf23, sizeOf24, sizeOf28, h]
theorem el31 : Elem prog 31 5 1 1 := ⟨underlying31, t5, _, by kernel_rfl, rfl, rfl, rfl, rfl⟩
theorem bd44 : ∀ w ps cells, Instr.fill (([(0, 1), (1, 1)] : List (Nat × Nat))[·]?) (t44.zero.getD undef).cells ps = some cells → (Instr.build 44 ps.toArray).run prog w = .ok (.agg cells) w := by
  intro w ps cells h
  simp only [t44, Option.getD] at h
  simp [Instr.build, runUnderlying44, zeroValue44, sizeOf9, h]
theorem bd64 : ∀ w ps cells, Instr.fill (([(0, 1), (1, 1), (2, 1), (3, 1), (4, 1), (5, 1)] : List (Nat × Nat))[·]?) (t64.zero.getD undef).cells ps = some cells → (Instr.build 64 ps.toArray).run prog w = .ok (.agg cells) w := by
  intro w ps cells h
  simp only [t64, Option.getD] at h
  simp [Instr.build, runUnderlying64, zeroValue64, sizeOf9, sizeOf24, h]
theorem el74 : Elem prog 74 2 1 8 := ⟨underlying74, t2, _, by kernel_rfl, rfl, rfl, rfl, rfl⟩
theorem bd94 : ∀ w ps cells, Instr.fill (([(0, 1), (1, 1), (2, 1)] : List (Nat × Nat))[·]?) (t94.zero.getD undef).cells ps = some cells → (Instr.build 94 ps.toArray).run prog w = .ok (.agg cells) w := by
  intro w ps cells h
  simp only [t94, Option.getD] at h
  simp [Instr.build, runUnderlying94, zeroValue94, sizeOf2, sizeOf3, h]
theorem bd96 : ∀ w ps cells, Instr.fill (([(0, 3)] : List (Nat × Nat))[·]?) (t96.zero.getD undef).cells ps = some cells → (Instr.build 96 ps.toArray).run prog w = .ok (.agg cells) w := by
  intro w ps cells h
  simp only [t96, Option.getD] at h
  simp [Instr.build, runUnderlying96, zeroValue96, sizeOf94, h]
theorem el97 : Elem prog 97 164 7 80 := ⟨underlying97, t164, _, by kernel_rfl, rfl, rfl, rfl, rfl⟩
theorem el98 : Elem prog 98 141 2 32 := ⟨underlying98, t141, _, by kernel_rfl, rfl, rfl, rfl, rfl⟩
theorem bd100 : ∀ w ps cells, Instr.fill (([(0, 1), (1, 1)] : List (Nat × Nat))[·]?) (t100.zero.getD undef).cells ps = some cells → (Instr.build 100 ps.toArray).run prog w = .ok (.agg cells) w := by
  intro w ps cells h
  simp only [t100, Option.getD] at h
  simp [Instr.build, runUnderlying100, zeroValue100, sizeOf9, sizeOf98, h]
theorem bd105 : ∀ w ps cells, Instr.fill (([(0, 1), (1, 1), (2, 1), (3, 1), (4, 1), (5, 1), (6, 1), (7, 1), (8, 1), (9, 1), (10, 1), (11, 1), (12, 1), (13, 1), (14, 1), (15, 1), (16, 1), (17, 1), (18, 1), (19, 1), (20, 1), (21, 1), (22, 1), (23, 1)] : List (Nat × Nat))[·]?) (t105.zero.getD undef).cells ps = some cells → (Instr.build 105 ps.toArray).run prog w = .ok (.agg cells) w := by
  intro w ps cells h
  simp only [t105, Option.getD] at h
  simp [Instr.build, runUnderlying105, zeroValue105, sizeOf4, sizeOf9, sizeOf24, sizeOf101, sizeOf102, sizeOf103, h]
theorem bd107 : ∀ w ps cells, Instr.fill (([(0, 1), (1, 1), (2, 1), (3, 3), (6, 1), (7, 1), (8, 1), (9, 2), (11, 24), (35, 1), (36, 1), (37, 1)] : List (Nat × Nat))[·]?) (t107.zero.getD undef).cells ps = some cells → (Instr.build 107 ps.toArray).run prog w = .ok (.agg cells) w := by
  intro w ps cells h
  simp only [t107, Option.getD] at h
  simp [Instr.build, runUnderlying107, zeroValue107, sizeOf9, sizeOf24, sizeOf96, sizeOf97, sizeOf100, sizeOf105, h]
theorem bd155 : ∀ w ps cells, Instr.fill (([(0, 1), (1, 1), (2, 1), (3, 1), (4, 1), (5, 1)] : List (Nat × Nat))[·]?) (t155.zero.getD undef).cells ps = some cells → (Instr.build 155 ps.toArray).run prog w = .ok (.agg cells) w := by
  intro w ps cells h
  simp only [t155, Option.getD] at h
  simp [Instr.build, runUnderlying155, zeroValue155, sizeOf9, sizeOf24, h]
theorem bd162 : ∀ w ps cells, Instr.fill (([(0, 1), (1, 1), (2, 1), (3, 1), (4, 1)] : List (Nat × Nat))[·]?) (t162.zero.getD undef).cells ps = some cells → (Instr.build 162 ps.toArray).run prog w = .ok (.agg cells) w := by
  intro w ps cells h
  simp only [t162, Option.getD] at h
  simp [Instr.build, runUnderlying162, zeroValue162, sizeOf3, sizeOf24, sizeOf160, h]
theorem bd164 : ∀ w ps cells, Instr.fill (([(0, 1), (1, 3), (4, 1), (5, 1), (6, 1)] : List (Nat × Nat))[·]?) (t164.zero.getD undef).cells ps = some cells → (Instr.build 164 ps.toArray).run prog w = .ok (.agg cells) w := by
  intro w ps cells h
  simp only [t164, Option.getD] at h
  simp [Instr.build, runUnderlying164, zeroValue164, sizeOf4, sizeOf9, sizeOf96, h]
theorem bd178 : ∀ w ps cells, Instr.fill (([(0, 1), (1, 1), (2, 1)] : List (Nat × Nat))[·]?) (t178.zero.getD undef).cells ps = some cells → (Instr.build 178 ps.toArray).run prog w = .ok (.agg cells) w := by
  intro w ps cells h
  simp only [t178, Option.getD] at h
  simp [Instr.build, runUnderlying178, zeroValue178, sizeOf2, sizeOf3, sizeOf9, h]
theorem bd227 : ∀ w ps cells, Instr.fill (([(0, 1), (1, 1), (2, 1)] : List (Nat × Nat))[·]?) (t227.zero.getD undef).cells ps = some cells → (Instr.build 227 ps.toArray).run prog w = .ok (.agg cells) w := by
  intro w ps cells h
  simp only [t227, Option.getD] at h
  simp [Instr.build, runUnderlying227, zeroValue227, sizeOf3, sizeOf31, h]
theorem el228 : Elem prog 228 230 5 72 := ⟨underlying228, t230, _, by kernel_rfl, rfl, rfl, rfl, rfl⟩
theorem bd230 : ∀ w ps cells, Instr.fill (([(0, 1), (1, 1), (2, 1), (3, 1), (4, 1)] : List (Nat × Nat))[·]?) (t230.zero.getD undef).cells ps = some cells → (Instr.build 230 ps.toArray).run prog w = .ok (.agg cells) w := by
  intro w ps cells h
  simp only [t230, Option.getD] at h
  simp [Instr.build, runUnderlying230, zeroValue230, sizeOf4, sizeOf5, sizeOf9, sizeOf24, sizeOf228, h]
theorem el261 : Elem prog 261 31 1 24 := ⟨underlying261, t31, _, by kernel_rfl, rfl, rfl, rfl, rfl⟩
end Go.V
namespace Go.V
open Go.RowKit
set_option linter.unusedVariables false
set_option linter.unusedSimpArgs false
abbrev wb (xs : List UInt8) : List Value := xs.map w8
def Buf (e : TypeId) (v : Value) (xs : List UInt8) (M : Own) : Prop :=
  (v = .slice none 0 0 ∧ xs = [] ∧ M = []) ∨
  ∃ b pre post cap, v = .slice (some ⟨b, pre.length, none⟩) xs.length cap ∧ M = [(b, blk (pre ++ wb xs ++ post) e)] ∧ xs.length ≤ cap ∧ cap ≤ xs.length + post.length
theorem Buf.nil (e : TypeId) : Buf e (.slice none 0 0) [] [] := .inl ⟨rfl, rfl, rfl⟩
theorem Buf.isSl {e : TypeId} {v : Value} {xs : List UInt8} {M : Own} (h : Buf e v xs M) : ∃ A c, v = .slice A xs.length c := by
  rcases h with ⟨rfl, rfl, _⟩ | ⟨b, pre, post, cap, rfl, _⟩
  · exact ⟨none, 0, rfl⟩
  · exact ⟨_, _, rfl⟩
theorem Sl.ofBytes {J : Imm} {b cap : Nat} {pre post : List Value} {xs : List UInt8} {e : TypeId} (hb : J b = some (blk (pre ++ wb xs ++ post) e)) (hc : xs.length ≤ cap) : Sl tU8 J (.slice (some ⟨b, pre.length, none⟩) xs.length cap) xs := by
  refine ⟨_, _, rfl, hc, .inr ⟨b, pre.length, rfl, fun i x hx => ⟨[w8 x], rfl, _, _, _, hb, fun j v hv => ?_⟩⟩⟩
  have hj : j = 0 := by
    cases j with
    | zero => rfl
    | succ j => simp at hv
  subst hj
  simp at hv; subst hv
  have hi : i < xs.length := (List.getElem?_eq_some_iff.1 hx).1
  simp only [show tU8.size = 1 from rfl, Nat.mul_one, Nat.add_zero]
  rw [List.getElem?_toArray, List.append_assoc, List.getElem?_append_right (by omega), Nat.add_sub_cancel_left, List.getElem?_append_left (by simpa using hi), List.getElem?_map, hx]
  rfl
theorem Buf.sl {e : TypeId} {v : Value} {xs : List UInt8} {M : Own} {J : Imm} (h : Buf e v xs M) (hJ : ∀ b o, (b, o) ∈ M → J b = some o) : Sl tU8 J v xs := by
  rcases h with ⟨rfl, rfl, _⟩ | ⟨b, pre, post, cap, rfl, rfl, hc, _⟩
  · exact Sl.nil _ _
  · exact Sl.ofBytes (hJ b _ (List.mem_singleton.2 rfl)) hc
theorem zeroCells_u8 (k : Nat) : (Builtin.zeroCells #[Value.int .u8 0] k).toList = wb (List.replicate k 0) := by
  simp [Builtin.zeroCells, wb, Array.toList_range]
  apply List.ext_getElem
  · simp
  · intro i h1 h2
    simp [Nat.mod_one]
section
variable {P : Program} {n : Nat} {C : Cx} {k : List Item} {env : Env} {L : Own} {I : Imm} {ops : Array Oper} {i : Nat} {l : List Oper}
variable {ty : TypeId} {ps : String} {af : Array Edge} {g : Option (Nat × Bool)} {d : Nat}
theorem Buf.cut {e : TypeId} {v : Value} {xs : List UInt8} {M : Own} (h : Buf e v xs M) {A : Option Addr} {m c lo : Nat} (hv : v = .slice A m c) (hlo : lo ≤ xs.length) :
    Buf e (.slice (if c = lo then A else A.map (·.add lo)) (m - lo) (c - lo)) (xs.drop lo) M := by
  rcases h with ⟨rfl, rfl, rfl⟩ | ⟨b, pre, post, cap, rfl, rfl, hc, hc2⟩
  · cases hv
    have : lo = 0 := by simpa using hlo
    subst this
    exact .inl ⟨rfl, rfl, rfl⟩
  · cases hv
    refine .inr ?_
    by_cases he : c = lo
    · rw [if_pos he]
      have hx : xs.length = lo := by omega
      have hx2 : xs.drop lo = [] := List.drop_eq_nil_of_le (by omega)
      rw [hx2]
      refine ⟨b, pre, wb xs ++ post, c - lo, by simp [hx], by simp, by simp, by simp; omega⟩
    · rw [if_neg he]
      refine ⟨b, pre ++ wb (xs.take lo), post, c - lo, ?_, ?_, by simp; omega, by simp; omega⟩
      · simp only [List.length_append, List.length_map, List.length_take, List.length_drop, Nat.min_eq_left hlo, Option.map_some, add_off]
      · have e3 : wb xs = wb (xs.take lo) ++ wb (xs.drop lo) := by rw [wb, wb, wb, ← List.map_append, List.take_append_drop]
        rw [e3]
        simp only [List.append_assoc]
theorem run_append_buf {ts tx e : TypeId} (hE : Elem P ts e 1 1) (hz : ∃ iE, P.info? e = some iE ∧ iE.zero = some (.int .u8 0)) {W : World} {w0 : World} {I0 : Imm} {L0 : List Nat} {M N : Own} {v x : Value} {xs ys : List UInt8} (hi : Inv w0 I0 L0 I (M ++ N) W)
    (hG : Buf e v xs M) (hx : Src P 1 tx x ys.length (wb ys) W) (hbytes : 2 * (xs.length + ys.length) + 512 ≤ 281474976710656) (h63 : xs.length + ys.length ≤ 4611686018427387904) :
    ∃ v' W' M', (Builtin.append_ #[ts, tx] ty #[v, x]).run P W = .ok v' W' ∧ Buf e v' (xs ++ ys) M' ∧ Inv w0 I0 L0 I (M' ++ N) W' := by
  obtain ⟨iE, z, hinfo, hzero, hs1, hb1, hzs⟩ := hE.info
  obtain ⟨iE', hinfo', hz'⟩ := hz
  obtain rfl : iE' = iE := Option.some.inj (hinfo'.symm.trans hinfo)
  obtain rfl : z = .int .u8 0 := Option.some.inj (hzero.symm.trans hz')
  have grow : ∀ (base : Option Addr) (cap : Nat), v = .slice base xs.length cap → cap < xs.length + ys.length → (Builtin.firstCells 1 xs.length (.slice base xs.length cap)).run P W.drew = .ok (wb xs).toArray W.drew →
      ∃ v' W' M', (Builtin.append_ #[ts, tx] ty #[v, x]).run P W = .ok v' W' ∧ Buf e v' (xs ++ ys) M' ∧ Inv w0 I0 L0 I (M' ++ N) W' := by
    intro base cap hv hcap hold
    have hr := run_append_grow_src (P := P) W ts tx ty e iE' _ hE.under hinfo hzero base xs.length cap (wb xs) (by rw [hs1]; exact hold) x ys.length (wb ys) (by rw [hs1]; exact hx) hcap (by omega)
      (by rw [hb1, Nat.mul_one]; exact Nat.le_trans (nextcap_le _ _ hcap) (by omega))
    subst hv
    have hge := grownCap_ge W (xs.length + ys.length) cap e
    have hcells : (wb xs ++ wb ys).toArray ++ Builtin.zeroCells (Value.int .u8 0).cells (grownCap W (xs.length + ys.length) cap e - (xs.length + ys.length)) =
        (([] : List Value) ++ wb (xs ++ ys) ++ wb (List.replicate (grownCap W (xs.length + ys.length) cap e - (xs.length + ys.length)) 0)).toArray := by
      apply Array.ext'
      rw [Array.toList_append, show (Value.int .u8 0).cells = #[Value.int .u8 0] from rfl, zeroCells_u8]
      simp
    rw [hcells] at hr
    refine ⟨_, _, [(W.heap.size, blk (([] : List Value) ++ wb (xs ++ ys) ++ wb (List.replicate (grownCap W (xs.length + ys.length) cap e - (xs.length + ys.length)) 0)) e)], hr, .inr ⟨W.heap.size, [], _, grownCap W (xs.length + ys.length) cap e, by simp, rfl, by simpa using hge, by simp; omega⟩, ?_⟩
    have h1 : Inv w0 I0 L0 I N W := hi.weakenL (List.sublist_append_right _ _)
    exact h1.drew.alloc _
  rcases hG with ⟨rfl, rfl, rfl⟩ | ⟨b, pre, post, cap, rfl, rfl, hmc, hcs⟩
  · by_cases hq : ys = []
    · subst hq
      refine ⟨.slice none 0 0, W, [], ?_, Buf.nil e, hi⟩
      have hx' : Src P iE'.size tx x 0 [] W := by rw [hs1]; exact hx
      rcases hx.kind with ⟨e', hk⟩ | hk <;>
        simp [Builtin.append_, run_underlying hE.under, run_underlying hk, sizeOf, typeInfo, hinfo, hx'.len, hx'.cells]
    · exact grow none 0 rfl (by have : 0 < ys.length := List.length_pos_iff.2 hq; simp; exact this) (by simp [Builtin.firstCells])
  · have hW := hi.fits.own b _ (List.mem_append_left _ (List.mem_singleton.2 rfl))
    by_cases hroom : xs.length + ys.length ≤ cap
    · have hsz : (pre ++ wb xs ++ post).toArray.size = pre.length + xs.length + post.length := by simp; omega
      have hr := run_append_room_src (P := P) W ts tx ty e iE' hE.under hinfo b pre.length xs.length cap x ys.length (wb ys) (by rw [hs1]; exact hx) hroom
        (fun j hj => by rw [cell_blk hW, hs1]; simp at hj ⊢; omega) (fun j hj => by simp [World.frozen?, hW, blk])
      have hst := run_storeCells_at P b (pre.length + xs.length) e (wb ys) 0 (pre ++ wb xs ++ post).toArray W hW (by rw [hsz]; simp; omega) hx.one
      have hst2 := run_storeCells_cells (P := P) b (pre.length + xs.length) (wb ys) 0 W (fun j hj => by rw [cell_blk hW]; simp at hj ⊢; omega) (fun j hj => by simp [World.frozen?, hW, blk]) hx.one
      rw [hst] at hst2
      simp only [Nat.add_zero, hs1, Nat.mul_one] at hst2 hr
      have hcs2 : (((pre ++ wb xs ++ post).toArray.toList.take (pre.length + xs.length) ++ wb ys ++ (pre ++ wb xs ++ post).toArray.toList.drop (pre.length + xs.length + (wb ys).length)).toArray) = (pre ++ wb (xs ++ ys) ++ post.drop ys.length).toArray := by
        congr 1
        show (pre ++ wb xs ++ post).take _ ++ wb ys ++ (pre ++ wb xs ++ post).drop _ = _
        have hlx : (pre ++ wb xs).length = pre.length + xs.length := by simp
        rw [← hlx, List.take_left, List.drop_append]
        simp
      rw [hcs2] at hst2
      have hw : W.setCells b (pre.length + xs.length) (wb ys) = W.setRow b (pre ++ wb (xs ++ ys) ++ post.drop ys.length).toArray := by
        injection hst2 with _ h; exact h.symm
      rw [hw] at hr
      refine ⟨_, _, [(b, blk (pre ++ wb (xs ++ ys) ++ post.drop ys.length) e)], hr, .inr ⟨b, pre, post.drop ys.length, cap, by simp, rfl, by simpa using hroom, by simp; omega⟩, ?_⟩
      exact hi.upd rfl rfl rfl (by simp) (fun c _ hcb => setRow_other W b c _ hcb) (setRow_heap W b _ _ e _ hW)
    · refine grow (some ⟨b, pre.length, none⟩) cap rfl (by omega) ?_
      have hl := run_firstCells_some (P := P) W.drew 1 xs.length ⟨b, pre.length, none⟩ xs.length cap (wb xs) (by simp) (fun j u hu => by
        rw [add_off, World.cell?_drew, cell_blk hW]
        have hj : j < xs.length := by simpa using (List.getElem?_eq_some_iff.1 hu).1
        rw [List.getElem?_toArray, List.append_assoc, List.getElem?_append_right (by omega), Nat.add_sub_cancel_left, List.getElem?_append_left (by simpa using hj)]
        exact hu)
      exact hl
structure Bt (P : Program) (ts e : TypeId) : Prop where
  el : Elem P ts e 1 1
  zero : ∃ iE, P.info? e = some iE ∧ iE.zero = some (.int .u8 0)
theorem Eff.appBuf {s x : Operand} {ts tx e : TypeId} {M N : Own} {v xv : Value} {xs ys : List UInt8} {K : Value → Own → Imm → Prop} (hE : Bt P ts e) (hs : opnd env s = some v) (hx : opnd env x = some xv) (hL : L.Perm (M ++ N)) (hG : Buf e v xs M)
    (hsrc : ∀ W, Inv C.w0 C.I0 C.L0 I L W → Src P 1 tx xv ys.length (wb ys) W) (hbytes : 2 * (xs.length + ys.length) + 512 ≤ 281474976710656)
    (next : ∀ v' M', Buf e v' (xs ++ ys) M' → K v' (M' ++ N) I) : Eff P n C env L I ⟨some d, .call ⟨.builtin .append, #[s, x], #[ts, tx]⟩, ty, ps, af, g⟩ K :=
  Eff.valW fun a W he hi => by
    obtain ⟨v', W', M', hr, hG', hi'⟩ := run_append_buf (P := P) (ty := ty) hE.el hE.zero (hi.perm hL) hG (hsrc W hi) hbytes (by omega)
    refine ⟨v', W', M' ++ N, I, .inl ?_, hi', next v' M' hG'⟩
    simp [execOp, resolve, Go.invoke, builtin, eval_opnd he hs, eval_opnd he hx, hr]
theorem Ops.appBuf {s x : Operand} {ts tx e : TypeId} {M N : Own} {v xv : Value} {xs ys : List UInt8} (hE : Bt P ts e) (hG : Buf e v xs M) (hg : want env ops g = some true) (hd : d < n) (hs : opnd env s = some v) (hx : opnd env x = some xv) (hL : L.Perm (M ++ N))
    (hsrc : ∀ W, Inv C.w0 C.I0 C.L0 I L W → Src P 1 tx xv ys.length (wb ys) W) (hbytes : 2 * (xs.length + ys.length) + 512 ≤ 281474976710656)
    (next : ∀ v' M', Buf e v' (xs ++ ys) M' → Ops P n C ops (i + 1) l k ((d, v') :: env) (M' ++ N) I) : Ops P n C ops i (⟨some d, .call ⟨.builtin .append, #[s, x], #[ts, tx]⟩, ty, ps, af, g⟩ :: l) k env L I :=
  Ops.eff hg (dOk hd) (Eff.appBuf hE hs hx hL hG hsrc hbytes next)
theorem src_sl {ts e : TypeId} {w : Value} {ys : List UInt8} (hu : P.underlying ts = some (.slice e)) (hS : Sl tU8 I w ys) {w0 : World} {I0 : Imm} {L0 : List Nat} {W : World} (hi : Inv w0 I0 L0 I L W) : Src P 1 ts w ys.length (wb ys) W := by
  obtain ⟨A, c, rfl, hc, hrow⟩ := hS
  rcases hrow with rfl | ⟨b, off, rfl, hrow⟩
  · cases A with
    | none => exact Src.ofNil W hu c
    | some a => exact Src.ofSlice W hu a 0 c [] (by simp) (fun j u hu => by simp at hu) (fun u hu => by cases hu)
  · obtain ⟨news, hC, hA⟩ := hrow.cells
    have e1 := hC.bytes_eq
    subst e1
    rcases hA with rfl | hA
    · exact Src.ofSlice W hu ⟨b, off, none⟩ 0 c [] (by simp) (fun j u hu => by simp at hu) (fun u hu => by cases hu)
    · exact Src.ofSlice W hu ⟨b, off, none⟩ ys.length c _ (by simp) (fun j u hu => by rw [add_off]; exact hA.cell hi j u hu) (fun u hu => by
        obtain ⟨y, _, rfl⟩ := List.mem_map.1 hu
        rfl)
theorem src_own {ts e e' : TypeId} {b c : Nat} {ys : List UInt8} {pre post : List Value} (hu : P.underlying ts = some (.slice e)) {w0 : World} {I0 : Imm} {L0 : List Nat} {W : World} (hi : Inv w0 I0 L0 I L W) (hm : (b, blk (pre ++ wb ys ++ post) e') ∈ L) :
    Src P 1 ts (.slice (some ⟨b, pre.length, none⟩) ys.length c) ys.length (wb ys) W :=
  Src.ofSlice W hu ⟨b, pre.length, none⟩ ys.length c _ (by simp) (fun j u hj => by
    have hjl : j < ys.length := by simpa using (List.getElem?_eq_some_iff.1 hj).1
    rw [add_off, cell_blk (hi.fits.own b _ hm), List.getElem?_toArray, List.append_assoc, List.getElem?_append_right (by omega), Nat.add_sub_cancel_left, List.getElem?_append_left (by simpa using hjl)]
    exact hj) (fun u hu => by
        obtain ⟨y, _, rfl⟩ := List.mem_map.1 hu
        rfl)
theorem Ops.appLit {s x : Operand} {ts e : TypeId} {b q c : Nat} {M N : Own} {v : Value} {xs : List UInt8} {news : List Value} (ys : List UInt8) (hE : Bt P ts e) (hG : Buf e v xs M) (hg : want env ops g = some true) (hd : d < n) (hs : opnd env s = some v) (hx : opnd env x = some (.slice (some ⟨b, 0, none⟩) q c))
    (hL : L = (b, blk news e) :: (N ++ M)) (hn : news = wb ys) (hq : ys.length = q) (hbytes : 2 * (xs.length + ys.length) + 512 ≤ 281474976710656)
    (next : ∀ v' M', Buf e v' (xs ++ ys) M' → Ops P n C ops (i + 1) l k ((d, v') :: env) (N ++ M') I) : Ops P n C ops i (⟨some d, .call ⟨.builtin .append, #[s, x], #[ts, ts]⟩, ty, ps, af, g⟩ :: l) k env L I := by
  subst hL; subst hn; subst hq
  refine Ops.appBuf (M := M) (N := (b, blk (wb ys) e) :: N) hE hG hg hd hs hx ?_ ?_ hbytes fun v' M' h => ?_
  · exact (List.Perm.cons _ List.perm_append_comm).trans List.perm_middle.symm
  · intro W hi
    have := src_own (P := P) (ts := ts) (pre := []) (post := []) (ys := ys) (b := b) (c := c) (e' := e) hE.el.under hi (by simp)
    simpa using this
  · exact Ops.dropL (List.Sublist.append_left (List.sublist_cons_self _ _) _) (Ops.perm List.perm_append_comm (next v' M' h))
theorem Ops.appSlB {s x : Operand} {ts e : TypeId} {M N : Own} {v w : Value} {xs ys : List UInt8} (hE : Bt P ts e) (hG : Buf e v xs M) (hS : Sl tU8 I w ys) (hg : want env ops g = some true) (hd : d < n) (hs : opnd env s = some v) (hx : opnd env x = some w)
    (hL : L = N ++ M) (hbytes : 2 * (xs.length + ys.length) + 512 ≤ 281474976710656)
    (next : ∀ v' M', Buf e v' (xs ++ ys) M' → Ops P n C ops (i + 1) l k ((d, v') :: env) (N ++ M') I) : Ops P n C ops i (⟨some d, .call ⟨.builtin .append, #[s, x], #[ts, ts]⟩, ty, ps, af, g⟩ :: l) k env L I := by
  subst hL
  exact Ops.appBuf hE hG hg hd hs hx List.perm_append_comm (fun W hi => src_sl hE.el.under hS hi) hbytes fun v' M' h => Ops.perm List.perm_append_comm (next v' M' h)
variable {x : Operand} {ts e : TypeId}
theorem Ev.sliceLo {A : Option Addr} {m c : Nat} {lo : Operand} {kd : IntKind} {j : Nat} {size : Nat} (T : Tab P) (hu : T.und ts = some (.slice e)) (hz : T.size e = some size) (hx : opnd env x = some (.slice A m c)) (hlo : opnd env lo = some (.int kd (j : Int))) (h1 : j ≤ m) (h2 : m ≤ c) :
    Ev P n env (.slice ts x (some lo) none none) (.slice (if c = j then A else A.map (·.add (j * size))) (m - j) (c - j)) :=
  fun a W he _ _ _ _ _ => by
    have hb := run_sliceBounds (P := P) (hi := none) (lo := some (a.eval lo)) (len := m) (cap := c) (l := j) (h := m) (kd := .i64) (kd' := kd) (.inl ⟨rfl, rfl⟩) (.inr (by simp [eval_opnd he hlo])) h2 h1 W
    simp [execOp, Instr.sliceAt, Instr.slice, eval_opnd he hx, T.undOk hu, hb, T.sizeOk hz]
theorem Ev.sliceHi {A : Option Addr} {m c : Nat} {hi : Operand} {kd : IntKind} {j : Nat} {size : Nat} (T : Tab P) (hu : T.und ts = some (.slice e)) (hz : T.size e = some size) (hx : opnd env x = some (.slice A m c)) (hhi : opnd env hi = some (.int kd (j : Int))) (h1 : j ≤ c) :
    Ev P n env (.slice ts x none (some hi) none) (.slice (if c = 0 then A else A) j c) :=
  fun a W he _ _ _ _ _ => by
    have hb := run_sliceBounds (P := P) (hi := some (a.eval hi)) (lo := none) (len := m) (cap := c) (l := 0) (h := j) (kd := kd) (kd' := .i64) (.inr (by simp [eval_opnd he hhi])) (.inl ⟨rfl, rfl⟩) h1 (Nat.zero_le _) W
    have e1 : (A.map fun x => x.add 0) = A := by
      cases A with
      | none => rfl
      | some a0 => obtain ⟨b, off, sp⟩ := a0; simp [Addr.add]
    simp [execOp, Instr.sliceAt, Instr.slice, eval_opnd he hx, T.undOk hu, hb, T.sizeOk hz, e1]
theorem Ev.sliceHi' {A : Option Addr} {m c : Nat} {hi : Operand} {kd : IntKind} {j : Int} {size : Nat} (T : Tab P) (hu : T.und ts = some (.slice e)) (hz : T.size e = some size) (hx : opnd env x = some (.slice A m c)) (hhi : opnd env hi = some (.int kd j)) (h0 : 0 ≤ j) (h1 : j ≤ c) :
    Ev P n env (.slice ts x none (some hi) none) (.slice A j.toNat c) := by
  obtain ⟨q, rfl⟩ := Int.eq_ofNat_of_zero_le h0
  have := Ev.sliceHi (n := n) T hu hz hx hhi (by omega)
  simpa using this
theorem madeCells_u8 (c : Nat) : madeCells (Value.int .u8 0).cells c = (wb (List.replicate c 0)).toArray := by
  apply Array.ext'
  simp [madeCells, Value.cells, Array.toList_range]
  apply List.ext_getElem
  · simp
  · intro i h1 h2
    simp [Nat.mod_one]
theorem Ops.makeBuf {x y : Operand} {kl kc : IntKind} {a c : Nat} (hE : Bt P ts e) (hg : want env ops g = some true) (hd : d < n) (hx : opnd env x = some (.int kl (a : Int))) (hy : opnd env y = some (.int kc (c : Int))) (hac : a ≤ c) (hc : c ≤ 281474976710656)
    (next : ∀ b, Buf e (.slice (some ⟨b, 0, none⟩) a c) (List.replicate a 0) [(b, blk (wb (List.replicate c 0)) e)] → Ops P n C ops (i + 1) l k ((d, .slice (some ⟨b, 0, none⟩) a c) :: env) ((b, blk (wb (List.replicate c 0)) e) :: L) I) :
    Ops P n C ops i (⟨some d, .makeSlice ts x y, ty, ps, af, g⟩ :: l) k env L I :=
  Ops.valW hg (dOk hd) fun a0 W he hi => by
    obtain ⟨iE, z, hinfo, hzero, hs1, hb1, hzs⟩ := hE.el.info
    obtain ⟨iE', hinfo', hz'⟩ := hE.zero
    obtain rfl : iE' = iE := Option.some.inj (hinfo'.symm.trans hinfo)
    obtain rfl : z = .int .u8 0 := Option.some.inj (hzero.symm.trans hz')
    have hr := run_make (P := P) W ts e iE' _ hE.el.under hinfo hzero kl kc (a : Int) (c : Int) (by omega) (by omega) (by rw [hb1]; omega) (by omega)
    rw [hs1, Nat.mul_one, Int.toNat_natCast, Int.toNat_natCast, madeCells_u8] at hr
    refine ⟨.slice (some ⟨W.heap.size, 0, none⟩) a c, _, (W.heap.size, blk (wb (List.replicate c 0)) e) :: L, I, .inl ?_, hi.alloc _, next _ (.inr ⟨W.heap.size, [], wb (List.replicate (c - a) 0), c, by simp, ?_, by simpa using hac, by simp; omega⟩)⟩
    · simp only [execOp, eval_opnd he hx, eval_opnd he hy, Sem.run_bind, hr, Result.andThen_ok]; rfl
    · simp only [List.nil_append, ← List.map_append, List.replicate_append_replicate]
      rw [show a + (c - a) = c by omega]
end
end Go.V
