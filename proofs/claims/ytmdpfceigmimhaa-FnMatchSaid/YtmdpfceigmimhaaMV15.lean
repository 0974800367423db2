/-
  Maps by keys of any plain kind: made, set, asked.
-/
import Derived.Test.YtmdpfceigmimhaaMV14
namespace Go.V
open Go.RowKit Go.MapKept
set_option linter.unusedVariables false
set_option linter.unusedSimpArgs false
section
variable {κ : Type} [DecidableEq κ]
def gget (k : κ) : List (κ × Value) → Option Value
  | [] => none
  | (k', v) :: r => if k' = k then some v else gget k r
def gset (k : κ) (v : Value) : List (κ × Value) → List (κ × Value)
  | [] => [(k, v)]
  | (k', v') :: r => if k' = k then (k, v) :: r else (k', v') :: gset k v r
def gidx (k : κ) : List (κ × Value) → Option (Nat × Value)
  | [] => none
  | (k', v) :: r => if k' = k then some (0, v) else (gidx k r).map fun p => (p.1 + 1, p.2)
theorem gidx_get (k : κ) : ∀ l, (gidx k l).map (·.2) = gget k l
  | [] => rfl
  | (k', v) :: r => by
    simp only [gidx, gget]
    split
    · rfl
    · rw [← gidx_get k r]; cases gidx k r <;> rfl
theorem gget_gset (k x : κ) (v : Value) : ∀ m : List (κ × Value), gget x (gset k v m) = if k = x then some v else gget x m
  | [] => by simp [gset, gget]
  | (k', v') :: r => by
    simp only [gset]
    by_cases h : k' = k
    · subst h
      rw [if_pos rfl]
      simp only [gget]
      by_cases e : k' = x <;> simp [e]
    · rw [if_neg h]
      simp only [gget, gget_gset k x v r]
      by_cases h1 : k' = x
      · subst h1
        rw [if_pos rfl, if_pos rfl, if_neg (fun e => h e.symm)]
      · rw [if_neg h1, if_neg h1]
theorem gset_none (k : κ) (v : Value) : ∀ l, gidx k l = none → gset k v l = l ++ [(k, v)]
  | [], _ => rfl
  | (k', v') :: r, h => by
    simp only [gidx] at h
    split at h
    · cases h
    · rename_i hk
      have : gidx k r = none := by
        cases hm : gidx k r with
        | none => rfl
        | some q => rw [hm] at h; cases h
      simp [gset, hk, gset_none k v r this]
variable (enc : κ → Value)
def Mg (o : Obj) (l : List (κ × Value)) : Prop := ∃ es clock, o = .map es clock ∧ es.toList.map (fun e => (e.key, e.val)) = l.map (fun p => (enc p.1, p.2))
theorem gset_some (k : κ) (v : Value) : ∀ (es : List MapEntry) (l : List (κ × Value)) (j : Nat) (u : Value), es.map (fun e => (e.key, e.val)) = l.map (fun p => (enc p.1, p.2)) → gidx k l = some (j, u) →
    (es.modify j fun e => { e with key := enc k, val := v }).map (fun e => (e.key, e.val)) = (gset k v l).map (fun p => (enc p.1, p.2)) ∧ (es[j]?).map (·.key) = some (enc k)
  | [], l, j, u, h, hm => by
    have : l = [] := List.map_eq_nil_iff.1 h.symm
    subst this; cases hm
  | e :: es, l, j, u, h, hm => by
    cases l with
    | nil => simp at h
    | cons p r =>
      obtain ⟨k', v'⟩ := p
      simp only [List.map_cons, List.cons.injEq, Prod.mk.injEq] at h
      obtain ⟨⟨h1, h2⟩, h3⟩ := h
      simp only [gidx] at hm
      by_cases hk : k' = k
      · rw [if_pos hk] at hm
        simp only [Option.some.injEq, Prod.mk.injEq] at hm
        obtain ⟨rfl, _⟩ := hm
        simp [gset, hk, h3, h1]
      · rw [if_neg hk] at hm
        cases hq : gidx k r with
        | none => rw [hq] at hm; cases hm
        | some q =>
          rw [hq] at hm
          simp only [Option.map_some, Option.some.injEq, Prod.mk.injEq] at hm
          obtain ⟨rfl, hu⟩ := hm
          have := gset_some k v es r q.1 q.2 h3 hq
          simp [gset, hk, h1, h2, this]
/-- what is known of a kind of keys -/
structure KeyOk (P : Program) (kt : TypeId) : Prop where
  check : ∀ em x w, (Instr.checkKey em 10000 kt (enc x)).run P w = .ok () w
  find : ∀ x (es : List MapEntry) (l : List (κ × Value)), es.map (fun e => (e.key, e.val)) = l.map (fun p => (enc p.1, p.2)) → ∀ w, (Instr.findKey kt (enc x) es).run P w = .ok (gidx x l) w
  stays : ∀ x w, (Instr.keyThatStays (enc x) (enc x)).run P w = .ok (enc x) w
theorem run_findAsking {P : Program} {kt : TypeId} (heq : ∀ x y w, (Op.equal kt (enc x) (enc y)).run P w = .ok (decide (x = y)) w) (x : κ) : ∀ (es : List MapEntry) (l : List (κ × Value)) (i : Nat), es.map (fun e => (e.key, e.val)) = l.map (fun p => (enc p.1, p.2)) → ∀ w, (Instr.findAsking kt (enc x) es i).run P w = .ok ((gidx x l).map fun p => (i + p.1, p.2)) w
  | [], l, i, h, w => by
    have : l = [] := List.map_eq_nil_iff.1 h.symm
    subst this; rfl
  | e :: es, l, i, h, w => by
    cases l with
    | nil => simp at h
    | cons p r =>
      obtain ⟨k', v'⟩ := p
      simp only [List.map_cons, List.cons.injEq, Prod.mk.injEq] at h
      obtain ⟨⟨h1, h2⟩, h3⟩ := h
      simp only [Instr.findAsking, h1, Sem.run_bind, heq, Result.andThen_ok, gidx]
      by_cases hk : k' = x
      · subst hk; simp [h2]
      · have hk' : ¬ x = k' := fun e => hk e.symm
        rw [decide_eq_false hk', if_neg hk]
        simp only [Bool.false_eq_true, if_false]
        rw [run_findAsking heq x es r (i + 1) h3 w]
        cases gidx x r with
        | none => rfl
        | some q => simp; omega
end
section
variable {P : Program} {n : Nat} {C : Cx} {k : List Item} {env : Env} {L : Own} {I : Imm} {ops : Array Oper} {i : Nat} {l : List Oper}
variable {ty : TypeId} {ps : String} {af : Array Edge} {g : Option (Nat × Bool)} {d : Nat}
theorem Mg.new {κ : Type} {enc : κ → Value} : Mg enc (.map #[] 0) [] := ⟨#[], 0, rfl, rfl⟩
variable {κ : Type} [DecidableEq κ] {enc : κ → Value}
theorem run_gSet {W : World} {t kt et : TypeId} {b : Nat} {o : Obj} {m : List (κ × Value)} {key : κ} {v : Value} (hK : KeyOk enc P kt) (hW : W.heap[b]? = some o) (hM : Mg enc o m) (hu : P.underlying t = some (.map kt et)) :
    ∃ o', Mg enc o' (gset key v m) ∧ (Instr.mapUpdate t (.map (some b)) (enc key) v).run P W = .ok () { W with heap := W.heap.setIfInBounds b o' } := by
  obtain ⟨es, clock, rfl, hm⟩ := hM
  have hg := run_getObj (P := P) hW (fun _ _ _ h => by cases h)
  have hF := hK.find key es.toList m hm W
  cases hq : gidx key m with
  | none =>
    rw [hq] at hF
    refine ⟨.map (es.push { key := enc key, val := v, born := clock }) (clock + 1), ⟨_, _, rfl, ?_⟩, ?_⟩
    · rw [gset_none key v m hq]; simp [hm]
    · have hs := run_setObj (P := P) (o' := .map (es.push { key := enc key, val := v, born := clock }) (clock + 1)) hW (fun _ _ _ h => by cases h)
      simp only [Instr.mapUpdate, Sem.run_bind, run_underlying hu, Result.andThen_ok, hg, hK.check, hF, hs]
  | some q =>
    obtain ⟨j, u⟩ := q
    rw [hq] at hF
    obtain ⟨hs1, hkk⟩ := gset_some enc key v es.toList m j u hm hq
    have hkk' : ((es[j]?).map (·.key)).getD (enc key) = enc key := by
      rw [Array.getElem?_toList] at hkk; rw [hkk]; rfl
    refine ⟨.map (es.modify j fun e => { e with key := enc key, val := v }) clock, ⟨_, _, rfl, ?_⟩, ?_⟩
    · rw [← hs1]; simp
    · have hs := run_setObj (P := P) (o' := .map (es.modify j fun e => { e with key := enc key, val := v }) clock) hW (fun _ _ _ h => by cases h)
      simp only [Instr.mapUpdate, Sem.run_bind, run_underlying hu, Result.andThen_ok, hg, hK.check, hF, hkk', hK.stays, hs]
theorem Ops.gSet {t kt et : TypeId} {x y z : Operand} {b : Nat} {o : Obj} {m : List (κ × Value)} {key : κ} {v : Value} (j : Nat) (T : Tab P) (hK : KeyOk enc P kt) (hM : Mg enc o m) (hg : want env ops g = some true) (hx : opnd env x = some (.map (some b))) (hy : opnd env y = some (enc key)) (hz : opnd env z = some v)
    (hL : L[j]? = some (b, o)) (hu : T.und t = some (.map kt et))
    (next : ∀ o', Mg enc o' (gset key v m) → Ops P n C ops (i + 1) l k env (upL L j o') I) : Ops P n C ops i (⟨none, .mapUpdate t x y z, ty, ps, af, g⟩ :: l) k env L I :=
  Ops.valW hg dNo fun a W he hi => by
    have hW := hi.fits.own b _ (List.mem_of_getElem? hL)
    obtain ⟨o', hM', hr⟩ := run_gSet (P := P) (key := key) (v := v) hK hW hM (und_of_run (W := W) (T.undOk hu W))
    obtain ⟨R, hp1, hp2⟩ := upL_perm L j b _ o' hL
    refine ⟨undef, _, upL L j o', I, .inr ⟨?_, rfl⟩, ((hi.perm hp1).setObj o').perm hp2.symm, next o' hM'⟩
    simp only [execOp, eval_opnd he hx, eval_opnd he hy, eval_opnd he hz, Sem.run_bind, hr, Result.andThen_ok]; rfl
theorem run_gGet {W : World} {t kt et : TypeId} {b : Nat} {o : Obj} {m : List (κ × Value)} {key : κ} {z : Value} (hK : KeyOk enc P kt) (hW : W.heap[b]? = some o) (hM : Mg enc o m) (hu : P.underlying t = some (.map kt et)) (hz : ∀ w, (zeroValue et).run P w = .ok z w) (c : Bool) :
    (Instr.lookup t (.map (some b)) (enc key) c).run P W = .ok (if c then .tuple #[(gget key m).getD z, .bool (gget key m).isSome] else (gget key m).getD z) W := by
  obtain ⟨es, clock, rfl, hm⟩ := hM
  have hg := run_getObj (P := P) hW (fun _ _ _ h => by cases h)
  have hF := hK.find key es.toList m hm W
  have hmg := gidx_get key m
  cases hq : gidx key m with
  | none =>
    rw [hq] at hF hmg
    rw [← hmg]
    simp only [Instr.lookup, Sem.run_bind, run_underlying hu, Result.andThen_ok, hg, hK.check, hF, Option.map_none, hz, Sem.run_pure, Option.getD_none, Option.isSome_none]
  | some q =>
    rw [hq] at hF hmg
    rw [← hmg]
    simp only [Instr.lookup, Sem.run_bind, run_underlying hu, Result.andThen_ok, hg, hK.check, hF, Option.map_some, Sem.run_pure, Option.getD_some, Option.isSome_some]
theorem Ops.gGetI {t kt et : TypeId} {x y : Operand} {b : Nat} {o : Obj} {m : List (κ × Value)} {key : κ} {z : Value} (T : Tab P) (hK : KeyOk enc P kt) (hI : I b = some o) (hM : Mg enc o m) (hg : want env ops g = some true) (hd : d < n) (hx : opnd env x = some (.map (some b))) (hy : opnd env y = some (enc key))
    (hu : T.und t = some (.map kt et)) (hz : T.zero et = some z)
    (next : Ops P n C ops (i + 1) l k ((d, .tuple #[(gget key m).getD z, .bool (gget key m).isSome]) :: env) L I) : Ops P n C ops i (⟨some d, .lookup t x y true, ty, ps, af, g⟩ :: l) k env L I :=
  Ops.val hg (dOk hd) (fun a W he hi => by
    have hr := run_gGet (P := P) (key := key) hK (hi.fits.imm b _ hI) hM (und_of_run (W := W) (T.undOk hu W)) (T.zeroOk hz) true
    simp only [execOp, eval_opnd he hx, eval_opnd he hy, Sem.run_bind, hr, Result.andThen_ok]; rfl) next
end
end Go.V
