/-
  Maps by texts: made, set, asked.
-/
import Derived.Test.YtmdpfceigmimhaaMV12
import Derived.MapKept
namespace Go.V
open Go.RowKit Go.MapKept
set_option linter.unusedVariables false
set_option linter.unusedSimpArgs false
abbrev KV := List (List UInt8 × Value)
/-- a map's object stands for its entries, in the order in which they came -/
def Mp (o : Obj) (l : KV) : Prop := ∃ es clock, o = .map es clock ∧ es.toList.map (fun e => (e.key, e.val)) = l.map (fun p => (str p.1, p.2))
def mget (k : List UInt8) : KV → Option Value
  | [] => none
  | (k', v) :: r => if k' = k then some v else mget k r
def mset (k : List UInt8) (v : Value) : KV → KV
  | [] => [(k, v)]
  | (k', v') :: r => if k' = k then (k, v) :: r else (k', v') :: mset k v r
def midx (k : List UInt8) : KV → Option (Nat × Value)
  | [] => none
  | (k', v) :: r => if k' = k then some (0, v) else (midx k r).map fun p => (p.1 + 1, p.2)
theorem midx_get (k : List UInt8) : ∀ l, (midx k l).map (·.2) = mget k l
  | [] => rfl
  | (k', v) :: r => by
    simp only [midx, mget]
    split
    · rfl
    · rw [← midx_get k r]; cases midx k r <;> rfl
theorem sameNow_str (a b : List UInt8) : Instr.sameNow .string (str a) (str b) = some (decide (b = a)) := by
  show some ((⟨a.toArray⟩ : ByteArray) == ⟨b.toArray⟩) = _
  rw [beq_toListBytes, str_toList, str_toList]
  congr 1
  by_cases h : a = b
  · subst h; simp
  · have h' : ¬ b = a := fun e => h e.symm
    simp [h, h']
theorem findNow_str (k : List UInt8) : ∀ (es : List MapEntry) (l : KV) (i : Nat), es.map (fun e => (e.key, e.val)) = l.map (fun p => (str p.1, p.2)) → Instr.findNow .string (str k) es i = some ((midx k l).map fun p => (i + p.1, p.2))
  | [], l, i, h => by
    have : l = [] := List.map_eq_nil_iff.1 h.symm
    subst this; rfl
  | e :: es, l, i, h => by
    cases l with
    | nil => simp at h
    | cons p r =>
      simp only [List.map_cons, List.cons.injEq, Prod.mk.injEq] at h
      obtain ⟨⟨h1, h2⟩, h3⟩ := h
      simp only [Instr.findNow, h1, sameNow_str, midx]
      by_cases hk : p.1 = k
      · rw [if_pos hk, decide_eq_true hk]
        simp only [Option.map_some, h2, Nat.add_zero]
      · rw [if_neg hk, decide_eq_false hk]
        simp only
        rw [findNow_str k es r (i + 1) h3]
        cases midx k r with
        | none => rfl
        | some q => simp; omega
theorem mset_none (k : List UInt8) (v : Value) : ∀ l, midx k l = none → mset k v l = l ++ [(k, v)]
  | [], _ => rfl
  | (k', v') :: r, h => by
    simp only [midx] at h
    split at h
    · cases h
    · rename_i hk
      have : midx k r = none := by
        cases hm : midx k r with
        | none => rfl
        | some q => rw [hm] at h; cases h
      simp [mset, hk, mset_none k v r this]
theorem mset_some (k : List UInt8) (v : Value) : ∀ (es : List MapEntry) (l : KV) (j : Nat) (u : Value), es.map (fun e => (e.key, e.val)) = l.map (fun p => (str p.1, p.2)) → midx k l = some (j, u) →
    (es.modify j fun e => { e with key := str k, val := v }).map (fun e => (e.key, e.val)) = (mset k v l).map (fun p => (str p.1, p.2))
  | [], l, j, u, h, hm => by
    have : l = [] := List.map_eq_nil_iff.1 h.symm
    subst this; cases hm
  | e :: es, l, j, u, h, hm => by
    cases l with
    | nil => simp at h
    | cons p r =>
      obtain ⟨k', v'⟩ := p
      simp only [List.map_cons, List.cons.injEq, Prod.mk.injEq] at h
      obtain ⟨⟨h1, h2⟩, h3⟩ := h
      simp only [midx] at hm
      by_cases hk : k' = k
      · rw [if_pos hk] at hm
        simp only [Option.some.injEq, Prod.mk.injEq] at hm
        obtain ⟨rfl, _⟩ := hm
        simp [mset, hk, h3]
      · rw [if_neg hk] at hm
        cases hq : midx k r with
        | none => rw [hq] at hm; cases hm
        | some q =>
          rw [hq] at hm
          simp only [Option.map_some, Option.some.injEq, Prod.mk.injEq] at hm
          obtain ⟨rfl, hu⟩ := hm
          have := mset_some k v es r q.1 q.2 h3 hq
          simp [mset, hk, h1, h2, this]
theorem midx_key (k : List UInt8) : ∀ (es : List MapEntry) (l : KV) (j : Nat) (u : Value), es.map (fun e => (e.key, e.val)) = l.map (fun p => (str p.1, p.2)) → midx k l = some (j, u) → (es[j]?).map (·.key) = some (str k)
  | [], l, j, u, h, hm => by
    have : l = [] := List.map_eq_nil_iff.1 h.symm
    subst this; cases hm
  | e :: es, l, j, u, h, hm => by
    cases l with
    | nil => simp at h
    | cons p r =>
      obtain ⟨k', v'⟩ := p
      simp only [List.map_cons, List.cons.injEq, Prod.mk.injEq] at h
      obtain ⟨⟨h1, h2⟩, h3⟩ := h
      simp only [midx] at hm
      by_cases hk : k' = k
      · rw [if_pos hk] at hm
        simp only [Option.some.injEq, Prod.mk.injEq] at hm
        obtain ⟨rfl, _⟩ := hm
        simp [h1, hk]
      · rw [if_neg hk] at hm
        cases hq : midx k r with
        | none => rw [hq] at hm; cases hm
        | some q =>
          rw [hq] at hm
          simp only [Option.map_some, Option.some.injEq, Prod.mk.injEq] at hm
          obtain ⟨rfl, hu⟩ := hm
          have := midx_key k es r q.1 q.2 h3 hq
          simpa using this
section
variable {P : Program} {n : Nat} {C : Cx} {k : List Item} {env : Env} {L : Own} {I : Imm} {ops : Array Oper} {i : Nat} {l : List Oper}
variable {ty : TypeId} {ps : String} {af : Array Edge} {g : Option (Nat × Bool)} {d : Nat}
theorem Mp.new : Mp (.map #[] 0) [] := ⟨#[], 0, rfl, rfl⟩
theorem Ops.makeMap {t : TypeId} (hg : want env ops g = some true) (hd : d < n)
    (next : ∀ b, Ops P n C ops (i + 1) l k ((d, .map (some b)) :: env) ((b, .map #[] 0) :: L) I) : Ops P n C ops i (⟨some d, .makeMap t none, ty, ps, af, g⟩ :: l) k env L I :=
  Ops.valW hg (dOk hd) fun a W he hi => ⟨.map (some W.heap.size), W.alloc (.map #[] 0), (W.heap.size, .map #[] 0) :: L, I,
    .inl (by
      have : ({ W with heap := W.heap.push (.map #[] 0) } : World) = W.alloc (.map #[] 0) := rfl
      simp [execOp, Instr.makeMap, newObj, Sem.run, this]; try rfl), hi.alloc _, next _⟩
theorem run_mapSet {W : World} {t kt et : TypeId} {b : Nat} {o : Obj} {m : KV} {key : List UInt8} {v : Value} (hW : W.heap[b]? = some o) (hM : Mp o m) (hu : P.underlying t = some (.map kt et)) (hk : P.underlying kt = some .string) :
    ∃ o', Mp o' (mset key v m) ∧ (Instr.mapUpdate t (.map (some b)) (str key) v).run P W = .ok () { W with heap := W.heap.setIfInBounds b o' } := by
  obtain ⟨es, clock, rfl, hm⟩ := hM
  have hg := run_getObj (P := P) hW (fun _ _ _ h => by cases h)
  have hkey : IsKey .string (str key) := trivial
  have hc : (Instr.checkKey false 10000 kt (str key)).run P W = .ok () W := run_checkKey hk hkey false 9999
  have hf := findNow_str key es.toList m 0 hm
  have hF := run_findKey (P := P) (w := W) hk hf
  cases hq : midx key m with
  | none =>
    rw [hq] at hF
    refine ⟨.map (es.push { key := str key, val := v, born := clock }) (clock + 1), ⟨_, _, rfl, ?_⟩, ?_⟩
    · rw [mset_none key v m hq]; simp [hm]
    · have hs := run_setObj (P := P) (o' := .map (es.push { key := str key, val := v, born := clock }) (clock + 1)) hW (fun _ _ _ h => by cases h)
      simp only [Instr.mapUpdate, Sem.run_bind, run_underlying hu, Result.andThen_ok, hg, hc, hF, Option.map_none, hs]
  | some q =>
    obtain ⟨j, u⟩ := q
    rw [hq] at hF
    simp only [Option.map_some, Nat.zero_add] at hF
    have hkk := midx_key key es.toList m j u hm hq
    have hkk' : ((es[j]?).map (·.key)).getD (str key) = str key := by
      rw [Array.getElem?_toList] at hkk; rw [hkk]; rfl
    have hst := run_keyThatStays (P := P) (w := W) hkey
    refine ⟨.map (es.modify j fun e => { e with key := str key, val := v }) clock, ⟨_, _, rfl, ?_⟩, ?_⟩
    · rw [← mset_some key v es.toList m j u hm hq]; simp
    · have hs := run_setObj (P := P) (o' := .map (es.modify j fun e => { e with key := str key, val := v }) clock) hW (fun _ _ _ h => by cases h)
      simp only [Instr.mapUpdate, Sem.run_bind, run_underlying hu, Result.andThen_ok, hg, hc, hF, hkk', hst, hs]
theorem Ops.mapSet {t kt et : TypeId} {x y z : Operand} {b : Nat} {o : Obj} {m : KV} {key : List UInt8} {v : Value} (j : Nat) (T : Tab P) (hM : Mp o m) (hg : want env ops g = some true) (hx : opnd env x = some (.map (some b))) (hy : opnd env y = some (str key)) (hz : opnd env z = some v)
    (hL : L[j]? = some (b, o)) (hu : T.und t = some (.map kt et)) (hk : T.und kt = some .string)
    (next : ∀ o', Mp o' (mset key v m) → Ops P n C ops (i + 1) l k env (upL L j o') I) : Ops P n C ops i (⟨none, .mapUpdate t x y z, ty, ps, af, g⟩ :: l) k env L I :=
  Ops.valW hg dNo fun a W he hi => by
    have hW := hi.fits.own b _ (List.mem_of_getElem? hL)
    obtain ⟨o', hM', hr⟩ := run_mapSet (P := P) (key := key) (v := v) hW hM (und_of_run (W := W) (T.undOk hu W)) (und_of_run (W := W) (T.undOk hk W))
    obtain ⟨R, hp1, hp2⟩ := upL_perm L j b _ o' hL
    refine ⟨undef, _, upL L j o', I, .inr ⟨?_, rfl⟩, ((hi.perm hp1).setObj o').perm hp2.symm, next o' hM'⟩
    simp only [execOp, eval_opnd he hx, eval_opnd he hy, eval_opnd he hz, Sem.run_bind, hr, Result.andThen_ok]; rfl
theorem run_mapGet {W : World} {t kt et : TypeId} {b : Nat} {o : Obj} {m : KV} {key : List UInt8} {z : Value} (hW : W.heap[b]? = some o) (hM : Mp o m) (hu : P.underlying t = some (.map kt et)) (hk : P.underlying kt = some .string) (hz : ∀ w, (zeroValue et).run P w = .ok z w) (c : Bool) :
    (Instr.lookup t (.map (some b)) (str key) c).run P W = .ok (if c then .tuple #[(mget key m).getD z, .bool (mget key m).isSome] else (mget key m).getD z) W := by
  obtain ⟨es, clock, rfl, hm⟩ := hM
  have hg := run_getObj (P := P) hW (fun _ _ _ h => by cases h)
  have hkey : IsKey .string (str key) := trivial
  have hc : (Instr.checkKey es.isEmpty 10000 kt (str key)).run P W = .ok () W := run_checkKey hk hkey es.isEmpty 9999
  have hf := findNow_str key es.toList m 0 hm
  have hF := run_findKey (P := P) (w := W) hk hf
  have hmg := midx_get key m
  cases hq : midx key m with
  | none =>
    rw [hq] at hF hmg
    rw [← hmg]
    simp only [Instr.lookup, Sem.run_bind, run_underlying hu, Result.andThen_ok, hg, hc, hF, Option.map_none, hz, Sem.run_pure, Option.getD_none, Option.isSome_none]
  | some q =>
    rw [hq] at hF hmg
    rw [← hmg]
    simp only [Instr.lookup, Sem.run_bind, run_underlying hu, Result.andThen_ok, hg, hc, hF, Option.map_some, Sem.run_pure, Option.getD_some, Option.isSome_some]
theorem Ops.mapGetI {t kt et : TypeId} {x y : Operand} {b : Nat} {o : Obj} {m : KV} {key : List UInt8} {z : Value} (T : Tab P) (hI : I b = some o) (hM : Mp o m) (hg : want env ops g = some true) (hd : d < n) (hx : opnd env x = some (.map (some b))) (hy : opnd env y = some (str key))
    (hu : T.und t = some (.map kt et)) (hk : T.und kt = some .string) (hz : T.zero et = some z)
    (next : Ops P n C ops (i + 1) l k ((d, .tuple #[(mget key m).getD z, .bool (mget key m).isSome]) :: env) L I) : Ops P n C ops i (⟨some d, .lookup t x y true, ty, ps, af, g⟩ :: l) k env L I :=
  Ops.val hg (dOk hd) (fun a W he hi => by
    have hW := hi.fits.imm b _ hI
    have hr := run_mapGet (P := P) (key := key) hW hM (und_of_run (W := W) (T.undOk hu W)) (und_of_run (W := W) (T.undOk hk W)) (T.zeroOk hz) true
    simp only [execOp, eval_opnd he hx, eval_opnd he hy, Sem.run_bind, hr, Result.andThen_ok]; rfl) next
end
end Go.V
