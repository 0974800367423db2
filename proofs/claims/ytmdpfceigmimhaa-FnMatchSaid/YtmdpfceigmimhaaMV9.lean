/-
  Structs and truths compared; results that stand in a variable of the call; literals of texts.
-/
import Derived.Test.YtmdpfceigmimhaaMV8
import Derived.Laws.StructEq
import Derived.Great.FillDense
namespace Go.V
open Go.RowKit
set_option linter.unusedVariables false
set_option linter.unusedSimpArgs false
/-- are two values the same? -/
def eqV {P : Program} (T : Tab P) (S : List Nat) : Nat → TypeId → Value → Value → Option Bool
  | 0, _, _, _ => none
  | d + 1, t, x, y =>
    match T.und t, x, y with
    | some .bool, .bool a, .bool b => some (a == b)
    | some (.int _), .int k a, .int k' b => bif k == k' then some (a == b) else none
    | some .string, .string a, .string b => some (a.data.toList == b.data.toList)
    | some (.struct fs), .agg xs, .agg ys => bif S.contains t then fs.toList.foldr (fun f (acc : Option Bool) =>
        bif f.name == "_" then acc else
        match T.agg f.type with
        | some false => match xs.toList[f.offset]?, ys.toList[f.offset]? with
          | some u, some v => match eqV T S d f.type u v, acc with
            | some a, some b => some (a && b)
            | _, _ => none
          | _, _ => none
        | some true => match T.size f.type with
          | some m => match eqV T S d f.type (.agg ((xs.toList.drop f.offset).take m).toArray) (.agg ((ys.toList.drop f.offset).take m).toArray), acc with
            | some a, some b => some (a && b)
            | _, _ => none
          | none => none
        | none => none) (some true) else none
    | _, _, _ => none
section
variable {P : Program} {n : Nat} {C : Cx} {k : List Item} {env : Env} {L : Own} {I : Imm} {ops : Array Oper} {i : Nat} {l : List Oper}
variable {ty : TypeId} {ps : String} {af : Array Edge} {g : Option (Nat × Bool)} {d : Nat}
theorem und_of_run {t : TypeId} {u : TypeDesc} {W : World} (h : (underlying t).run P W = .ok u W) : P.underlying t = some u := by
  cases hu : P.underlying t with
  | none => simp [underlying, hu] at h
  | some v => rw [run_underlying hu] at h; cases h; rfl
theorem run_part1 {t : TypeId} {xs : Array Value} {off : Nat} {v : Value} {W : World} (ha : ∀ w, (isAgg t).run P w = .ok false w) (hv : xs.toList[off]? = some v) : (part t xs off).run P W = .ok v W := by
  simp at hv; simp [part, ha, hv]
theorem run_partN {t : TypeId} {xs : Array Value} {off m : Nat} {W : World} (ha : ∀ w, (isAgg t).run P w = .ok true w) (hs : ∀ w, (sizeOf t).run P w = .ok m w) : (part t xs off).run P W = .ok (.agg ((xs.toList.drop off).take m).toArray) W := by
  obtain ⟨xs⟩ := xs
  simp [part, ha, hs]
theorem run_eqV (T : Tab P) {S : List Nat} (hS : S.all (fun t => !P.stoodInHeld t && !P.eqGuardType P.depth t) = true) : ∀ (d : Nat) (t : TypeId) (x y : Value) (r : Bool), eqV T S d t x y = some r → ∀ W, (Op.equalIn d t x y).run P W = .ok r W
  | 0, _, _, _, _, h, _ => by simp [eqV] at h
  | d + 1, t, x, y, r, h, W => by
    unfold eqV at h
    split at h
    · rename_i a b hu
      cases h
      exact run_equalIn_bool' W d t a b (und_of_run (W := W) (T.undOk hu W))
    · rename_i kk k a k' b hu
      cases hk : (k == k') <;> rw [hk] at h <;> simp at h
      have : k = k' := by simpa using hk
      subst this; subst h
      exact run_equalIn_int W d t k kk a b (und_of_run (W := W) (T.undOk hu W))
    · rename_i a b hu
      cases h
      rw [run_equalIn_string W d t a b (und_of_run (W := W) (T.undOk hu W)), ba_toList, ba_toList]
    · rename_i fs xs ys hu
      cases hc : S.contains t <;> rw [hc] at h
      · simp at h
      have hst : P.stoodInHeld t = false := by
        have := List.all_eq_true.1 hS t (by simpa using hc)
        simp at this; exact this.1
      have hP := und_of_run (W := W) (T.undOk hu W)
      have hfo : P.fieldsOf t = fs := by simp [Program.fieldsOf, hP]
      rw [run_equalIn_struct W d t xs ys (by rw [hfo]; exact hP) hst, hfo]
      simp only [cond_true] at h
      clear hfo hP hu hc
      generalize fs.toList = l at h
      induction l generalizing r with
      | nil => simp at h; subst h; rfl
      | cons f l ih =>
        simp only [List.foldr_cons] at h
        simp only [Op.eqFields]
        cases hn : (f.name == "_") <;> rw [hn] at h
        · have hn' : f.name ≠ "_" := by simpa using hn
          rw [if_pos hn']
          simp only [cond_false] at h
          have fin : ∀ (u v : Value) (acc : Option Bool), acc = List.foldr (fun f (acc : Option Bool) =>
              bif f.name == "_" then acc else
              match T.agg f.type with
              | some false => match xs.toList[f.offset]?, ys.toList[f.offset]? with
                | some u, some v => match eqV T S d f.type u v, acc with
                  | some a, some b => some (a && b)
                  | _, _ => none
                | _, _ => none
              | some true => match T.size f.type with
                | some m => match eqV T S d f.type (.agg ((xs.toList.drop f.offset).take m).toArray) (.agg ((ys.toList.drop f.offset).take m).toArray), acc with
                  | some a, some b => some (a && b)
                  | _, _ => none
                | none => none
              | none => none) (some true) l → (match eqV T S d f.type u v, acc with
                  | some a, some b => some (a && b)
                  | _, _ => none) = some r → (part f.type xs f.offset).run P W = .ok u W → (part f.type ys f.offset).run P W = .ok v W →
              (do let a ← part f.type xs f.offset; let b ← part f.type ys f.offset; let r ← Op.equalIn d f.type a b; if (!r) = true then pure false else Op.eqFields d xs ys l : Sem Bool).run P W = .ok r W := by
            intro u v acc hacc hm hpu hpv
            split at hm
            · rename_i a b he
              cases hm
              simp only [Sem.run_bind, hpu, hpv, Result.andThen_ok, run_eqV T hS d f.type u v a he W, Sem.run_ite]
              cases a
              · simp
              · simp only [Bool.not_true, Bool.false_eq_true, if_false, Bool.true_and]
                exact ih b hacc.symm
            · cases hm
          split at h
          · rename_i ha
            split at h
            · rename_i u v hxu hyv
              exact fin u v _ rfl h (run_part1 (T.aggOk ha) hxu) (run_part1 (T.aggOk ha) hyv)
            · cases h
          · rename_i ha
            split at h
            · rename_i m hm
              exact fin _ _ _ rfl h (run_partN (T.aggOk ha) (T.sizeOk hm)) (run_partN (T.aggOk ha) (T.sizeOk hm))
            · cases h
          · cases h
        · have hn' : ¬ f.name ≠ "_" := by simpa using hn
          rw [if_neg hn']
          simp only [cond_true] at h
          exact ih r h
    · cases h
/-- are two structs the same? -/
theorem run_eqlAgg (T : Tab P) (S : List Nat) {t : TypeId} {xs ys : Array Value} {r : Bool} (hS : S.all (fun t => !P.stoodInHeld t && !P.eqGuardType P.depth t) = true) (hin : S.contains t = true) (h : eqV T S 10000 t (.agg xs) (.agg ys) = some r) (x y : Operand) (W : World) :
    (eqGuard .eql t x y (.agg xs) (.agg ys)).run P W = .ok () W ∧ (eqGuard .neq t x y (.agg xs) (.agg ys)).run P W = .ok () W ∧ (binOp .eql t (.agg xs) (.agg ys)).run P W = .ok (.bool r) W ∧ (binOp .neq t (.agg xs) (.agg ys)).run P W = .ok (.bool (!r)) W := by
  have hg : P.eqGuardType P.depth t = false := by
    have := List.all_eq_true.1 hS t (by simpa using hin)
    simp at this; exact this.2
  refine ⟨run_eqGuard_agg W _ t x y xs ys hg, run_eqGuard_agg W _ t x y xs ys hg, ?_, ?_⟩
  · rw [run_eql_struct, run_eqV T hS 10000 t _ _ r h W]; rfl
  · rw [run_neq_struct, run_eqV T hS 10000 t _ _ r h W]; rfl
theorem Ops.eqlAgg {t t' : TypeId} {x y : Operand} {xs ys : List Value} {r : Bool} (T : Tab P) (S : List Nat) (hS : S.all (fun t => !P.stoodInHeld t && !P.eqGuardType P.depth t) = true) (hin : S.contains t = true) (hg : want env ops g = some true) (hd : d < n)
    (hx : opnd env x = some (.agg xs.toArray)) (hy : opnd env y = some (.agg ys.toArray)) (h : eqV T S 10000 t (.agg xs.toArray) (.agg ys.toArray) = some r)
    (next : Ops P n C ops (i + 1) l k ((d, .bool r) :: env) L I) : Ops P n C ops i (⟨some d, .binOp .eql t x y t', ty, ps, af, g⟩ :: l) k env L I :=
  Ops.val hg (dOk hd) (fun a W he hi => by
    obtain ⟨h1, _, h2, _⟩ := run_eqlAgg T S hS hin h x y W
    simp only [execOp, eval_opnd he hx, eval_opnd he hy, Sem.run_bind, h1, h2, Result.andThen_ok]; rfl) next
theorem Ops.eqlB {t t' : TypeId} {x y : Operand} {p q : Bool} (T : Tab P) (hg : want env ops g = some true) (hd : d < n) (hu : T.und t = some .bool) (hx : opnd env x = some (.bool p)) (hy : opnd env y = some (.bool q))
    (next : Ops P n C ops (i + 1) l k ((d, .bool (p == q)) :: env) L I) : Ops P n C ops i (⟨some d, .binOp .eql t x y t', ty, ps, af, g⟩ :: l) k env L I :=
  Ops.val hg (dOk hd) (fun a W he hi => by
    have h1 := run_eqGuard_bool (P := P) .eql t x y p (.bool q) W
    have h2 : (Op.equal t (.bool p) (.bool q)).run P W = .ok (p == q) W := run_equalIn_bool W 9999 t p q (und_of_run (W := W) (T.undOk hu W))
    simp only [execOp, eval_opnd he hx, eval_opnd he hy, Sem.run_bind, h1, binOp, h2, Result.andThen_ok]; rfl) next
theorem run_cellN (T : Tab P) {j b off m : Nat} {vs cs : List Value} {t t' : TypeId} {W : World} (hi : Inv C.w0 C.I0 C.L0 I L W) (hL : L[j]? = some (b, blk cs t')) (ha : T.agg t = some true) (hs : T.size t = some m) (hv : (cs.drop off).take m = vs) (hm : vs.length = m) :
    (loadVar t ⟨b, off, none⟩).run P W = .ok (.agg vs.toArray) W := by
  refine run_loadVarN (T.aggOk ha) (T.sizeOk hs) hm ?_
  intro q v h
  rw [cell_blk (hi.fits.own b _ (List.mem_of_getElem? hL))]
  rw [← hv, List.getElem?_take] at h
  split at h
  · simpa using h
  · cases h
/-- one struct, in variable t -/
theorem Run.retC (T : Tab P) (j : Nat) {fn : Func} {t b m : Nat} {vs cs : List Value} {rt t' : TypeId} {todo : List Item} (hfn : P.funcs[C.f]? = some fn) (hres : fn.results = #[.cell t rt]) (hp : look env t = some (.pointer (some ⟨b, 0, none⟩)))
    (hL : L[j]? = some (b, blk cs t')) (ha : T.agg rt = some true) (hs : T.size rt = some m) (hv : (cs.drop 0).take m = vs) (hm : vs.length = m) (h : C.R (.agg vs.toArray) I []) : Run P n C (.code .ret :: todo) env L I := by
  intro bb a cs' W hb hk he hi
  have hr : (results fn a.tmps).run P W = .ok (.agg vs.toArray) W := by
    have h1 := run_cellN T hi hL ha hs hv hm
    have hp' : a.tmps[t]?.getD undef = .pointer (some ⟨b, 0, none⟩) := by rw [he.at_ _ _ hp]; rfl
    simp [results, hres, hp', asAddr, h1]
  exact ⟨.returned (.agg vs.toArray), W, _, ⟨_, I, [], rfl, h, hi.weakenL (List.nil_sublist _)⟩, Steps.one step_ret, hb, rfl, he.defers, hk, fn, by simpa [Frame.at, hb] using hfn, hr⟩
theorem Val.int {kd : IntKind} {v : Value} {x : Int} (h : Val (.int kd) I v x) : v = .int kd x := by
  have h' : [v] = [.int kd x] := h
  simpa using h'
theorem Val.bool {v : Value} {x : Bool} (h : Val .bool I v x) : v = .bool x := by
  have h' : [v] = [.bool x] := h
  simpa using h'
theorem Val.str {v : Value} {x : List UInt8} (h : Val .str I v x) : v = V.str x := by
  have h' : [v] = [V.str x] := h
  simpa using h'
theorem Val.sl {e : Cd} {v : Value} {x : List e.ty} (h : Val (.sl e) I v x) : Sl e.T I v x := by
  obtain ⟨u, h1, h2⟩ : ∃ u, [v] = [u] ∧ Sl e.T I u x := h
  obtain rfl : v = u := by simpa using h1
  exact h2
def fillL (pl : List (Nat × Nat)) : List Value → List (Nat × Value) → Option (List Value)
  | cs, [] => some cs
  | cs, (i, v) :: r => match pl[i]? with
    | some (off, size) => bif Nat.beq v.cells.toList.length size && Nat.ble (off + size) cs.length then fillL pl (setAt cs off v.cells.toList) r else none
    | none => none
theorem foldl_setAt (off : Nat) : ∀ (l : List Value) (s : Nat) (cs : List Value), off + s + l.length ≤ cs.length →
    (l.zipIdx s).foldl (fun (cs : Array Value) (x : Value × Nat) => cs.setIfInBounds (off + x.2) x.1) cs.toArray = (cs.take (off + s) ++ l ++ cs.drop (off + s + l.length)).toArray := by
  intro l s cs h
  have h1 := Great.foldl_set off l s cs.toArray
  apply Array.ext_getElem?
  intro k
  rw [h1.2 k]
  simp only [List.size_toArray, List.getElem?_toArray, List.append_assoc]
  by_cases hk : off + s ≤ k ∧ k < off + s + l.length ∧ k < cs.length
  · rw [if_pos hk, List.getElem?_append_right (by simp; omega), List.getElem?_append_left (by simp; omega)]
    congr 1; simp; omega
  · rw [if_neg hk]
    by_cases h2 : k < off + s
    · rw [List.getElem?_append_left (by simp; omega), List.getElem?_take_of_lt h2]
    · rw [List.getElem?_append_right (by simp; omega)]
      have hmin : min (off + s) cs.length = off + s := by omega
      by_cases h3 : k < off + s + l.length
      · omega
      · rw [List.getElem?_append_right (by simp; omega), List.getElem?_drop]
        congr 1; simp; omega
theorem fillL_ok (pl : List (Nat × Nat)) : ∀ (vs : List (Nat × Value)) (cs r : List Value), fillL pl cs vs = some r → Instr.fill (fun i => pl[i]?) cs.toArray vs = some r.toArray
  | [], cs, r, h => by simp [fillL] at h; subst h; rfl
  | (i, v) :: vs, cs, r, h => by
    simp only [fillL] at h
    split at h
    · rename_i off size hp
      cases hc : (Nat.beq v.cells.toList.length size && Nat.ble (off + size) cs.length) <;> rw [hc] at h
      · cases h
      · simp only [cond_true] at h
        simp only [Bool.and_eq_true, Nat.beq_eq_true_eq, Nat.ble_eq, Array.length_toList] at hc
        obtain ⟨h1, h2⟩ := hc
        have h1' : v.cells.size = size := by first | exact h1 | exact Nat.eq_of_beq_eq_true h1
        simp only [Instr.fill, hp]
        rw [if_neg (by simp; omega)]
        have h3 := foldl_setAt off v.cells.toList 0 cs (by simp; omega)
        simp only [Nat.add_zero] at h3
        rw [← Array.foldl_toList, Array.toList_zipIdx, h3]
        exact fillL_ok pl vs _ r h
    · cases h
theorem Ops.buildL {t : TypeId} {xs : List (Nat × Operand)} {vs : List (Nat × Value)} {pl : List (Nat × Nat)} {z : Array Value} {cs : List Value}
    (hb : ∀ w ps cells, Instr.fill (pl[·]?) z ps = some cells → (Instr.build t ps.toArray).run P w = .ok (.agg cells) w) (hg : want env ops g = some true) (hd : d < n)
    (hx : parts env xs = some vs) (hf : fillL pl z.toList vs = some cs)
    (next : Ops P n C ops (i + 1) l k ((d, .agg cs.toArray) :: env) L I) : Ops P n C ops i (⟨some d, .build t xs.toArray, ty, ps, af, g⟩ :: l) k env L I :=
  Ops.build hb hg hd hx (by simpa using fillL_ok pl vs z.toList cs hf) next
theorem zip_enum : ∀ (ps : List (Nat × Value)) (i : Nat), ps.map Prod.fst = List.range' i ps.length → ((ps.map Prod.snd).zipIdx i).map (fun x => (x.2, x.1)) = ps
  | [], _, _ => rfl
  | (j, v) :: r, i, h => by
    simp only [List.map_cons, List.length_cons, List.range'_succ, List.cons.injEq] at h
    obtain ⟨rfl, h⟩ := h
    simp only [List.map_cons, List.zipIdx_cons]
    rw [zip_enum r _ h]
/-- a literal that gives every element -/
theorem Ops.lit {t e : TypeId} {len size : Nat} {xs : List (Nat × Operand)} {ps' : List (Nat × Value)} {z : Value} {cs : List Value} (T : Tab P)
    (hu : T.und t = some (.slice e)) (hz : T.zero e = some z) (hs : T.size e = some size) (hpos : 0 < size) (hg : want env ops g = some true) (hd : d < n)
    (hlen : len * size ≤ 16777216) (hx : parts env xs = some ps') (hn : ps'.length = len) (hi : ps'.map Prod.fst = List.range' 0 len) (hsz : ps'.all (fun p => p.2.cells.size == size) = true) (hcs : (ps'.map Prod.snd).flatMap (fun v => v.cells.toList) = cs)
    (next : ∀ b, Ops P n C ops (i + 1) l k ((d, .slice (some ⟨b, 0, none⟩) len len) :: env) ((b, blk cs e) :: L) I) : Ops P n C ops i (⟨some d, .buildSlice t len xs.toArray, ty, ps, af, g⟩ :: l) k env L I := by
  subst hn
  refine Ops.buildSlice (T.undOk hu) (T.zeroOk hz) (T.sizeOk hs) hg hd hlen hx ?_ next
  have h := Great.fill_whole hpos (ps'.map Prod.snd) ((Array.range (ps'.length * size)).map (z.cells[· % z.cells.size]!)) ?_ ?_
  · rw [zip_enum ps' 0 (by simpa using hi), hcs] at h; exact h
  · intro v hv
    obtain ⟨p, hp, rfl⟩ := List.mem_map.1 hv
    simpa using List.all_eq_true.1 hsz p hp
  · simp
theorem Sl.ofBlock {α : Type} {t : Ty α} {b cap len : Nat} {cs : List Value} {e : TypeId} {xs : List α} (hb : I b = some (blk cs e)) (hC : Cells t I cs xs) (hn : xs.length = len) (hc : len ≤ cap) : Sl t I (.slice (some ⟨b, 0, none⟩) len cap) xs := by
  subst hn
  refine ⟨_, _, rfl, hc, .inr ⟨b, 0, rfl, ?_⟩⟩
  obtain ⟨css, rfl, h2, h3⟩ := hC
  intro i x hx
  have hi : i < css.length := by rw [h2]; exact (List.getElem?_eq_some_iff.1 hx).1
  have hc := List.getElem?_eq_getElem hi
  refine ⟨css[i], h3 i x _ hx hc, At.of_block hb ?_⟩
  intro j u hu
  have := flatten_at css t.size (Cells.sizes h2 h3) i _ hc j u hu
  simpa using this
theorem Cells.one1 {α : Type} {t : Ty α} (f : α → Value) (h : ∀ x, t.rel I [f x] x) : ∀ xs : List α, Cells t I (xs.map f) xs
  | [] => Cells.nil t I
  | x :: r => by
    have := (Cells.one (t := t) (I := I) (h x)).append (Cells.one1 f h r)
    simpa using this
theorem Cells.strs (xs : List (List UInt8)) : Cells tStr I (xs.map str) xs := Cells.one1 str (fun _ => rfl) xs
theorem Cells.cons {α : Type} {t : Ty α} {c cs : List Value} {x : α} {xs : List α} (h : t.rel I c x) (k : Cells t I cs xs) : Cells t I (c ++ cs) (x :: xs) := (Cells.one h).append k
end
end Go.V
