import Derived.Test.YthbokkmoafodcaaDoorBPM1
import Derived.Carry
import Derived.ProofKit
import Derived.Below
import Derived.Laws.StructEq
import Derived.Great.FillDense
import Derived.Lib.Builder
import Derived.Lib.UnsafeStr
import Derived.MapKept
/-
  What a law is handed, read; a contract carried to a law's row.
-/
namespace Go.V
open Go.RowKit Go.ChangeShapes
set_option linter.unusedVariables false
set_option linter.unusedSimpArgs false
/-- a slice, none told apart from an empty one -/
def tNSl {α : Type} (t : Ty α) : Ty (Option (List α)) :=
  ⟨1, fun I cs xs => match xs with
    | none => cs = [.slice none 0 0]
    | some xs => ∃ a c, cs = [.slice (some a) xs.length c] ∧ xs.length ≤ c ∧ (xs = [] ∨ ∃ b off, a = ⟨b, off, none⟩ ∧ RowAt t I b off xs),
   fun {I cs x} h => by
    cases x with
    | none => simp only at h; subst h; rfl
    | some x => obtain ⟨a, c, h, _⟩ := h; subst h; rfl,
   fun {I J cs x} h hle => by
    cases x with
    | none => exact h
    | some x => obtain ⟨a, c, h, h1, h2⟩ := h; exact ⟨a, c, h, h1, h2.imp id fun ⟨b, off, h3, h4⟩ => ⟨b, off, h3, h4.mono hle⟩⟩⟩
/-- shapes of what a law is handed -/
inductive Cd where
  | int (k : IntKind)
  | bool
  | str
  | sl (e : Cd)
  | nsl (e : Cd)
  | st (c : Cd)
  | pair (c r : Cd)
def Cd.ty : Cd → Type
  | .int _ => Int
  | .bool => Bool
  | .str => List UInt8
  | .sl e => List e.ty
  | .nsl e => Option (List e.ty)
  | .st c => c.ty
  | .pair c r => c.ty × r.ty
def Cd.T : (c : Cd) → V.Ty c.ty
  | .int k => tInt k
  | .bool => tBool
  | .str => tStr
  | .sl e => tSl e.T
  | .nsl e => tNSl e.T
  | .st c => c.T
  | .pair c r => tPair c.T r.T
/-- what the readings promise of numbers and lengths -/
def Cd.ok : (c : Cd) → c.ty → Prop
  | .int k, x => (Lit.int k (x : Int)).wf = true
  | .bool, _ => True
  | .str, s => (s : List UInt8).length ≤ maxLen
  | .sl e, xs => let l : List e.ty := xs; l.length ≤ maxLen ∧ ∀ x ∈ l, e.ok x
  | .nsl e, xs => ∀ l : List e.ty, (xs : Option (List e.ty)) = some l → l.length ≤ maxLen ∧ ∀ x ∈ l, e.ok x
  | .st c, x => c.ok x
  | .pair c r, x => c.ok (x : c.ty × r.ty).1 ∧ r.ok (x : c.ty × r.ty).2
def fitsFs (fits : Cd → TypeId → Bool) (size : TypeId → Nat) : Cd → List Field → Nat → Bool
  | .pair c r, f :: fs, off => f.offset == off && fits c f.type && fitsFs fits size r fs (off + size f.type)
  | c, [f], off => f.offset == off && fits c f.type
  | _, _, _ => false
def Cd.fits (P : Program) : Nat → Cd → TypeId → Bool
  | 0, _, _ => false
  | d + 1, c, t => match c, P.underlying t with
    | .int k, some (.int k') => k == k' && P.cellsOf t == 1
    | .bool, some .bool => P.cellsOf t == 1
    | .str, some .string => P.cellsOf t == 1
    | .sl e, some (.slice te) => Cd.fits P d e te && P.cellsOf t == 1
    | .nsl e, some (.slice te) => Cd.fits P d e te && P.cellsOf t == 1
    | .st c, some (.struct fs) => fitsFs (Cd.fits P d) P.cellsOf c fs.toList 0 && c.T.size == P.cellsOf t
    | _, _ => false
/-- the whole heap, as blocks that nobody writes -/
def whole (W : World) : Imm := fun b => W.heap[b]?
theorem cells_spec {W : World} {a : Addr} {m : Nat} {cs : List Value} (h : W.cells? 0 a m = some cs) : cs.length = m ∧ ∀ j v, cs[j]? = some v → W.cell? (a.add j) = some v := by
  simp only [World.cells?, Nat.zero_le, if_true] at h
  have key : ∀ (l : List Nat) (cs : List Value), l.mapM (fun i => W.cell? (a.add i)) = some cs → cs.length = l.length ∧ ∀ (j : Nat) (v : Value), cs[j]? = some v → ∃ i, l[j]? = some i ∧ W.cell? (a.add i) = some v := by
    intro l
    induction l with
    | nil => intro cs h; simp at h; subst h; simp
    | cons i r ih =>
      intro cs h
      simp only [List.mapM_cons, Option.bind_eq_bind, Option.bind_eq_some_iff, Option.pure_def, Option.some.injEq] at h
      obtain ⟨v, hv, vs, hvs, rfl⟩ := h
      obtain ⟨h1, h2⟩ := ih vs hvs
      refine ⟨by simp [h1], ?_⟩
      intro j u hu
      cases j with
      | zero => simp at hu; subst hu; exact ⟨i, rfl, hv⟩
      | succ j => simpa using h2 j u (by simpa using hu)
  obtain ⟨h1, h2⟩ := key _ _ h
  refine ⟨by simpa using h1, ?_⟩
  intro j v hv
  obtain ⟨i, hi, hc⟩ := h2 j v hv
  have : i = j := by
    have hj : j < m := by
      have := (List.getElem?_eq_some_iff.1 hv).1; simp at h1; omega
    simp [hj] at hi; exact hi.symm
  subst this; exact hc
theorem at_whole {W : World} {a : Addr} {vs : List Value} (hs : vs ≠ []) (h : ∀ (j : Nat) v, vs[j]? = some v → W.cell? (a.add j) = some v) : a.spot = none ∧ At (whole W) a.block a.off vs := by
  obtain ⟨v0, r, rfl⟩ := List.exists_cons_of_ne_nil hs
  have h0 := h 0 v0 rfl
  have ha0 : a.add 0 = a := by simp [Addr.add]
  rw [ha0] at h0
  unfold World.cell? at h0
  split at h0
  · rename_i c e f hb
    split at h0
    · cases h0
    · rename_i hsp
      have hspot : a.spot = none := by simpa using hsp
      refine ⟨hspot, c, e, f, hb, ?_⟩
      intro j v hv
      have := h j v hv
      have ha : a = ⟨a.block, a.off, none⟩ := by cases a; simp at hspot; subst hspot; rfl
      rw [ha, add_off, cell_blk hb] at this
      exact this
  · cases h0
theorem Cd.size_pos : ∀ c : Cd, 1 ≤ c.T.size
  | .int _ => Nat.le_refl _
  | .bool => Nat.le_refl _
  | .str => Nat.le_refl _
  | .sl _ => Nat.le_refl _
  | .nsl _ => Nat.le_refl _
  | .st c => Cd.size_pos c
  | .pair c r => by
    have h1 := Cd.size_pos c
    show 1 ≤ c.T.size + r.T.size
    omega
theorem Cd.fits_size {P : Program} : ∀ (d : Nat) (c : Cd) (t : TypeId), Cd.fits P d c t = true → c.T.size = P.cellsOf t
  | 0, _, _, h => by simp [Cd.fits] at h
  | d + 1, c, t, h => by
    simp only [Cd.fits] at h
    split at h <;> simp at h <;> first
      | (have := h.2; simp [Cd.T, tInt, tBool, tStr, tSl, tNSl, this]; done)
      | (simp [Cd.T, tInt, tBool, tStr, tSl, tNSl, h]; done)
      | exact h.2
section
variable {H : Type} {enc : TypeId × Value → H} {P : Program} {W : World}
theorem read_row {e : Cd} {te : TypeId} {a : Addr} {len : Nat} (hsz : e.T.size = P.cellsOf te)
    (hf : ∀ i, i < len → ∃ cs, W.cells? 0 (a.add (i * P.cellsOf te)) (P.cellsOf te) = some cs ∧ ∃ x, e.T.rel (whole W) cs x ∧ e.ok x) :
    ∃ xs : List e.ty, xs.length = len ∧ (∀ x ∈ xs, e.ok x) ∧ (xs = [] ∨ ∃ b off, a = ⟨b, off, none⟩ ∧ RowAt e.T (whole W) b off xs) := by
  have key : ∀ m, m ≤ len → ∃ xs : List e.ty, xs.length = m ∧ (∀ x ∈ xs, e.ok x) ∧ ∀ (i : Nat) x, xs[i]? = some x → ∃ cs, e.T.rel (whole W) cs x ∧ W.cells? 0 (a.add (i * P.cellsOf te)) (P.cellsOf te) = some cs := by
    intro m
    induction m with
    | zero => exact fun _ => ⟨[], rfl, by simp, by simp⟩
    | succ m ih =>
      intro hm
      obtain ⟨xs, h1, h2, h3⟩ := ih (by omega)
      obtain ⟨cs, hcs, x, hx, hok⟩ := hf m (by omega)
      refine ⟨xs ++ [x], by simp [h1], ?_, ?_⟩
      · intro z hz
        rcases List.mem_append.1 hz with hz | hz
        · exact h2 z hz
        · simp at hz; subst hz; exact hok
      · intro i z hz
        by_cases hi : i < m
        · rw [List.getElem?_append_left (by omega)] at hz
          exact h3 i z hz
        · rw [List.getElem?_append_right (by omega), h1] at hz
          have : i = m := by
            have := (List.getElem?_eq_some_iff.1 hz).1; simp at this; omega
          subst this
          simp at hz; subst hz
          exact ⟨cs, hx, hcs⟩
  obtain ⟨xs, h1, h2, h3⟩ := key len (Nat.le_refl _)
  refine ⟨xs, h1, h2, ?_⟩
  cases hxs : xs with
  | nil => exact .inl rfl
  | cons x0 r =>
    right
    have hpos : 1 ≤ P.cellsOf te := by rw [← hsz]; exact Cd.size_pos e
    have hat : ∀ (i : Nat) x, xs[i]? = some x → ∃ cs, e.T.rel (whole W) cs x ∧ (a.add (i * P.cellsOf te)).spot = none ∧ At (whole W) (a.add (i * P.cellsOf te)).block (a.add (i * P.cellsOf te)).off cs := by
      intro i x hx
      obtain ⟨cs, hr, hc⟩ := h3 i x hx
      obtain ⟨hl, hc'⟩ := cells_spec hc
      have hne : cs ≠ [] := fun he => by subst he; simp at hl; omega
      obtain ⟨hs, hA⟩ := at_whole hne hc'
      exact ⟨cs, hr, hs, hA⟩
    obtain ⟨_, _, hs0, _⟩ := hat 0 x0 (by rw [hxs]; rfl)
    rw [Nat.zero_mul, show a.add 0 = a by simp [Addr.add]] at hs0
    have ha : a = ⟨a.block, a.off, none⟩ := by cases a; simp at hs0; subst hs0; rfl
    refine ⟨a.block, a.off, ha, ?_⟩
    rw [← hxs]
    intro i x hx
    obtain ⟨cs, hr, _, hA⟩ := hat i x hx
    refine ⟨cs, hr, ?_⟩
    rw [ha, add_off, ← hsz] at hA
    exact hA
theorem read_fs {d : Nat} (hrec : ∀ c t fuel cs dat, Cd.fits P d c t = true → DataW.trod enc P W 0 (fun _ => true) true fuel t cs = some dat → ∃ x, c.T.rel (whole W) cs x ∧ c.ok x) {fuel : Nat} (cs : List Value) :
    ∀ (c : Cd) (fs : List Field) (off : Nat), fitsFs (Cd.fits P d) P.cellsOf c fs off = true →
      (∀ f, f ∈ fs → ∃ y, DataW.trod enc P W 0 (fun _ => true) true fuel f.type ((cs.drop f.offset).take (P.cellsOf f.type)) = some y) →
      cs.length = off + c.T.size → ∃ x, c.T.rel (whole W) (cs.drop off) x ∧ c.ok x := by
  intro c
  have last : ∀ (c : Cd) (f : Field) (off : Nat), (f.offset == off && Cd.fits P d c f.type) = true →
      (∃ y, DataW.trod enc P W 0 (fun _ => true) true fuel f.type ((cs.drop f.offset).take (P.cellsOf f.type)) = some y) →
      cs.length = off + c.T.size → ∃ x, c.T.rel (whole W) (cs.drop off) x ∧ c.ok x := by
    intro c f off hfit hm hlen
    simp only [Bool.and_eq_true, beq_iff_eq] at hfit
    obtain ⟨ho, hf⟩ := hfit
    obtain ⟨y, hy⟩ := hm
    obtain ⟨x, hx, hok⟩ := hrec c f.type fuel _ y hf hy
    refine ⟨x, ?_, hok⟩
    rw [ho, ← Cd.fits_size d c f.type hf, List.take_of_length_le (by simp; omega)] at hx
    exact hx
  induction c with
  | pair c r _ ihr =>
    intro fs off hfit hm hlen
    cases fs with
    | nil => simp [fitsFs] at hfit
    | cons f fs =>
      simp only [fitsFs, Bool.and_eq_true, beq_iff_eq] at hfit
      obtain ⟨⟨ho, hf⟩, hfs⟩ := hfit
      obtain ⟨y, hy⟩ := hm f List.mem_cons_self
      obtain ⟨x, hx, hok⟩ := hrec c f.type fuel _ y hf hy
      have hsz := Cd.fits_size d c f.type hf
      have hl : cs.length = off + (c.T.size + r.T.size) := hlen
      obtain ⟨y, hy2, hok2⟩ := ihr fs (off + P.cellsOf f.type) hfs (fun f hf => hm f (List.mem_cons_of_mem _ hf)) (by rw [← hsz]; omega)
      refine ⟨(x, y), ⟨(cs.drop off).take c.T.size, cs.drop (off + P.cellsOf f.type), ?_, ?_, hy2⟩, hok, hok2⟩
      · rw [← hsz, ← List.drop_drop, List.take_append_drop]
      · rw [ho, ← hsz] at hx; exact hx
  | _ =>
    intro fs off hfit hm hlen
    cases fs with
    | nil => simp [fitsFs] at hfit
    | cons f fs =>
      cases fs with
      | nil => exact last _ f off (by simpa [fitsFs] using hfit) (hm f List.mem_cons_self) hlen
      | cons _ _ => simp [fitsFs] at hfit
theorem read (d : Nat) : ∀ c t fuel cs dat, Cd.fits P d c t = true → DataW.trod enc P W 0 (fun _ => true) true fuel t cs = some dat → ∃ x, c.T.rel (whole W) cs x ∧ c.ok x := by
  induction d with
  | zero => intro c t fuel cs dat h; simp [Cd.fits] at h
  | succ d ih =>
    intro c t fuel cs dat hfit h
    simp only [Cd.fits] at hfit
    have row : ∀ (e : Cd) (te : TypeId) (a : Addr) (len n : Nat) (elems : List (DataW H × List MemPlace)), Cd.fits P d e te = true → elems.length = len →
        (∀ i, i < len → (W.cells? 0 (a.add (i * P.cellsOf te)) (P.cellsOf te)).bind (DataW.trod enc P W 0 (fun _ => true) true n te) = elems[i]?) →
        ∃ xs : List e.ty, xs.length = len ∧ (∀ x ∈ xs, e.ok x) ∧ (xs = [] ∨ ∃ b off, a = ⟨b, off, none⟩ ∧ RowAt e.T (whole W) b off xs) := by
      intro e te a len n elems hfe hlen hel
      refine read_row (Cd.fits_size d e te hfe) ?_
      intro i hi
      have hi' := hel i hi
      rw [List.getElem?_eq_getElem (by omega)] at hi'
      obtain ⟨cs, hcs, ht⟩ := Option.bind_eq_some_iff.1 hi'
      exact ⟨cs, hcs, ih e te n cs _ hfe ht⟩
    split at hfit
    · rename_i k k' hu
      simp only [Bool.and_eq_true, beq_iff_eq] at hfit
      obtain ⟨rfl, _⟩ := hfit
      obtain ⟨m, rfl, _, hw⟩ := DataW.trod_int hu h
      exact ⟨m, rfl, hw⟩
    · rename_i hu
      obtain ⟨b, rfl, _⟩ := DataW.trod_bool hu h
      exact ⟨b, rfl, trivial⟩
    · rename_i hu
      obtain ⟨s, rfl, _, hs⟩ := DataW.trod_string hu h
      refine ⟨s.data.toList, ?_, ?_⟩
      · show [Value.string s] = [str s.data.toList]
        simp [str]
      · show s.data.toList.length ≤ maxLen
        rw [Array.length_toList]; exact hs
    · rename_i e te hu
      simp only [Bool.and_eq_true, beq_iff_eq] at hfit
      rcases DataW.trod_slice hu h with ⟨rfl, _⟩ | ⟨a, len, cap, elems, rest, n, rfl, rfl, _, _, hlc, hcm, hlen, hel, _⟩
      · refine ⟨([] : List e.ty), ⟨_, rfl, Sl.nil _ _⟩, ?_⟩
        exact ⟨Nat.zero_le _, fun x hx => by cases hx⟩
      · obtain ⟨xs, h1, h2, h3⟩ := row e te a len n elems hfit.1 hlen hel
        refine ⟨xs, ⟨_, rfl, some a, cap, by rw [h1], by rw [h1]; exact hlc, h3.imp id fun ⟨b, off, h4, h5⟩ => ⟨b, off, by rw [h4], h5⟩⟩, ?_⟩
        exact ⟨by rw [h1]; omega, h2⟩
    · rename_i e te hu
      simp only [Bool.and_eq_true, beq_iff_eq] at hfit
      rcases DataW.trod_slice hu h with ⟨rfl, _⟩ | ⟨a, len, cap, elems, rest, n, rfl, rfl, _, _, hlc, hcm, hlen, hel, _⟩
      · exact ⟨(none : Option (List e.ty)), rfl, fun l hl => by cases hl⟩
      · obtain ⟨xs, h1, h2, h3⟩ := row e te a len n elems hfit.1 hlen hel
        refine ⟨(some xs : Option (List e.ty)), ⟨a, cap, by rw [h1], by rw [h1]; exact hlc, h3⟩, ?_⟩
        intro l hl
        cases hl
        exact ⟨by rw [h1]; omega, h2⟩
    · rename_i c fs hu
      simp only [Bool.and_eq_true, beq_iff_eq] at hfit
      obtain ⟨xs, n, rfl, _, hl, hxl, hel⟩ := DataW.trod_struct hu h
      have := read_fs ih (fuel := n) cs c fs.toList 0 hfit.1 (fun f hf => by
        obtain ⟨i, hi⟩ := List.getElem?_of_mem hf
        have hi' := hel i f (by simpa using hi)
        have hlt : i < xs.length := by
          have := (List.getElem?_eq_some_iff.1 hi).1
          simp at this; omega
        rw [List.getElem?_eq_getElem hlt] at hi'
        exact ⟨_, hi'⟩) (by rw [hl, hfit.2]; omega)
      rw [List.drop_zero] at this
      exact this
    · cases hfit
end
/-- a value handed to a law -/
def Val (c : Cd) (I : Imm) (v : Value) (x : c.ty) : Prop :=
  match c, x with
  | .st c, x => ∃ cs, v = .agg cs.toArray ∧ c.T.rel I cs x
  | c, x => c.T.rel I [v] x
theorem read_arg {H : Type} {enc : TypeId × Value → H} {P : Program} {W : World} (d : Nat) {c : Cd} {t : TypeId} {v : Value} {dat : DataW H} {ps : List MemPlace} {r : Reach} {base : Nat} (hf : Cd.fits P (d + 1) c t = true)
    (hv : Value.okWide P W r base t v) (h : DataW.Trod enc P W 0 (fun _ => true) true t v dat ps) : ∃ x, Val c (whole W) v x ∧ c.ok x := by
  obtain ⟨fuel, hr⟩ := h
  obtain ⟨x, hx, hok⟩ := read (d + 1) c t fuel _ _ hf hr
  have flat : (∀ cs, ¬ Cell.okWide P W r base t (.agg cs)) → Cell.okWide P W r base t v → v.cells.toList = [v] := by
    intro h1 h2
    cases v <;> first | rfl | exact absurd h2 (h1 _)
  simp only [Cd.fits] at hf
  split at hf
  case h_6 c fs hu =>
    simp only [Value.okWide, hu] at hv
    obtain ⟨cs, rfl, _⟩ := hv
    exact ⟨x, ⟨cs.toList, by simp, hx⟩, hok⟩
  case h_7 => cases hf
  all_goals
    rename_i hu
    simp only [Value.okWide, hu] at hv
    rw [flat (fun cs hc => by simp [Cell.okWide, hu, Cell.ok] at hc) hv] at hx
    exact ⟨x, hx, hok⟩
/-- a contract over the whole heap, as a row asks it -/
theorem Pure.calls {P : Program} {f : FuncId} {args : List Value} {R : Value → Imm → Prop} {W : World} (h : Pure P f args (whole W) R) :
    Calls P f args.toArray W fun e W' => (∃ v J, e = .returned v ∧ R v J) ∧ Below W.heap.size W W' := by
  refine (h W ⟨fun _ _ h => h, (fun _ _ h => by cases h), (fun _ _ h => by cases h), List.nodup_nil⟩).mono ?_
  rintro e W' ⟨v, J, L, rfl, ⟨rfl, hR⟩, hi⟩
  exact ⟨⟨v, J, rfl, hR⟩, hi.os, hi.tape, hi.output, hi.size, fun k hk => hi.old k hk (by simp)⟩
end Go.V
/-
  Structs and truths compared; results that stand in a variable of the call; literals of texts.
-/
namespace Go.V
open Go.RowKit
set_option linter.unusedVariables false
set_option linter.unusedSimpArgs false
/-- are two values the same? -/
def eqV {P : Program} (T : Tab P) (S : List Nat) : Nat → TypeId → Value → Value → Option Bool
  | 0, _, _, _ => none
  | d + 1, t, x, y =>
    match T.und t, x, y with
    | some .bool, .bool a, .bool b => some (a == b)
    | some (.int _), .int k a, .int k' b => bif k == k' then some (a == b) else none
    | some .string, .string a, .string b => some (a.data.toList == b.data.toList)
    | some (.struct fs), .agg xs, .agg ys => bif S.contains t then fs.toList.foldr (fun f (acc : Option Bool) =>
        bif f.name == "_" then acc else
        match T.agg f.type with
        | some false => match xs.toList[f.offset]?, ys.toList[f.offset]? with
          | some u, some v => match eqV T S d f.type u v, acc with
            | some a, some b => some (a && b)
            | _, _ => none
          | _, _ => none
        | some true => match T.size f.type with
          | some m => match eqV T S d f.type (.agg ((xs.toList.drop f.offset).take m).toArray) (.agg ((ys.toList.drop f.offset).take m).toArray), acc with
            | some a, some b => some (a && b)
            | _, _ => none
          | none => none
        | none => none) (some true) else none
    | _, _, _ => none
section
variable {P : Program} {n : Nat} {C : Cx} {k : List Item} {env : Env} {L : Own} {I : Imm} {ops : Array Oper} {i : Nat} {l : List Oper}
variable {ty : TypeId} {ps : String} {af : Array Edge} {g : Option (Nat × Bool)} {d : Nat}
theorem und_of_run {t : TypeId} {u : TypeDesc} {W : World} (h : (underlying t).run P W = .ok u W) : P.underlying t = some u := by
  cases hu : P.underlying t with
  | none => simp [underlying, hu] at h
  | some v => rw [run_underlying hu] at h; cases h; rfl
theorem run_part1 {t : TypeId} {xs : Array Value} {off : Nat} {v : Value} {W : World} (ha : ∀ w, (isAgg t).run P w = .ok false w) (hv : xs.toList[off]? = some v) : (part t xs off).run P W = .ok v W := by
  simp at hv; simp [part, ha, hv]
theorem run_partN {t : TypeId} {xs : Array Value} {off m : Nat} {W : World} (ha : ∀ w, (isAgg t).run P w = .ok true w) (hs : ∀ w, (sizeOf t).run P w = .ok m w) : (part t xs off).run P W = .ok (.agg ((xs.toList.drop off).take m).toArray) W := by
  obtain ⟨xs⟩ := xs
  simp [part, ha, hs]
theorem run_eqV (T : Tab P) {S : List Nat} (hS : S.all (fun t => !P.stoodInHeld t && !P.eqGuardType P.depth t) = true) : ∀ (d : Nat) (t : TypeId) (x y : Value) (r : Bool), eqV T S d t x y = some r → ∀ W, (Op.equalIn d t x y).run P W = .ok r W
  | 0, _, _, _, _, h, _ => by simp [eqV] at h
  | d + 1, t, x, y, r, h, W => by
    unfold eqV at h
    split at h
    · rename_i a b hu
      cases h
      exact run_equalIn_bool' W d t a b (und_of_run (W := W) (T.undOk hu W))
    · rename_i kk k a k' b hu
      cases hk : (k == k') <;> rw [hk] at h <;> simp at h
      have : k = k' := by simpa using hk
      subst this; subst h
      exact run_equalIn_int W d t k kk a b (und_of_run (W := W) (T.undOk hu W))
    · rename_i a b hu
      cases h
      rw [run_equalIn_string W d t a b (und_of_run (W := W) (T.undOk hu W)), ba_toList, ba_toList]
    · rename_i fs xs ys hu
      cases hc : S.contains t <;> rw [hc] at h
      · simp at h
      have hst : P.stoodInHeld t = false := by
        have := List.all_eq_true.1 hS t (by simpa using hc)
        simp at this; exact this.1
      have hP := und_of_run (W := W) (T.undOk hu W)
      have hfo : P.fieldsOf t = fs := by simp [Program.fieldsOf, hP]
      rw [run_equalIn_struct W d t xs ys (by rw [hfo]; exact hP) hst, hfo]
      simp only [cond_true] at h
      clear hfo hP hu hc
      generalize fs.toList = l at h
      induction l generalizing r with
      | nil => simp at h; subst h; rfl
      | cons f l ih =>
        simp only [List.foldr_cons] at h
        simp only [Op.eqFields]
        cases hn : (f.name == "_") <;> rw [hn] at h
        · have hn' : f.name ≠ "_" := by simpa using hn
          rw [if_pos hn']
          simp only [cond_false] at h
          have fin : ∀ (u v : Value) (acc : Option Bool), acc = List.foldr (fun f (acc : Option Bool) =>
              bif f.name == "_" then acc else
              match T.agg f.type with
              | some false => match xs.toList[f.offset]?, ys.toList[f.offset]? with
                | some u, some v => match eqV T S d f.type u v, acc with
                  | some a, some b => some (a && b)
                  | _, _ => none
                | _, _ => none
              | some true => match T.size f.type with
                | some m => match eqV T S d f.type (.agg ((xs.toList.drop f.offset).take m).toArray) (.agg ((ys.toList.drop f.offset).take m).toArray), acc with
                  | some a, some b => some (a && b)
                  | _, _ => none
                | none => none
              | none => none) (some true) l → (match eqV T S d f.type u v, acc with
                  | some a, some b => some (a && b)
                  | _, _ => none) = some r → (part f.type xs f.offset).run P W = .ok u W → (part f.type ys f.offset).run P W = .ok v W →
              (do let a ← part f.type xs f.offset; let b ← part f.type ys f.offset; let r ← Op.equalIn d f.type a b; if (!r) = true then pure false else Op.eqFields d xs ys l : Sem Bool).run P W = .ok r W := by
            intro u v acc hacc hm hpu hpv
            split at hm
            · rename_i a b he
              cases hm
              simp only [Sem.run_bind, hpu, hpv, Result.andThen_ok, run_eqV T hS d f.type u v a he W, Sem.run_ite]
              cases a
              · simp
              · simp only [Bool.not_true, Bool.false_eq_true, if_false, Bool.true_and]
                exact ih b hacc.symm
            · cases hm
          split at h
          · rename_i ha
            split at h
            · rename_i u v hxu hyv
              exact fin u v _ rfl h (run_part1 (T.aggOk ha) hxu) (run_part1 (T.aggOk ha) hyv)
            · cases h
          · rename_i ha
            split at h
            · rename_i m hm
              exact fin _ _ _ rfl h (run_partN (T.aggOk ha) (T.sizeOk hm)) (run_partN (T.aggOk ha) (T.sizeOk hm))
            · cases h
          · cases h
        · have hn' : ¬ f.name ≠ "_" := by simpa using hn
          rw [if_neg hn']
          simp only [cond_true] at h
          exact ih r h
    · cases h
/-- are two structs the same? -/
theorem run_eqlAgg (T : Tab P) (S : List Nat) {t : TypeId} {xs ys : Array Value} {r : Bool} (hS : S.all (fun t => !P.stoodInHeld t && !P.eqGuardType P.depth t) = true) (hin : S.contains t = true) (h : eqV T S 10000 t (.agg xs) (.agg ys) = some r) (x y : Operand) (W : World) :
    (eqGuard .eql t x y (.agg xs) (.agg ys)).run P W = .ok () W ∧ (eqGuard .neq t x y (.agg xs) (.agg ys)).run P W = .ok () W ∧ (binOp .eql t (.agg xs) (.agg ys)).run P W = .ok (.bool r) W ∧ (binOp .neq t (.agg xs) (.agg ys)).run P W = .ok (.bool (!r)) W := by
  have hg : P.eqGuardType P.depth t = false := by
    have := List.all_eq_true.1 hS t (by simpa using hin)
    simp at this; exact this.2
  refine ⟨run_eqGuard_agg W _ t x y xs ys hg, run_eqGuard_agg W _ t x y xs ys hg, ?_, ?_⟩
  · rw [run_eql_struct, run_eqV T hS 10000 t _ _ r h W]; rfl
  · rw [run_neq_struct, run_eqV T hS 10000 t _ _ r h W]; rfl
theorem Ops.eqlAgg {t t' : TypeId} {x y : Operand} {xs ys : List Value} {r : Bool} (T : Tab P) (S : List Nat) (hS : S.all (fun t => !P.stoodInHeld t && !P.eqGuardType P.depth t) = true) (hin : S.contains t = true) (hg : want env ops g = some true) (hd : d < n)
    (hx : opnd env x = some (.agg xs.toArray)) (hy : opnd env y = some (.agg ys.toArray)) (h : eqV T S 10000 t (.agg xs.toArray) (.agg ys.toArray) = some r)
    (next : Ops P n C ops (i + 1) l k ((d, .bool r) :: env) L I) : Ops P n C ops i (⟨some d, .binOp .eql t x y t', ty, ps, af, g⟩ :: l) k env L I :=
  Ops.val hg (dOk hd) (fun a W he hi => by
    obtain ⟨h1, _, h2, _⟩ := run_eqlAgg T S hS hin h x y W
    simp only [execOp, eval_opnd he hx, eval_opnd he hy, Sem.run_bind, h1, h2, Result.andThen_ok]; rfl) next
theorem Ops.neqAgg {t t' : TypeId} {x y : Operand} {xs ys : List Value} {r : Bool} (T : Tab P) (S : List Nat) (hS : S.all (fun t => !P.stoodInHeld t && !P.eqGuardType P.depth t) = true) (hin : S.contains t = true) (hg : want env ops g = some true) (hd : d < n)
    (hx : opnd env x = some (.agg xs.toArray)) (hy : opnd env y = some (.agg ys.toArray)) (h : eqV T S 10000 t (.agg xs.toArray) (.agg ys.toArray) = some r)
    (next : Ops P n C ops (i + 1) l k ((d, .bool (!r)) :: env) L I) : Ops P n C ops i (⟨some d, .binOp .neq t x y t', ty, ps, af, g⟩ :: l) k env L I :=
  Ops.val hg (dOk hd) (fun a W he hi => by
    obtain ⟨_, h1, _, h2⟩ := run_eqlAgg T S hS hin h x y W
    simp only [execOp, eval_opnd he hx, eval_opnd he hy, Sem.run_bind, h1, h2, Result.andThen_ok]; rfl) next
theorem Ops.neqB {t t' : TypeId} {x y : Operand} {p q : Bool} (T : Tab P) (hg : want env ops g = some true) (hd : d < n) (hu : T.und t = some .bool) (hx : opnd env x = some (.bool p)) (hy : opnd env y = some (.bool q))
    (next : Ops P n C ops (i + 1) l k ((d, .bool (!(p == q))) :: env) L I) : Ops P n C ops i (⟨some d, .binOp .neq t x y t', ty, ps, af, g⟩ :: l) k env L I :=
  Ops.val hg (dOk hd) (fun a W he hi => by
    have h1 := run_eqGuard_bool (P := P) .neq t x y p (.bool q) W
    have h2 : (Op.equal t (.bool p) (.bool q)).run P W = .ok (p == q) W := run_equalIn_bool W 9999 t p q (und_of_run (W := W) (T.undOk hu W))
    simp only [execOp, eval_opnd he hx, eval_opnd he hy, Sem.run_bind, h1, binOp, h2, Result.andThen_ok]; rfl) next
theorem run_cellN (T : Tab P) {j b off m : Nat} {vs cs : List Value} {t t' : TypeId} {W : World} (hi : Inv C.w0 C.I0 C.L0 I L W) (hL : L[j]? = some (b, blk cs t')) (ha : T.agg t = some true) (hs : T.size t = some m) (hv : (cs.drop off).take m = vs) (hm : vs.length = m) :
    (loadVar t ⟨b, off, none⟩).run P W = .ok (.agg vs.toArray) W := by
  refine run_loadVarN (T.aggOk ha) (T.sizeOk hs) hm ?_
  intro q v h
  rw [cell_blk (hi.fits.own b _ (List.mem_of_getElem? hL))]
  rw [← hv, List.getElem?_take] at h
  split at h
  · simpa using h
  · cases h
/-- one struct, in variable t -/
theorem Run.retC (T : Tab P) (j : Nat) {fn : Func} {t b m : Nat} {vs cs : List Value} {rt t' : TypeId} {todo : List Item} (hfn : P.funcs[C.f]? = some fn) (hres : fn.results = #[.cell t rt]) (hp : look env t = some (.pointer (some ⟨b, 0, none⟩)))
    (hL : L[j]? = some (b, blk cs t')) (ha : T.agg rt = some true) (hs : T.size rt = some m) (hv : (cs.drop 0).take m = vs) (hm : vs.length = m) (h : C.R (.agg vs.toArray) I []) : Run P n C (.code .ret :: todo) env L I := by
  intro bb a cs' W hb hk he hi
  have hr : (results fn a.tmps).run P W = .ok (.agg vs.toArray) W := by
    have h1 := run_cellN T hi hL ha hs hv hm
    have hp' : a.tmps[t]?.getD undef = .pointer (some ⟨b, 0, none⟩) := by rw [he.at_ _ _ hp]; rfl
    simp [results, hres, hp', asAddr, h1]
  exact ⟨.returned (.agg vs.toArray), W, _, ⟨_, I, [], rfl, h, hi.weakenL (List.nil_sublist _)⟩, Steps.one step_ret, hb, rfl, he.defers, hk, fn, by simpa [Frame.at, hb] using hfn, hr⟩
/-- a struct in variable t, and another result -/
theorem Run.retCT (T : Tab P) (j : Nat) {fn : Func} {t u b m : Nat} {x : Value} {vs cs : List Value} {rt t' : TypeId} {todo : List Item} (hfn : P.funcs[C.f]? = some fn) (hres : fn.results = #[.cell t rt, .tmp u]) (hp : look env t = some (.pointer (some ⟨b, 0, none⟩)))
    (hL : L[j]? = some (b, blk cs t')) (ha : T.agg rt = some true) (hs : T.size rt = some m) (hv : (cs.drop 0).take m = vs) (hm : vs.length = m) (hu : look env u = some x) (h : C.R (.tuple #[.agg vs.toArray, x]) I []) : Run P n C (.code .ret :: todo) env L I := by
  intro bb a cs' W hb hk he hi
  have hr : (results fn a.tmps).run P W = .ok (.tuple #[.agg vs.toArray, x]) W := by
    have h1 := run_cellN T hi hL ha hs hv hm
    have hp' : a.tmps.getD t undef = .pointer (some ⟨b, 0, none⟩) := he.getD hp
    rw [results_cell_tmp hres, hp', he.getD hu]
    simp [asAddr, h1]
  exact ⟨.returned (.tuple #[.agg vs.toArray, x]), W, _, ⟨_, I, [], rfl, h, hi.weakenL (List.nil_sublist _)⟩, Steps.one step_ret, hb, rfl, he.defers, hk, fn, by simpa [Frame.at, hb] using hfn, hr⟩
theorem Val.int {kd : IntKind} {v : Value} {x : Int} (h : Val (.int kd) I v x) : v = .int kd x := by
  have h' : [v] = [.int kd x] := h
  simpa using h'
theorem Val.bool {v : Value} {x : Bool} (h : Val .bool I v x) : v = .bool x := by
  have h' : [v] = [.bool x] := h
  simpa using h'
theorem Val.str {v : Value} {x : List UInt8} (h : Val .str I v x) : v = V.str x := by
  have h' : [v] = [V.str x] := h
  simpa using h'
theorem Val.sl {e : Cd} {v : Value} {x : List e.ty} (h : Val (.sl e) I v x) : Sl e.T I v x := by
  obtain ⟨u, h1, h2⟩ : ∃ u, [v] = [u] ∧ Sl e.T I u x := h
  obtain rfl : v = u := by simpa using h1
  exact h2
def fillL (pl : List (Nat × Nat)) : List Value → List (Nat × Value) → Option (List Value)
  | cs, [] => some cs
  | cs, (i, v) :: r => match pl[i]? with
    | some (off, size) => bif Nat.beq v.cells.toList.length size && Nat.ble (off + size) cs.length then fillL pl (setAt cs off v.cells.toList) r else none
    | none => none
theorem foldl_setAt (off : Nat) : ∀ (l : List Value) (s : Nat) (cs : List Value), off + s + l.length ≤ cs.length →
    (l.zipIdx s).foldl (fun (cs : Array Value) (x : Value × Nat) => cs.setIfInBounds (off + x.2) x.1) cs.toArray = (cs.take (off + s) ++ l ++ cs.drop (off + s + l.length)).toArray := by
  intro l s cs h
  have h1 := Great.foldl_set off l s cs.toArray
  apply Array.ext_getElem?
  intro k
  rw [h1.2 k]
  simp only [List.size_toArray, List.getElem?_toArray, List.append_assoc]
  by_cases hk : off + s ≤ k ∧ k < off + s + l.length ∧ k < cs.length
  · rw [if_pos hk, List.getElem?_append_right (by simp; omega), List.getElem?_append_left (by simp; omega)]
    congr 1; simp; omega
  · rw [if_neg hk]
    by_cases h2 : k < off + s
    · rw [List.getElem?_append_left (by simp; omega), List.getElem?_take_of_lt h2]
    · rw [List.getElem?_append_right (by simp; omega)]
      have hmin : min (off + s) cs.length = off + s := by omega
      by_cases h3 : k < off + s + l.length
      · omega
      · rw [List.getElem?_append_right (by simp; omega), List.getElem?_drop]
        congr 1; simp; omega
theorem fillL_ok (pl : List (Nat × Nat)) : ∀ (vs : List (Nat × Value)) (cs r : List Value), fillL pl cs vs = some r → Instr.fill (fun i => pl[i]?) cs.toArray vs = some r.toArray
  | [], cs, r, h => by simp [fillL] at h; subst h; rfl
  | (i, v) :: vs, cs, r, h => by
    simp only [fillL] at h
    split at h
    · rename_i off size hp
      cases hc : (Nat.beq v.cells.toList.length size && Nat.ble (off + size) cs.length) <;> rw [hc] at h
      · cases h
      · simp only [cond_true] at h
        simp only [Bool.and_eq_true, Nat.beq_eq_true_eq, Nat.ble_eq, Array.length_toList] at hc
        obtain ⟨h1, h2⟩ := hc
        have h1' : v.cells.size = size := by first | exact h1 | exact Nat.eq_of_beq_eq_true h1
        simp only [Instr.fill, hp]
        rw [if_neg (by simp; omega)]
        have h3 := foldl_setAt off v.cells.toList 0 cs (by simp; omega)
        simp only [Nat.add_zero] at h3
        rw [← Array.foldl_toList, Array.toList_zipIdx, h3]
        exact fillL_ok pl vs _ r h
    · cases h
theorem Ops.buildL {t : TypeId} {xs : List (Nat × Operand)} {vs : List (Nat × Value)} {pl : List (Nat × Nat)} {z : Array Value} {cs : List Value}
    (hb : ∀ w ps cells, Instr.fill (pl[·]?) z ps = some cells → (Instr.build t ps.toArray).run P w = .ok (.agg cells) w) (hg : want env ops g = some true) (hd : d < n)
    (hx : parts env xs = some vs) (hf : fillL pl z.toList vs = some cs)
    (next : Ops P n C ops (i + 1) l k ((d, .agg cs.toArray) :: env) L I) : Ops P n C ops i (⟨some d, .build t xs.toArray, ty, ps, af, g⟩ :: l) k env L I :=
  Ops.build hb hg hd hx (by simpa using fillL_ok pl vs z.toList cs hf) next
theorem zip_enum : ∀ (ps : List (Nat × Value)) (i : Nat), ps.map Prod.fst = List.range' i ps.length → ((ps.map Prod.snd).zipIdx i).map (fun x => (x.2, x.1)) = ps
  | [], _, _ => rfl
  | (j, v) :: r, i, h => by
    simp only [List.map_cons, List.length_cons, List.range'_succ, List.cons.injEq] at h
    obtain ⟨rfl, h⟩ := h
    simp only [List.map_cons, List.zipIdx_cons]
    rw [zip_enum r _ h]
/-- a literal that gives every element -/
theorem Ops.lit {t e : TypeId} {len size : Nat} {xs : List (Nat × Operand)} {ps' : List (Nat × Value)} {z : Value} {cs : List Value} (T : Tab P)
    (hu : T.und t = some (.slice e)) (hz : T.zero e = some z) (hs : T.size e = some size) (hpos : 0 < size) (hg : want env ops g = some true) (hd : d < n)
    (hlen : len * size ≤ 16777216) (hx : parts env xs = some ps') (hn : ps'.length = len) (hi : ps'.map Prod.fst = List.range' 0 len) (hsz : ps'.all (fun p => p.2.cells.size == size) = true) (hcs : (ps'.map Prod.snd).flatMap (fun v => v.cells.toList) = cs)
    (next : ∀ b, Ops P n C ops (i + 1) l k ((d, .slice (some ⟨b, 0, none⟩) len len) :: env) ((b, blk cs e) :: L) I) : Ops P n C ops i (⟨some d, .buildSlice t len xs.toArray, ty, ps, af, g⟩ :: l) k env L I := by
  subst hn
  refine Ops.buildSlice (T.undOk hu) (T.zeroOk hz) (T.sizeOk hs) hg hd hlen hx ?_ next
  have h := Great.fill_whole hpos (ps'.map Prod.snd) ((Array.range (ps'.length * size)).map (z.cells[· % z.cells.size]!)) ?_ ?_
  · rw [zip_enum ps' 0 (by simpa using hi), hcs] at h; exact h
  · intro v hv
    obtain ⟨p, hp, rfl⟩ := List.mem_map.1 hv
    simpa using List.all_eq_true.1 hsz p hp
  · simp
theorem Cells.one1 {α : Type} {t : Ty α} (f : α → Value) (h : ∀ x, t.rel I [f x] x) : ∀ xs : List α, Cells t I (xs.map f) xs
  | [] => Cells.nil t I
  | x :: r => by
    have := (Cells.one (t := t) (I := I) (h x)).append (Cells.one1 f h r)
    simpa using this
theorem Cells.cons {α : Type} {t : Ty α} {c cs : List Value} {x : α} {xs : List α} (h : t.rel I c x) (k : Cells t I cs xs) : Cells t I (c ++ cs) (x :: xs) := (Cells.one h).append k
end
end Go.V
/-
  Blocks made immutable in the midst of a statement; facts about lists of owned blocks.
-/
namespace Go.V
open Go.RowKit
set_option linter.unusedVariables false
set_option linter.unusedSimpArgs false
section
variable {P : Program} {n : Nat} {C : Cx} {k : List Item} {env : Env} {L : Own} {I : Imm} {ops : Array Oper} {i : Nat} {l : List Oper}
variable {ty : TypeId} {ps : String} {af : Array Edge} {g : Option (Nat × Bool)} {d : Nat}
theorem Ops.perm {L' : Own} (hp : L.Perm L') (h : Ops P n C ops i l k env L' I) : Ops P n C ops i l k env L I := fun hl => Run.perm hp (h hl)
theorem Ops.dropL {L' : Own} (hs : L'.Sublist L) (h : Ops P n C ops i l k env L' I) : Ops P n C ops i l k env L I := fun hl => Run.dropL hs (h hl)
theorem At.block {b : Nat} {cs : List Value} {t : TypeId} (h : I b = some (blk cs t)) : At I b 0 cs := ⟨cs.toArray, t, (0, 0), h, fun j v hv => by simpa using hv⟩
theorem At.part {b off : Nat} {vs ws : List Value} {q : Nat} (h : At I b off vs) (hw : (vs.drop q).take ws.length = ws) : At I b (off + q) ws := by
  obtain ⟨cs, t, fr, h1, h2⟩ := h
  refine ⟨cs, t, fr, h1, fun j v hv => ?_⟩
  rw [← hw, List.getElem?_take] at hv
  split at hv
  · rw [List.getElem?_drop] at hv
    rw [Nat.add_assoc]; exact h2 _ _ hv
  · cases hv
/-! statements whose order is drawn -/
variable {o : Oper}
theorem RAny.takeD {S : World → Prop} {listed : List Bool} {fuel : Nat} (j : Nat) {d : Nat} {op : Op} {v : Value} (listed' : List Bool) (hi : ops[j]? = some ⟨some d, op, ty, ps, af, g⟩) (hs : Region.noSelect ops = true) (hf : Region.free .any ops listed.toArray j = true)
    (hr : (Region.ready .any ops listed.toArray).contains j = true) (hl : listed.toArray.setIfInBounds j true = listed'.toArray) (hd : d < n) (hS : ∀ W, Inv C.w0 C.I0 C.L0 I L W → S W) (hy : Yld P n env ops S ⟨some d, op, ty, ps, af, g⟩ v)
    (h : RAny P n C ops S k fuel listed' ((d, v) :: env) L I) : RAny P n C ops S k (fuel + 1) listed env L I :=
  RAny.take j listed' hi hs hf hr hl (dOk hd) hS hy h
theorem RAny.oneD {S : World → Prop} {listed : List Bool} {fuel : Nat} (j : Nat) {d : Nat} {op : Op} (listed' : List Bool) (hi : ops[j]? = some ⟨some d, op, ty, ps, af, g⟩) (hr : Region.ready .any ops listed.toArray = [j]) (hl : listed.toArray.setIfInBounds j true = listed'.toArray) (hw : want env ops g = some true) (hd : d < n)
    (h : Eff P n C env L I ⟨some d, op, ty, ps, af, g⟩ fun v L1 I1 => (∀ W, Inv C.w0 C.I0 C.L0 I1 L1 W → S W) ∧ RAny P n C ops S k fuel listed' ((d, v) :: env) L1 I1) : RAny P n C ops S k (fuel + 1) listed env L I := by
  refine RAny.all [j] hr (by simp) fun j' hj => ?_
  obtain rfl : j' = j := by simpa using hj
  refine ⟨_, hi, hw, dOk hd, fun a W he hin => ?_⟩
  rcases h a W he hin with ⟨v, W1, L1, I1, h1, h2, h3, h4⟩ | ⟨f, args, h1, h2⟩
  · exact .inl ⟨v, W1, L1, I1, h1, h2, h3, listed', hl, h4⟩
  · exact .inr ⟨f, args, h1, h2.mono fun e W' ⟨v, L1, I1, q1, q2, q3, q4⟩ => ⟨v, L1, I1, q1, q2, q3, listed', hl, q4⟩⟩
theorem Yld.buildL {S : World → Prop} {t : TypeId} {xs : List (Nat × Operand)} {vs : List (Nat × Value)} {pl : List (Nat × Nat)} {z : Array Value} {cs : List Value}
    (hb : ∀ w ps cells, Instr.fill (pl[·]?) z ps = some cells → (Instr.build t ps.toArray).run P w = .ok (.agg cells) w) (hg : want env ops g = some true)
    (hx : parts env xs = some vs) (hf : fillL pl z.toList vs = some cs) : Yld P n env ops S ⟨some d, .build t xs.toArray, ty, ps, af, g⟩ (.agg cs.toArray) :=
  Yld.val hg (fun a W he _ => by
    have h := hb W vs cs.toArray (by simpa using fillL_ok pl vs z.toList cs hf)
    rw [← parts_spec he hx] at h
    simp only [execOp, List.map_toArray, Sem.run_bind]
    have hm : (List.map (fun (x : Nat × Operand) => match x with | (i, x) => (i, a.eval x)) xs) = xs.map (fun (p : Nat × Operand) => (p.1, a.eval p.2)) := rfl
    rw [hm, h]; rfl)
theorem RAny.oneS {S : World → Prop} {listed : List Bool} {fuel : Nat} (j : Nat) {op : Op} (listed' : List Bool) (hi : ops[j]? = some ⟨none, op, ty, ps, af, g⟩) (hr : Region.ready .any ops listed.toArray = [j]) (hl : listed.toArray.setIfInBounds j true = listed'.toArray) (hw : want env ops g = some true)
    (h : Eff P n C env L I ⟨none, op, ty, ps, af, g⟩ fun v L1 I1 => (∀ W, Inv C.w0 C.I0 C.L0 I1 L1 W → S W) ∧ RAny P n C ops S k fuel listed' env L1 I1) : RAny P n C ops S k (fuel + 1) listed env L I := by
  refine RAny.all [j] hr (by simp) fun j' hj => ?_
  obtain rfl : j' = j := by simpa using hj
  refine ⟨_, hi, hw, dNo, fun a W he hin => ?_⟩
  rcases h a W he hin with ⟨v, W1, L1, I1, h1, h2, h3, h4⟩ | ⟨f, args, h1, h2⟩
  · exact .inl ⟨v, W1, L1, I1, h1, h2, h3, listed', hl, h4⟩
  · exact .inr ⟨f, args, h1, h2.mono fun e W' ⟨v, L1, I1, q1, q2, q3, q4⟩ => ⟨v, L1, I1, q1, q2, q3, listed', hl, q4⟩⟩
/-- an operation whose rule is taken as it stands -/
theorem Pure.of {f : FuncId} {args : List Value} {R : Value → Imm → Prop} (h : Spec P f args I [] fun v J M => M = [] ∧ R v J) : Pure P f args I R := h
end
end Go.V
/-
  Bytes that grow; what is appended whole; pointers turned about; bytes read as a text.
-/
namespace Go.V
open Go.RowKit
set_option linter.unusedVariables false
set_option linter.unusedSimpArgs false
def tU8 : Ty UInt8 := ⟨1, fun _ cs x => cs = [.int .u8 (x.toNat : Int)], fun h => by subst h; rfl, fun h _ => h⟩
section
variable {P : Program} {n : Nat} {C : Cx} {k : List Item} {env : Env} {L : Own} {I : Imm} {ops : Array Oper} {i : Nat} {l : List Oper}
variable {ty : TypeId} {ps : String} {af : Array Edge} {g : Option (Nat × Bool)} {d : Nat}
theorem Cells.bytes (xs : List UInt8) : Cells tU8 I (xs.map fun b => Value.int .u8 (b.toNat : Int)) xs := Cells.one1 (fun b : UInt8 => Value.int .u8 (b.toNat : Int)) (fun _ => rfl) xs
/-- the cells behind a slice's elements -/
theorem RowAt.cells {α : Type} {t : Ty α} {b : Nat} : ∀ {ys : List α} {off : Nat}, RowAt t I b off ys → ∃ cs, Cells t I cs ys ∧ (ys = [] ∨ At I b off cs)
  | [], off, _ => ⟨[], Cells.nil t I, .inl rfl⟩
  | y :: r, off, h => by
    obtain ⟨c0, hr0, hA0⟩ := h 0 y rfl
    have hrest : RowAt t I b (off + t.size) r := by
      intro i x hx
      obtain ⟨cs, h1, h2⟩ := h (i + 1) x (by simpa using hx)
      exact ⟨cs, h1, by rw [Nat.add_mul, Nat.one_mul] at h2; rw [Nat.add_assoc, Nat.add_comm t.size]; exact h2⟩
    obtain ⟨cs, hC, hA⟩ := RowAt.cells hrest
    refine ⟨c0 ++ cs, Cells.cons hr0 hC, .inr ?_⟩
    have hl0 := t.len hr0
    obtain ⟨cc, tt, fr, hb, hv⟩ := hA0
    refine ⟨cc, tt, fr, hb, fun j v hj => ?_⟩
    by_cases hlt : j < c0.length
    · rw [List.getElem?_append_left hlt] at hj
      simpa using hv j v hj
    · rw [List.getElem?_append_right (by omega)] at hj
      rcases hA with rfl | ⟨cc', tt', fr', hb', hv'⟩
      · obtain ⟨css, rfl, h2, _⟩ := hC
        have : css = [] := List.eq_nil_of_length_eq_zero (by simpa using h2)
        subst this
        simp at hj
      · rw [hb] at hb'; cases hb'
        have := hv' _ v hj
        rw [show off + t.size + (j - c0.length) = off + j by omega] at this
        exact this
variable {K : Value → Own → Imm → Prop}
end
end Go.V
/-
  Branches that meet again; calls that are handed blocks, which stand last.
-/
namespace Go.V
open Go.RowKit
set_option linter.unusedVariables false
set_option linter.unusedSimpArgs false
section
variable {P : Program} {n : Nat} {C : Cx} {k : List Item} {env : Env} {L : Own} {I : Imm} {ops : Array Oper} {i : Nat} {l : List Oper}
variable {ty : TypeId} {ps : String} {af : Array Edge} {g : Option (Nat × Bool)} {d : Nat}
theorem Ops.callP {f : FuncId} {xs : List Operand} {ats : Array TypeId} {vs : List Value} {M N : Own} {R : Value → Imm → Own → Prop} (hs : Spec P f vs I M R) (hL : L.Perm (N ++ M)) (hg : want env ops g = some true) (hd : d < n) (hc : ∀ args w, (callFunc f args).run P w = .ok (.enter f args) w)
    (hx : opnds env xs = some vs) (next : ∀ v J M', Le I J → R v J M' → Ops P n C ops (i + 1) l k ((d, v) :: env) (N ++ M') J) :
    Ops P n C ops i (⟨some d, .call ⟨.value (.func f), xs.toArray, ats⟩, ty, ps, af, g⟩ :: l) k env L I :=
  Ops.callM (N := N) hs (hL.trans List.perm_append_comm) hg hd hc hx fun v J M hle hR => Ops.perm List.perm_append_comm (next v J M hle hR)
/-- a guard that speaks of an operation which was itself left out -/
def wantU (env : Env) (ops : Array Oper) : Option (Nat × Bool) → Bool
  | some (j, _) => match (ops[j]?).bind (·.dst) with
    | some d => match look env d with
      | some (.tuple vs) => vs.toList.isEmpty
      | _ => false
    | none => false
  | none => false
theorem wantU_spec {o : Oper} {a : Act} (he : EnvOk n env a) (h : wantU env ops o.guard = true) : Region.wanted o (yielded ops a.tmps) = false := by
  unfold wantU at h
  split at h
  · rename_i j b hg
    split at h
    · rename_i d hd
      split at h
      · rename_i vs hv
        simp only [Region.wanted, hg, yielded, hd, Option.bind_some, he.at_ _ _ hv]
        rfl
      · cases h
    · cases h
  · cases h
theorem Sl.isSl {α : Type} {t : Ty α} {v : Value} {xs : List α} (h : Sl t I v xs) : ∃ A c, v = .slice A xs.length c := let ⟨A, c, h, _⟩ := h; ⟨A, c, h⟩
theorem Gr.isSl {α : Type} {t : Ty α} {e : TypeId} {v : Value} {xs : List α} {M : Own} (h : Gr t I e v xs M) : ∃ A c, v = .slice A xs.length c := by
  rcases h.sl with ⟨h1, h2⟩ | ⟨b, c, h⟩
  · exact ⟨none, 0, by rw [h1, h2]; rfl⟩
  · exact ⟨_, _, h⟩
end
end Go.V
/-
  Maps by texts: made, set, asked.
-/
namespace Go.V
open Go.RowKit Go.MapKept
set_option linter.unusedVariables false
set_option linter.unusedSimpArgs false
abbrev KV := List (List UInt8 × Value)
/-- a map's object stands for its entries, in the order in which they came -/
def Mp (o : Obj) (l : KV) : Prop := ∃ es clock, o = .map es clock ∧ es.toList.map (fun e => (e.key, e.val)) = l.map (fun p => (str p.1, p.2))
section
variable {P : Program} {n : Nat} {C : Cx} {k : List Item} {env : Env} {L : Own} {I : Imm} {ops : Array Oper} {i : Nat} {l : List Oper}
variable {ty : TypeId} {ps : String} {af : Array Edge} {g : Option (Nat × Bool)} {d : Nat}
theorem Mp.new : Mp (.map #[] 0) [] := ⟨#[], 0, rfl, rfl⟩
end
end Go.V
/-
  Owned blocks in another order; calls that make blocks, in statements whose order is drawn.
-/
namespace Go.V
open Go.RowKit
set_option linter.unusedVariables false
set_option linter.unusedSimpArgs false
section
variable {P : Program} {n : Nat} {C : Cx} {k : List Item} {env : Env} {L : Own} {I : Imm} {ops : Array Oper} {i : Nat} {l : List Oper}
variable {ty : TypeId} {ps : String} {af : Array Edge} {g : Option (Nat × Bool)} {d : Nat}
theorem RAny.perm {S : World → Prop} {listed : List Bool} {fuel : Nat} {L' : Own} (hp : L.Perm L') (h : RAny P n C ops S k fuel listed env L' I) : RAny P n C ops S k fuel listed env L I :=
  fun a W he hi => h a W he (hi.perm hp)
theorem RAny.dropL {S : World → Prop} {listed : List Bool} {fuel : Nat} {L' : Own} (hs : L'.Sublist L) (h : RAny P n C ops S k fuel listed env L' I) : RAny P n C ops S k fuel listed env L I :=
  fun a W he hi => h a W he (hi.weakenL hs)
theorem RAny.freeze {S : World → Prop} {listed : List Bool} {fuel : Nat} {b : Nat} {o : Obj} (h : ∀ J, Le I J → J b = some o → RAny P n C ops S k fuel listed env L J) : RAny P n C ops S k fuel listed env ((b, o) :: L) I :=
  fun a W he hi => h _ hi.le_iset (by simp [iset]) a W he hi.freeze
variable {K : Value → Own → Imm → Prop}
theorem Eff.callM {f : FuncId} {xs : List Operand} {ats : Array TypeId} {vs : List Value} {M N : Own} {R : Value → Imm → Own → Prop} (hs : Spec P f vs I M R) (hL : L.Perm (M ++ N)) (hc : ∀ args w, (callFunc f args).run P w = .ok (.enter f args) w)
    (hx : opnds env xs = some vs) (next : ∀ v J M', Le I J → R v J M' → K v (M' ++ N) J) : Eff P n C env L I ⟨some d, .call ⟨.value (.func f), xs.toArray, ats⟩, ty, ps, af, g⟩ K :=
  Eff.callW (fun a W he => run_callF hc he hx) hL hs next
theorem RAny.takeU {S : World → Prop} {listed : List Bool} {fuel : Nat} (j : Nat) {d : Nat} {op : Op} (listed' : List Bool) (hi : ops[j]? = some ⟨some d, op, ty, ps, af, g⟩) (hs : Region.noSelect ops = true) (hf : Region.free .any ops listed.toArray j = true)
    (hr : (Region.ready .any ops listed.toArray).contains j = true) (hl : listed.toArray.setIfInBounds j true = listed'.toArray) (hd : d < n) (hS : ∀ W, Inv C.w0 C.I0 C.L0 I L W → S W) (hy : wantU env ops g = true)
    (h : RAny P n C ops S k fuel listed' ((d, undef) :: env) L I) : RAny P n C ops S k (fuel + 1) listed env L I := by
  intro a W he hinv
  exact wpAnyH_take hi hs hf hr (fun c a w h => h.elim) (.inr ⟨wantU_spec he hy, rfl⟩) (hS W hinv) (by rw [hl]; exact h _ W (he.put (dOk hd)) hinv)
theorem Yld.neqB {S : World → Prop} {t t' : TypeId} {x y : Operand} {p q : Bool} (T : Tab P) (hg : want env ops g = some true) (hu : T.und t = some .bool) (hx : opnd env x = some (.bool p)) (hy : opnd env y = some (.bool q)) : Yld P n env ops S ⟨some d, .binOp .neq t x y t', ty, ps, af, g⟩ (.bool (!(p == q))) :=
  Yld.val hg (fun a W he hi => by
    have h1 := run_eqGuard_bool (P := P) .neq t x y p (.bool q) W
    have h2 : (Op.equal t (.bool p) (.bool q)).run P W = .ok (p == q) W := run_equalIn_bool W 9999 t p q (und_of_run (W := W) (T.undOk hu W))
    simp only [execOp, eval_opnd he hx, eval_opnd he hy, Sem.run_bind, h1, binOp, h2, Result.andThen_ok]; rfl)
def bl (n x : Nat) : List Bool := (List.range n).map fun i => x.testBit i
def tkOk (ops : Array Oper) (listed : List Bool) (j : Nat) (listed' : List Bool) : Bool :=
  Region.noSelect ops && Region.free .any ops listed.toArray j && (Region.ready .any ops listed.toArray).contains j && (listed.set j true == listed')
def oneOk (ops : Array Oper) (listed : List Bool) (j : Nat) (listed' : List Bool) : Bool :=
  (Region.ready .any ops listed.toArray == [j]) && (listed.set j true == listed')
theorem tk_spec {listed listed' : List Bool} {j : Nat} (h : tkOk ops listed j listed' = true) : Region.noSelect ops = true ∧ Region.free .any ops listed.toArray j = true ∧ (Region.ready .any ops listed.toArray).contains j = true ∧ listed.toArray.setIfInBounds j true = listed'.toArray := by
  simp only [tkOk, Bool.and_eq_true, beq_iff_eq] at h
  exact ⟨h.1.1.1, h.1.1.2, h.1.2, by rw [← h.2]; simp⟩
theorem one_spec' {listed listed' : List Bool} {j : Nat} (h : oneOk ops listed j listed' = true) : Region.ready .any ops listed.toArray = [j] ∧ listed.toArray.setIfInBounds j true = listed'.toArray := by
  simp only [oneOk, Bool.and_eq_true, beq_iff_eq] at h
  exact ⟨h.1, by rw [← h.2]; simp⟩
theorem RAny.tk {S : World → Prop} {listed : List Bool} {fuel : Nat} (j : Nat) {d : Nat} {op : Op} {v : Value} (listed' : List Bool) (hi : ops[j]? = some ⟨some d, op, ty, ps, af, g⟩) (ok : tkOk ops listed j listed' = true) (hd : d < n) (hS : ∀ W, Inv C.w0 C.I0 C.L0 I L W → S W) (hy : Yld P n env ops S ⟨some d, op, ty, ps, af, g⟩ v)
    (h : RAny P n C ops S k fuel listed' ((d, v) :: env) L I) : RAny P n C ops S k (fuel + 1) listed env L I :=
  RAny.takeD j listed' hi (tk_spec ok).1 (tk_spec ok).2.1 (tk_spec ok).2.2.1 (tk_spec ok).2.2.2 hd hS hy h
theorem RAny.tu {S : World → Prop} {listed : List Bool} {fuel : Nat} (j : Nat) {d : Nat} {op : Op} (listed' : List Bool) (hi : ops[j]? = some ⟨some d, op, ty, ps, af, g⟩) (ok : tkOk ops listed j listed' = true) (hd : d < n) (hS : ∀ W, Inv C.w0 C.I0 C.L0 I L W → S W) (hy : wantU env ops g = true)
    (h : RAny P n C ops S k fuel listed' ((d, undef) :: env) L I) : RAny P n C ops S k (fuel + 1) listed env L I :=
  RAny.takeU j listed' hi (tk_spec ok).1 (tk_spec ok).2.1 (tk_spec ok).2.2.1 (tk_spec ok).2.2.2 hd hS hy h
theorem RAny.on {S : World → Prop} {listed : List Bool} {fuel : Nat} (j : Nat) {d : Nat} {op : Op} (listed' : List Bool) (hi : ops[j]? = some ⟨some d, op, ty, ps, af, g⟩) (ok : oneOk ops listed j listed' = true) (hw : want env ops g = some true) (hd : d < n)
    (h : Eff P n C env L I ⟨some d, op, ty, ps, af, g⟩ fun v L1 I1 => (∀ W, Inv C.w0 C.I0 C.L0 I1 L1 W → S W) ∧ RAny P n C ops S k fuel listed' ((d, v) :: env) L1 I1) : RAny P n C ops S k (fuel + 1) listed env L I :=
  RAny.oneD j listed' hi (one_spec' ok).1 (one_spec' ok).2 hw hd h
theorem RAny.os {S : World → Prop} {listed : List Bool} {fuel : Nat} (j : Nat) {op : Op} (listed' : List Bool) (hi : ops[j]? = some ⟨none, op, ty, ps, af, g⟩) (ok : oneOk ops listed j listed' = true) (hw : want env ops g = some true)
    (h : Eff P n C env L I ⟨none, op, ty, ps, af, g⟩ fun v L1 I1 => (∀ W, Inv C.w0 C.I0 C.L0 I1 L1 W → S W) ∧ RAny P n C ops S k fuel listed' env L1 I1) : RAny P n C ops S k (fuel + 1) listed env L I :=
  RAny.oneS j listed' hi (one_spec' ok).1 (one_spec' ok).2 hw h
open Classical in
theorem perm_of_count {α : Type} {A B : List α} (h : ∀ x, A.count x = B.count x) : A.Perm B := List.perm_iff_count.2 h
end
end Go.V
/-
  Maps by keys of any plain kind: made, set, asked.
-/
namespace Go.V
open Go.RowKit Go.MapKept
set_option linter.unusedVariables false
set_option linter.unusedSimpArgs false
section
variable {κ : Type} [DecidableEq κ]
variable (enc : κ → Value)
def Mg (o : Obj) (l : List (κ × Value)) : Prop := ∃ es clock, o = .map es clock ∧ es.toList.map (fun e => (e.key, e.val)) = l.map (fun p => (enc p.1, p.2))
end
section
variable {P : Program} {n : Nat} {C : Cx} {k : List Item} {env : Env} {L : Own} {I : Imm} {ops : Array Oper} {i : Nat} {l : List Oper}
variable {ty : TypeId} {ps : String} {af : Array Edge} {g : Option (Nat × Bool)} {d : Nat}
theorem Mg.new {κ : Type} {enc : κ → Value} : Mg enc (.map #[] 0) [] := ⟨#[], 0, rfl, rfl⟩
variable {κ : Type} [DecidableEq κ] {enc : κ → Value}
end
end Go.V
/-
  Two operations, either of which may come up next.
-/
namespace Go.V
open Go.RowKit
set_option linter.unusedVariables false
set_option linter.unusedSimpArgs false
section
variable {P : Program} {n : Nat} {C : Cx} {k : List Item} {env : Env} {L : Own} {I : Imm} {ops : Array Oper}
def twoOk (ops : Array Oper) (listed : List Bool) (i j : Nat) (l1 l2 : List Bool) : Bool :=
  (Region.ready .any ops listed.toArray == [i, j]) && (listed.set i true == l1) && (listed.set j true == l2)
theorem RAny.two {S : World → Prop} {listed : List Bool} {fuel : Nat} (i j : Nat) {d1 d2 : Nat} {op1 op2 : Op} {ty1 ty2 : TypeId} {ps1 ps2 : String} {af1 af2 : Array Edge} {g1 g2 : Option (Nat × Bool)} (l1 l2 : List Bool)
    (h1 : ops[i]? = some ⟨some d1, op1, ty1, ps1, af1, g1⟩) (h2 : ops[j]? = some ⟨some d2, op2, ty2, ps2, af2, g2⟩) (ok : twoOk ops listed i j l1 l2 = true) (w1 : want env ops g1 = some true) (w2 : want env ops g2 = some true) (hd1 : d1 < n) (hd2 : d2 < n)
    (e1 : Eff P n C env L I ⟨some d1, op1, ty1, ps1, af1, g1⟩ fun v L1 I1 => (∀ W, Inv C.w0 C.I0 C.L0 I1 L1 W → S W) ∧ RAny P n C ops S k fuel l1 ((d1, v) :: env) L1 I1)
    (e2 : Eff P n C env L I ⟨some d2, op2, ty2, ps2, af2, g2⟩ fun v L1 I1 => (∀ W, Inv C.w0 C.I0 C.L0 I1 L1 W → S W) ∧ RAny P n C ops S k fuel l2 ((d2, v) :: env) L1 I1) : RAny P n C ops S k (fuel + 1) listed env L I := by
  simp only [twoOk, Bool.and_eq_true, beq_iff_eq] at ok
  obtain ⟨⟨hr, hs1⟩, hs2⟩ := ok
  refine RAny.all [i, j] hr (by simp) fun q hq => ?_
  have hq' : q = i ∨ q = j := by simpa using hq
  rcases hq' with rfl | rfl
  · refine ⟨_, h1, w1, dOk hd1, fun a W he hin => ?_⟩
    rcases e1 a W he hin with ⟨v, W1, L1, I1, q1, q2, q3, q4⟩ | ⟨f, args, q1, q2⟩
    · exact .inl ⟨v, W1, L1, I1, q1, q2, q3, l1, by rw [← hs1]; simp, q4⟩
    · exact .inr ⟨f, args, q1, q2.mono fun e W' ⟨v, L1, I1, p1, p2, p3, p4⟩ => ⟨v, L1, I1, p1, p2, p3, l1, by rw [← hs1]; simp, p4⟩⟩
  · refine ⟨_, h2, w2, dOk hd2, fun a W he hin => ?_⟩
    rcases e2 a W he hin with ⟨v, W1, L1, I1, q1, q2, q3, q4⟩ | ⟨f, args, q1, q2⟩
    · exact .inl ⟨v, W1, L1, I1, q1, q2, q3, l2, by rw [← hs2]; simp, q4⟩
    · exact .inr ⟨f, args, q1, q2.mono fun e W' ⟨v, L1, I1, p1, p2, p3, p4⟩ => ⟨v, L1, I1, p1, p2, p3, l2, by rw [← hs2]; simp, p4⟩⟩
end
end Go.V
/-
  A text turned to bytes.
-/
namespace Go.V
open Go.RowKit
set_option linter.unusedVariables false
set_option linter.unusedSimpArgs false
theorem size_bytes (s : List UInt8) : (⟨s.toArray⟩ : ByteArray).size = s.length := str_size s
theorem run_stringToBytes {P : Program} {e : TypeId} {s : List UInt8} (W : World) : ∃ cap cs, s.length ≤ cap ∧ cs.toList.take s.length = s.map (fun b => Value.int .u8 (b.toNat : Int)) ∧
    (Conv.stringToBytes e ⟨s.toArray⟩).run P W = .ok (.slice (some ⟨W.heap.size, 0, none⟩) s.length cap) ((W.drew.alloc (.cells cs e (0, 0))).freeze ⟨W.heap.size, cs.size, none⟩ 1) := by
  refine ⟨grownCap W s.length 0 e, (s.map fun b => Value.int .u8 (b.toNat : Int)).toArray ++ Array.replicate (grownCap W s.length 0 e - s.length) (.int .u8 0), grownCap_ge _ _ _ _, ?_, ?_⟩
  · simp
  · have hsh : ∀ cs : Array Value, (W.drew.alloc (.cells cs e (0, 0))).shape? W.heap.size = some (e, cs.size) := fun cs => by
      show (W.drew.alloc _).shape? W.drew.heap.size = _
      simp only [World.shape?, heap_alloc_new]
    simp [Conv.stringToBytes, markStringish, newRow, grownCap, size_bytes, Question.forced, hsh]
section
variable {P : Program} {n : Nat} {C : Cx} {k : List Item} {env : Env} {L : Own} {I : Imm} {ops : Array Oper} {i : Nat} {l : List Oper}
variable {ty : TypeId} {ps : String} {af : Array Edge} {g : Option (Nat × Bool)} {d : Nat}
theorem Inv.bytes {w0 : World} {I0 : Imm} {L0 : List Nat} {W : World} {e : TypeId} {cs : Array Value} (hi : Inv w0 I0 L0 I L W) :
    Inv w0 I0 L0 I ((W.heap.size, .cells cs e (cs.size, cs.size + 1)) :: L) ((W.drew.alloc (.cells cs e (0, 0))).freeze ⟨W.heap.size, cs.size, none⟩ 1) := by
  have h1 := hi.drew.alloc (.cells cs e (0, 0))
  refine h1.upd ?_ ?_ ?_ ?_ ?_ ?_
  · simp [World.freeze]
  · simp [World.freeze]
  · simp [World.freeze]
  · simp [World.freeze]
  · intro c _ hcb
    have : W.heap.size ≠ c := fun e => hcb e.symm
    simp [World.freeze, Array.getElem?_modify, this]
  · have h2 : (W.drew.alloc (.cells cs e (0, 0))).heap[W.heap.size]? = some (.cells cs e (0, 0)) := heap_alloc_new W.drew _
    unfold World.freeze
    rw [if_neg (by decide)]
    show (Array.modify _ W.heap.size _)[W.heap.size]? = _
    rw [Array.getElem?_modify, if_pos rfl, h2]
    simp
/-- []byte(s) -/
theorem Ops.convBytes {x : Operand} {src dst e : TypeId} {s : List UInt8} (T : Tab P) (hg : want env ops g = some true) (hd : d < n) (hs : T.und src = some .string) (ht : T.und dst = some (.slice e)) (he8 : T.und e = some (.int .u8)) (hx : opnd env x = some (str s))
    (next : ∀ v J, Le I J → Sl tU8 J v s → Ops P n C ops (i + 1) l k ((d, v) :: env) L J) : Ops P n C ops i (⟨some d, .convert src dst x, ty, ps, af, g⟩ :: l) k env L I :=
  Ops.valW hg (dOk hd) fun a W he hi => by
    obtain ⟨cap, cs, h1, h2, hr⟩ := run_stringToBytes (P := P) (e := e) (s := s) W
    have hi2 := hi.bytes (e := e) (cs := cs)
    have hle := hi2.le_iset
    refine ⟨.slice (some ⟨W.heap.size, 0, none⟩) s.length cap, _, L, _, .inl ?_, hi2.freeze, next _ _ hle ?_⟩
    · simp only [execOp, eval_opnd he hx, convert, Sem.run_bind, T.undOk hs, T.undOk ht, T.undOk he8, str, Result.andThen_ok, hr]; rfl
    · refine ⟨_, _, rfl, h1, .inr ⟨W.heap.size, 0, rfl, ?_⟩⟩
      intro j y hy
      have hj : j < s.length := (List.getElem?_eq_some_iff.1 hy).1
      refine ⟨[.int .u8 (y.toNat : Int)], rfl, cs, e, (cs.size, cs.size + 1), by simp [iset], ?_⟩
      intro q u hu
      have hq : q = 0 := by
        cases q with
        | zero => rfl
        | succ q => simp at hu
      subst hq
      simp at hu; subst hu
      have h3 : (cs.toList.take s.length)[j]? = some (.int .u8 (y.toNat : Int)) := by rw [h2]; simp [hy]
      rw [List.getElem?_take_of_lt hj] at h3
      simpa [tU8] using h3
end
end Go.V
/-
  Texts searched and parted: plain Lean.
-/
namespace Go.V
open Go.RowKit
set_option linter.unusedVariables false
set_option linter.unusedSimpArgs false
/-- the place of the first c -/
def ix (c : UInt8) : List UInt8 → Option Nat
  | [] => none
  | x :: r => if x = c then some 0 else (ix c r).map (· + 1)
def ixI (c : UInt8) (s : List UInt8) : Int := match ix c s with | some k => k | none => -1
theorem ix_drop (c : UInt8) (s : List UInt8) (i : Nat) (h : i < s.length) : ix c (s.drop i) = if s.getD i 0 = c then some 0 else (ix c (s.drop (i + 1))).map (· + 1) := by
  have h1 : s.drop i = s[i] :: s.drop (i + 1) := List.drop_eq_getElem_cons h
  rw [h1, ix]
  simp [List.getD_eq_getElem?_getD, h]
theorem cut1 (s : List UInt8) (i : Nat) (h : i < s.length) : (s.take (i + 1)).drop i = [s.getD i 0] := by
  rw [List.drop_take]
  have h1 : s.drop i = s[i] :: s.drop (i + 1) := List.drop_eq_getElem_cons h
  have h2 : i + 1 - i = 1 := by omega
  rw [h2, h1, List.take_succ_cons, List.take_zero]; simp [List.getD_eq_getElem?_getD, h]
theorem ix_lt {c : UInt8} : ∀ {s : List UInt8} {k : Nat}, ix c s = some k → k < s.length
  | [], k, h => by simp [ix] at h
  | x :: r, k, h => by
    simp only [ix] at h
    split at h
    · simp at h; subst h; simp
    · cases hr : ix c r with
      | none => rw [hr] at h; simp at h
      | some j =>
        rw [hr] at h; simp at h
        have := ix_lt hr
        simp; omega
theorem u8_inj {a b : UInt8} : ((a.toNat : Int) = (b.toNat : Int)) ↔ a = b := by
  constructor
  · intro h; exact UInt8.toNat_inj.1 (by omega)
  · intro h; rw [h]
end Go.V
/-
  Names of registries, repositories, tags and digests, as the document says: plain Lean.
-/
namespace Go.V
set_option linter.unusedVariables false
set_option linter.unusedSimpArgs false
abbrev Tx := List UInt8
def allIn (cs s : Tx) : Bool := s.all fun b => cs.contains b
def hasB (c : UInt8) (s : Tx) : Bool := s.contains c
def smallT : Tx := [97, 98, 99, 100, 101, 102, 103, 104, 105, 106, 107, 108, 109, 110, 111, 112, 113, 114, 115, 116, 117, 118, 119, 120, 121, 122, 48, 49, 50, 51, 52, 53, 54, 55, 56, 57, 95, 45, 46]
def capT : Tx := [65, 66, 67, 68, 69, 70, 71, 72, 73, 74, 75, 76, 77, 78, 79, 80, 81, 82, 83, 84, 85, 86, 87, 88, 89, 90]
def digT : Tx := [48, 49, 50, 51, 52, 53, 54, 55, 56, 57]
def hexT : Tx := [48, 49, 50, 51, 52, 53, 54, 55, 56, 57, 97, 98, 99, 100, 101, 102]
def sWithin (s cs : Tx) (a b : Nat) : Bool := allIn cs s && (decide (a ≤ s.length) && decide (s.length ≤ b))
/-- the place of the last c -/
def lx (c : UInt8) : Tx → Option Nat
  | [] => none
  | x :: r => match lx c r with
    | some k => some (k + 1)
    | none => if x = c then some 0 else none
def hp (s : Tx) : Bool := sWithin s (smallT ++ capT) 0 300 && !hasB 95 s
def hostPlain (s : Tx) : Bool := match ix 58 s with
  | some k => sWithin (s.drop (k + 1)) digT 1 5 && hp (s.take k)
  | none => hp s
def badB (b : UInt8) : Bool := decide (b.toNat ≤ 32) || decide (b = 47) || decide (b = 63) || decide (b = 35) || decide (b = 64) || decide (b = 127) || decide (b = 92)
def hostBad (s : Tx) : Bool := s.any badB
def localhostT : Tx := [108, 111, 99, 97, 108, 104, 111, 115, 116]
def hosted (s : Tx) : Bool := hasB 46 s || hasB 58 s || decide (s = localhostT)
def hostNamed (s : Tx) : Bool := hostPlain s && hosted s
def hubT : Tx := [105, 110, 100, 101, 120, 46, 100, 111, 99, 107, 101, 114, 46, 105, 111]
def hub (reg : Tx) : Tx := if reg = [] then hubT else reg
def aliasT (s : Tx) : Tx := if s = [100, 111, 99, 107, 101, 114, 46, 105, 111] then hubT else s
structure NOpt where
  strict : Bool
  ins : Bool
  reg : Tx
  tag : Tx
def sReg (strict : Bool) (reg s : Tx) : Tx × Bool × Bool :=
  if (strict && decide (s = [])) || hostBad s then ([], false, false) else (aliasT (if s = [] then hub reg else s), true, !hostPlain s)
def pathGood (s : Tx) : Bool := sWithin s (smallT ++ [47]) 1 255
def tagGood (s : Tx) : Bool := sWithin s (smallT ++ capT) 1 128
def digGood (s : Tx) : Bool := decide (s.length = 71) && (decide (s.take 7 = [115, 104, 97, 50, 53, 54, 58]) && sWithin (s.drop 7) hexT 64 64)
def libT : Tx := [108, 105, 98, 114, 97, 114, 121, 47]
/-- host and path -/
def hostCut (s : Tx) : Tx × Tx := match ix 47 s with
  | some k => if hosted (s.take k) then (s.take k, s.drop (k + 1)) else ([], s)
  | none => ([], s)
/-- a path, with what is left out -/
def fullP (r p : Tx) : Tx := if decide (r = hubT) && !hasB 47 p then libT ++ p else p
def implNs (r p : Tx) : Bool := decide (r = hubT) && !hasB 47 p
def sRepo (strict : Bool) (reg s : Tx) : Tx × Tx × Bool × Bool :=
  let (h, p) := hostCut s
  let (r, ok, op) := sReg false reg h
  if !pathGood p || !ok || (strict && decide (h = [])) then ([], [], false, op)
  else if implNs r p && strict then ([], [], false, op) else (r, fullP r p, true, op)
/-- a tag cut off -/
def cutTag (s : Tx) : Option (Tx × Tx) := match lx 58 s with
  | some k => if hasB 47 (s.drop k) then none else some (s.take k, s.drop (k + 1))
  | none => none
def latestT : Tx := [108, 97, 116, 101, 115, 116]
def tagOr (t : Tx) : Tx := if t = [] then latestT else t
def sTag (o : NOpt) (s : Tx) : Tx × Tx × Tx × Bool × Bool := match cutTag s with
  | some (rest, t) => if tagGood t then let (r, p, ok, op) := sRepo o.strict o.reg rest; (r, p, t, ok, op) else ([], [], [], false, false)
  | none => if o.strict then ([], [], [], false, false) else let (r, p, ok, op) := sRepo o.strict o.reg s; (r, p, tagOr o.tag, ok, op)
def otherDig (d : Tx) : Bool := decide (7 < d.length) && (decide (d.take 7 = [115, 104, 97, 51, 56, 52, 58]) || decide (d.take 7 = [115, 104, 97, 53, 49, 50, 58]))
def offTag (s : Tx) : Tx := match cutTag s with
  | some (r, t) => if tagGood t then r else s
  | none => s
def sDig (o : NOpt) (s : Tx) : Tx × Tx × Tx × Bool × Bool := match ix 64 s with
  | none => ([], [], [], false, false)
  | some k => if lx 64 s = some k then
      (if digGood (s.drop (k + 1)) then let (r, p, ok, op) := sRepo o.strict o.reg (offTag (s.take k)); (r, p, s.drop (k + 1), ok, op || decide (255 < p.length))
       else ([], [], [], false, otherDig (s.drop (k + 1))))
    else ([], [], [], false, false)
structure Nm where
  kind : Int
  reg : Tx
  rep : Tx
  id : Tx
  name : Tx
  text : Tx
  scheme : Tx
  scope : Tx
  cname : Tx
  ctext : Tx
  rname : Tx
def Nm.zero : Nm := ⟨0, [], [], [], [], [], [], [], [], [], []⟩
def schemeT (b : Bool) : Tx := if b then [104, 116, 116, 112] else [104, 116, 116, 112, 115]
def scopeT (p : Tx) : Tx := [114, 101, 112, 111, 115, 105, 116, 111, 114, 121, 58] ++ p ++ [58, 112, 117, 108, 108]
def repoT (r p : Tx) : Tx := r ++ [47] ++ p
def nmd (sch : Bool) (kind : Int) (r p id text : Tx) : Nm :=
  if kind = 1 then ⟨1, r, p, id, r, r, schemeT sch, [114, 101, 103, 105, 115, 116, 114, 121, 58, 99, 97, 116, 97, 108, 111, 103, 58, 42], [], [], []⟩
  else if kind = 2 then ⟨2, r, p, id, repoT r p, repoT r p, schemeT sch, scopeT p, [], [], []⟩
  else if kind = 3 then ⟨3, r, p, id, repoT r p ++ [58] ++ id, text, schemeT sch, scopeT p, repoT r p, repoT r p, r⟩
  else ⟨4, r, p, id, repoT r p ++ [64] ++ id, text, schemeT sch, scopeT p, repoT r p, repoT r p, r⟩
/-- kind, parts, ok, open -/
def sParts (o : NOpt) (which : Int) (s : Tx) : Int × Tx × Tx × Tx × Bool × Bool :=
  if which = 1 then let (r, ok, op) := sReg o.strict o.reg s; (1, r, [], [], ok, op)
  else if which = 2 then let (r, p, ok, op) := sRepo o.strict o.reg s; (2, r, p, [], ok, op)
  else if which = 3 then let (r, p, t, ok, op) := sTag o s; (3, r, p, t, ok, op)
  else if which = 4 then let (r, p, t, ok, op) := sDig o s; (4, r, p, t, ok, op)
  else let (r, p, t, ok, op) := sTag o s
    if !ok && !op then let (r, p, t, ok, op) := sDig o s; (4, r, p, t, ok, op) else (3, r, p, t, ok, op)
end Go.V
/-
  Laws of names: plain Lean.
-/
namespace Go.V
set_option linter.unusedVariables false
set_option linter.unusedSimpArgs false
set_option maxRecDepth 10000
theorem hasB_false {c : UInt8} {s : Tx} : hasB c s = false ↔ ∀ b ∈ s, b ≠ c := by
  unfold hasB
  constructor
  · intro h b hb e
    subst e
    have : s.contains b = true := List.contains_iff_mem.2 hb
    rw [this] at h; cases h
  · intro h
    cases hc : s.contains c with
    | false => rfl
    | true => exact absurd rfl (h c (List.contains_iff_mem.1 hc))
theorem hasB_true {c : UInt8} {s : Tx} : hasB c s = true ↔ c ∈ s := List.contains_iff_mem
theorem hasB_app {c : UInt8} {s u : Tx} : hasB c (s ++ u) = (hasB c s || hasB c u) := by simp [hasB]
theorem hasB_cons {c b : UInt8} {u : Tx} : hasB c (b :: u) = (decide (b = c) || hasB c u) := by
  rw [Bool.eq_iff_iff]
  simp only [hasB_true, List.mem_cons, Bool.or_eq_true, decide_eq_true_eq]
  exact ⟨fun h => h.imp Eq.symm id, fun h => h.imp Eq.symm id⟩
theorem ix_none {c : UInt8} : ∀ {s : Tx}, ix c s = none ↔ hasB c s = false
  | [] => by simp [ix, hasB]
  | x :: r => by
    rw [hasB_cons]
    simp only [ix]
    by_cases h : x = c
    · simp [h]
    · rw [if_neg h, Option.map_eq_none_iff, ix_none (s := r)]
      simp [h]
theorem ix_app {c : UInt8} {y : Tx} : ∀ {x : Tx}, hasB c x = false → ix c (x ++ c :: y) = some x.length
  | [], _ => by simp [ix]
  | b :: r, h => by
    rw [hasB_cons, Bool.or_eq_false_iff] at h
    have h1 : b ≠ c := of_decide_eq_false h.1
    simp [ix, h1, ix_app h.2]
theorem ix_app2 {c : UInt8} {y : Tx} : ∀ {x : Tx} {k : Nat}, ix c x = some k → ix c (x ++ y) = some k
  | [], k, h => by simp [ix] at h
  | b :: r, k, h => by
    simp only [ix, List.cons_append] at h ⊢
    split at h
    · rename_i hb; rw [if_pos hb]; exact h
    · rename_i hb
      rw [if_neg hb]
      cases hr : ix c r with
      | none => rw [hr] at h; simp at h
      | some j => rw [hr] at h; rw [ix_app2 hr]; exact h
theorem lx_none {c : UInt8} : ∀ {s : Tx}, lx c s = none ↔ hasB c s = false
  | [] => by simp [lx, hasB]
  | x :: r => by
    rw [hasB_cons]
    simp only [lx]
    cases hr : lx c r with
    | none =>
      have := lx_none.1 hr
      by_cases h : x = c
      · simp [h]
      · simp [h, this]
    | some k =>
      have : hasB c r = true := by
        cases hb : hasB c r with
        | true => rfl
        | false => rw [lx_none.2 hb] at hr; cases hr
      simp [this]
theorem lx_split {c : UInt8} : ∀ {s : Tx} {k : Nat}, lx c s = some k → k < s.length ∧ s = s.take k ++ c :: s.drop (k + 1) ∧ hasB c (s.drop (k + 1)) = false
  | [], k, h => by simp [lx] at h
  | x :: r, k, h => by
    simp only [lx] at h
    cases hr : lx c r with
    | none =>
      rw [hr] at h
      simp only at h
      split at h
      · rename_i hx
        cases h
        subst hx
        exact ⟨by simp, by simp, by simpa using lx_none.1 hr⟩
      · cases h
    | some j =>
      rw [hr] at h
      simp only [Option.some.injEq] at h
      subst h
      obtain ⟨h1, h2, h3⟩ := lx_split hr
      refine ⟨by simp; omega, ?_, by simpa using h3⟩
      simpa using h2
theorem lx_app {c : UInt8} {y : Tx} (hy : hasB c y = false) : ∀ {x : Tx}, lx c (x ++ c :: y) = some x.length
  | [] => by simp [lx, lx_none.2 hy]
  | b :: r => by simp [lx, lx_app hy (x := r)]
theorem lx_app2 {c : UInt8} {y : Tx} (hy : hasB c y = false) : ∀ {x : Tx}, lx c (x ++ y) = lx c x
  | [] => by simpa [lx] using lx_none.2 hy
  | b :: r => by simp [lx, lx_app2 hy (x := r)]
theorem ix_split {c : UInt8} {s : Tx} {k : Nat} (h : ix c s = some k) : s = s.take k ++ c :: s.drop (k + 1) ∧ hasB c (s.take k) = false := by
  induction s generalizing k with
  | nil => simp [ix] at h
  | cons x r ih =>
    simp only [ix] at h
    split at h
    · rename_i hx
      cases h
      subst hx
      exact ⟨by simp, by simp [hasB]⟩
    · rename_i hx
      cases hr : ix c r with
      | none => rw [hr] at h; simp at h
      | some j =>
        rw [hr] at h
        simp only [Option.map_some, Option.some.injEq] at h
        subst h
        obtain ⟨h1, h2⟩ := ih hr
        refine ⟨by simpa using h1, ?_⟩
        rw [List.take_succ_cons, hasB_cons, h2]
        simp [hx]
theorem allIn_mem {cs s : Tx} : allIn cs s = true ↔ ∀ b ∈ s, b ∈ cs := by simp [allIn]
theorem allIn_not {cs s : Tx} (c : UInt8) (h : allIn cs s = true) (hc : cs.contains c = false) : hasB c s = false :=
  hasB_false.2 fun b hb e => by
    have := allIn_mem.1 h b hb
    subst e
    rw [List.contains_iff_mem.2 this] at hc; cases hc
theorem allIn_app {cs s u : Tx} : allIn cs (s ++ u) = (allIn cs s && allIn cs u) := by simp [allIn]
theorem sWithin_all {cs s : Tx} {a b : Nat} (h : sWithin s cs a b = true) : allIn cs s = true ∧ a ≤ s.length ∧ s.length ≤ b := by
  simpa [sWithin] using h
theorem hp_all {s : Tx} (h : hp s = true) : allIn (smallT ++ capT) s = true := by
  simp only [hp, Bool.and_eq_true] at h
  exact (sWithin_all h.1).1
/-- what a plain host is made of -/
def hostT : Tx := (smallT ++ capT) ++ [58]
theorem dig_host : ∀ b ∈ digT, b ∈ hostT := by decide
theorem host_bad : ∀ b ∈ hostT, badB b = false := by decide
theorem hostPlain_all {s : Tx} (h : hostPlain s = true) : allIn hostT s = true := by
  unfold hostPlain at h
  cases hk : ix 58 s with
  | none =>
    rw [hk] at h
    exact allIn_mem.2 fun b hb => List.mem_append_left _ (allIn_mem.1 (hp_all h) b hb)
  | some k =>
    rw [hk] at h
    simp only [Bool.and_eq_true] at h
    obtain ⟨e, _⟩ := ix_split hk
    have h1 := (sWithin_all h.1).1
    have h2 := hp_all h.2
    refine allIn_mem.2 fun b hb => ?_
    rw [e] at hb
    rcases List.mem_append.1 hb with hb | hb
    · exact List.mem_append_left _ (allIn_mem.1 h2 b hb)
    · rcases List.mem_cons.1 hb with rfl | hb
      · decide
      · exact dig_host b (allIn_mem.1 h1 b hb)
theorem hostPlain_no {s : Tx} (c : UInt8) (h : hostPlain s = true) (hc : hostT.contains c = false) : hasB c s = false := allIn_not c (hostPlain_all h) hc
theorem hostPlain_good {s : Tx} (h : hostPlain s = true) : hostBad s = false := by
  cases hb : hostBad s with
  | false => rfl
  | true =>
    exfalso
    obtain ⟨b, hb1, hb2⟩ := List.any_eq_true.1 hb
    rw [host_bad b (allIn_mem.1 (hostPlain_all h) b hb1)] at hb2
    cases hb2
theorem hosted_ne {s : Tx} (h : hosted s = true) : s ≠ [] := by rintro rfl; revert h; decide
theorem alias_ne {s : Tx} : aliasT (aliasT s) = aliasT s := by
  unfold aliasT
  split
  · decide
  · rename_i h; first | rfl | rw [if_neg h]
theorem alias_plain {s : Tx} (h : hostPlain s = true) : hostPlain (aliasT s) = true := by
  unfold aliasT; split
  · decide
  · exact h
theorem alias_hosted {s : Tx} (h : hosted s = true) : hosted (aliasT s) = true := by
  unfold aliasT; split
  · decide
  · exact h
theorem alias_nil {s : Tx} (h : s ≠ []) : aliasT s ≠ [] := by
  unfold aliasT; split
  · decide
  · exact h
theorem lib_all : allIn (smallT ++ [47]) libT = true := by decide
/-- a repository's name taken apart -/
theorem hostCut_repo {r p : Tx} (h1 : hostPlain r = true) (h2 : hosted r = true) : hostCut (repoT r p) = (r, p) := by
  have h3 := hostPlain_no 47 h1 (by decide)
  have h4 : ix 47 (repoT r p) = some r.length := by
    unfold repoT
    rw [List.append_assoc]
    exact ix_app h3
  unfold hostCut
  rw [h4]
  simp [repoT, h2]
theorem fullP_idem {r p : Tx} : fullP r (fullP r p) = fullP r p := by
  unfold fullP
  by_cases h : (decide (r = hubT) && !hasB 47 p) = true
  · rw [if_pos h]
    have : hasB 47 (libT ++ p) = true := by rw [hasB_app]; simp [show hasB 47 libT = true by decide]
    simp [this]
  · rw [if_neg h, if_neg h]
theorem fullP_not {r p : Tx} : implNs r (fullP r p) = false := by
  unfold fullP implNs
  by_cases h : (decide (r = hubT) && !hasB 47 p) = true
  · rw [if_pos h]
    have : hasB 47 (libT ++ p) = true := by rw [hasB_app]; simp [show hasB 47 libT = true by decide]
    simp [this]
  · rw [if_neg h]; simpa using h
theorem pathGood_all {p : Tx} (h : pathGood p = true) : allIn (smallT ++ [47]) p = true ∧ 1 ≤ p.length ∧ p.length ≤ 255 := sWithin_all h
theorem fullP_all {r p : Tx} (h : pathGood p = true) : allIn (smallT ++ [47]) (fullP r p) = true ∧ 1 ≤ (fullP r p).length := by
  obtain ⟨h1, h2, _⟩ := pathGood_all h
  unfold fullP; split
  · rw [allIn_app, lib_all, h1]; exact ⟨rfl, by simp; omega⟩
  · exact ⟨h1, h2⟩
theorem pathGood_of {p : Tx} (h : allIn (smallT ++ [47]) p = true) (h1 : 1 ≤ p.length) (h2 : p.length ≤ 255) : pathGood p = true := by
  simp [pathGood, sWithin, h, h1, h2]
/-- what was read: a registry and a path -/
structure RepoOk (r p : Tx) : Prop where
  plain : hostPlain r = true
  al : aliasT r = r
  ne : r ≠ []
  full : fullP r p = p
  chars : allIn (smallT ++ [47]) p = true
  pos : 1 ≤ p.length
def regOk (reg : Tx) : Prop := reg = [] ∨ hostNamed reg = true
theorem hub_named {reg : Tx} (h : regOk reg) : hostPlain (hub reg) = true ∧ hosted (hub reg) = true := by
  unfold hub
  rcases h with rfl | h
  · decide
  · simp only [hostNamed, Bool.and_eq_true] at h
    split
    · decide
    · exact h
theorem sReg_ok {b : Bool} {reg s r : Tx} (hr : regOk reg) (h : sReg b reg s = (r, true, false)) : hostPlain r = true ∧ aliasT r = r ∧ r ≠ [] ∧ r = aliasT (if s = [] then hub reg else s) ∧ hostPlain s = true ∧ hostBad s = false := by
  unfold sReg at h
  split at h
  · simp at h
  rename_i h0
  simp only [Prod.mk.injEq, true_and] at h
  obtain ⟨rfl, h⟩ := h
  have hp : hostPlain s = true := by simpa using h
  obtain ⟨h1, h2⟩ := hub_named hr
  refine ⟨alias_plain ?_, alias_ne, alias_nil ?_, rfl, hp, hostPlain_good hp⟩
  · split
    · exact h1
    · exact hp
  · split
    · exact hosted_ne h2
    · rename_i h; exact h
theorem hostCut_spec (s : Tx) : (hostCut s).1 = [] ∨ hosted (hostCut s).1 = true := by
  unfold hostCut; split
  · split
    · rename_i h; exact .inr h
    · exact .inl rfl
  · exact .inl rfl
theorem sRepo_ok {b : Bool} {reg s r p : Tx} (hr : regOk reg) (h : sRepo b reg s = (r, p, true, false)) : RepoOk r p ∧ hosted r = true ∧ sReg false reg (hostCut s).1 = (r, true, false) ∧ pathGood (hostCut s).2 = true ∧ p = fullP r (hostCut s).2 := by
  unfold sRepo at h
  simp only at h
  split at h
  · simp at h
  rename_i h0
  split at h
  · simp at h
  rename_i h1
  simp only [Prod.mk.injEq, true_and] at h
  obtain ⟨hr1, hp1, h2⟩ := h
  simp only [Bool.or_eq_true, Bool.not_eq_true', not_or, Bool.not_eq_false, Bool.and_eq_true, decide_eq_true_eq] at h0
  obtain ⟨⟨h3, h4⟩, h5⟩ := h0
  have hs : sReg false reg (hostCut s).1 = (r, true, false) := Prod.ext hr1 (Prod.ext h4 h2)
  obtain ⟨g1, g2, g3, g4, g5, g6⟩ := sReg_ok hr hs
  rw [hr1] at hp1
  obtain ⟨k1, k2⟩ := fullP_all (r := r) h3
  subst hp1
  refine ⟨⟨g1, g2, g3, fullP_idem, k1, k2⟩, ?_, hs, h3, rfl⟩
  rw [g4]
  refine alias_hosted ?_
  split
  · exact (hub_named hr).2
  · rename_i he
    rcases hostCut_spec s with h | h
    · exact absurd h he
    · exact h
/-- read again -/
theorem sReg_again {b : Bool} {reg r : Tx} (h1 : hostPlain r = true) (h2 : aliasT r = r) (h3 : r ≠ []) : sReg b reg r = (r, true, false) := by
  unfold sReg
  rw [hostPlain_good h1]
  simp [h3, h2, h1]
theorem sRepo_again {b : Bool} {reg r p : Tx} (h : RepoOk r p) (h2 : hosted r = true) (hl : p.length ≤ 255) : sRepo b reg (repoT r p) = (r, p, true, false) := by
  unfold sRepo
  rw [hostCut_repo h.plain h2]
  simp only
  rw [sReg_again h.plain h.al h.ne]
  have hg := pathGood_of h.chars h.pos hl
  have hf := fullP_not (r := r) (p := p)
  rw [h.full] at hf
  simp [hg, h.ne, hf, h.full]
theorem cutTag_none {r p : Tx} (hp : hasB 58 p = false) : cutTag (repoT r p) = none := by
  unfold cutTag
  have e : lx 58 (repoT r p) = lx 58 r := by
    unfold repoT
    rw [List.append_assoc]
    refine lx_app2 ?_
    rw [hasB_app, hp]; decide
  rw [e]
  cases hk : lx 58 r with
  | none => rfl
  | some k =>
    obtain ⟨h1, _⟩ := lx_split hk
    have : hasB 47 ((repoT r p).drop k) = true := by
      unfold repoT
      rw [List.append_assoc, List.drop_append_of_le_length (Nat.le_of_lt h1), hasB_app, hasB_app]
      simp [show hasB 47 [47] = true by decide]
    simp [this]
theorem cutTag_some {x t : Tx} (h1 : hasB 58 t = false) (h2 : hasB 47 t = false) : cutTag (x ++ 58 :: t) = some (x, t) := by
  unfold cutTag
  rw [lx_app h1]
  simp [hasB_cons, h2]
theorem cutTag_eq {s x t : Tx} (h : cutTag s = some (x, t)) : s = x ++ 58 :: t ∧ hasB 58 t = false ∧ hasB 47 t = false := by
  unfold cutTag at h
  cases hk : lx 58 s with
  | none => rw [hk] at h; cases h
  | some k =>
    rw [hk] at h
    simp only at h
    split at h
    · cases h
    · rename_i hb
      cases h
      obtain ⟨h1, h2, h3⟩ := lx_split hk
      refine ⟨h2, h3, ?_⟩
      have e : s.drop k = 58 :: s.drop (k + 1) := by
        conv => lhs; rw [h2]
        rw [List.drop_append_of_le_length (by simp; omega)]
        simp
      rw [e, hasB_cons] at hb
      simpa using hb
theorem tagGood_no {t : Tx} (h : tagGood t = true) : hasB 58 t = false ∧ hasB 47 t = false ∧ hasB 64 t = false ∧ t ≠ [] := by
  obtain ⟨h1, h2, h3⟩ := sWithin_all h
  exact ⟨allIn_not _ h1 (by decide), allIn_not _ h1 (by decide), allIn_not _ h1 (by decide), fun e => by subst e; simp at h2⟩
theorem path_no {p : Tx} (h : allIn (smallT ++ [47]) p = true) : hasB 58 p = false ∧ hasB 64 p = false := ⟨allIn_not _ h (by decide), allIn_not _ h (by decide)⟩
end Go.V
/-
  What reading a name answers; names read again; names made: plain Lean.
-/
namespace Go.V
set_option linter.unusedVariables false
set_option linter.unusedSimpArgs false
set_option maxRecDepth 10000
/-- an answer of NewRegistry, where something is said -/
def RegAns (b : Bool) (reg s : Tx) (a : Option Tx) : Prop := ∀ r ok, sReg b reg s = (r, ok, false) → a = if ok then some r else none
def RepoAns (b : Bool) (reg s : Tx) (a : Option (Tx × Tx)) : Prop := ∀ r p ok, sRepo b reg s = (r, p, ok, false) → match a with
  | some x => ok = true ∧ x.1 = r ∧ fullP r x.2 = p
  | none => ok = false
def TagAns (o : NOpt) (s : Tx) (a : Option (Tx × Tx × Tx)) : Prop := ∀ r p t ok, sTag o s = (r, p, t, ok, false) → match a with
  | some x => ok = true ∧ x.1 = r ∧ fullP r x.2.1 = p ∧ x.2.2 = t
  | none => ok = false
def DigAns (o : NOpt) (s : Tx) (a : Option (Tx × Tx × Tx)) : Prop := ∀ r p t ok, sDig o s = (r, p, t, ok, false) → match a with
  | some x => ok = true ∧ x.1 = r ∧ fullP r x.2.1 = p ∧ x.2.2 = t
  | none => ok = false
/-- the registry, then the repository -/
theorem RepoAns.of {b : Bool} {reg s : Tx} {a : Option Tx} (h1 : RegAns b reg (hostCut s).1 a) : RepoAns b reg s (if pathGood (hostCut s).2 then (match a with
    | some r => if implNs r (hostCut s).2 && b then none else some (r, (hostCut s).2)
    | none => none) else none) := by
  intro r p ok h
  unfold sRepo at h
  simp only at h
  cases hp : pathGood (hostCut s).2 with
  | false => rw [hp] at h; simp at h; simp; exact h.2.2.1
  | true =>
    rw [hp] at h
    simp only [Bool.not_true, Bool.false_or] at h
    rw [if_pos rfl]
    by_cases hb : b = true ∧ (hostCut s).1 = []
    · obtain ⟨hb1, hb2⟩ := hb
      subst hb1
      rw [hb2] at h h1
      have ha : a = none := by
        have := h1 [] false (by simp [sReg])
        simpa using this
      subst ha
      simp [sReg, show hostBad [] = false by decide] at h
      simpa using h.2.2.1
    · have hbf : (b && decide ((hostCut s).1 = [])) = false := by
        cases b with
        | false => rfl
        | true => simp at hb; simp [hb]
      have he : sReg b reg (hostCut s).1 = sReg false reg (hostCut s).1 := by unfold sReg; rw [hbf]; simp
      rw [hbf] at h
      rw [RegAns, he] at h1
      cases hs : sReg false reg (hostCut s).1 with
      | mk r1 x =>
        obtain ⟨ok1, op1⟩ := x
        rw [hs] at h
        simp only [Bool.or_false] at h
        cases ok1 with
        | false =>
          simp only [Bool.not_false, if_true, Prod.mk.injEq] at h
          obtain ⟨_, _, rfl, rfl⟩ := h
          have := h1 r1 false hs
          simp only [Bool.false_eq_true, if_false] at this
          subst this
          rfl
        | true =>
          simp only [Bool.not_true, Bool.false_eq_true, if_false] at h
          by_cases hi : (implNs r1 (hostCut s).2 && b) = true
          · rw [if_pos hi] at h
            simp only [Prod.mk.injEq] at h
            obtain ⟨_, _, rfl, rfl⟩ := h
            have := h1 r1 true hs
            rw [if_pos rfl] at this
            subst this
            simp only [hi, if_true]
          · rw [if_neg hi] at h
            simp only [Prod.mk.injEq] at h
            obtain ⟨rfl, rfl, rfl, rfl⟩ := h
            have := h1 r1 true hs
            rw [if_pos rfl] at this
            subst this
            simp only [hi]
            exact ⟨trivial, rfl, rfl⟩
/-- tag and rest -/
theorem TagAns.of {o : NOpt} {s : Tx} {a : Option (Tx × Tx)} {rest t : Tx} (hc : cutTag s = some (rest, t)) (ht : tagGood t = true) (h : RepoAns o.strict o.reg rest a) : TagAns o s (a.map fun x => (x.1, x.2, t)) := by
  intro r p t' ok hs
  unfold sTag at hs
  rw [hc] at hs
  simp only [ht, if_true, Prod.mk.injEq] at hs
  obtain ⟨h1, h2, h3, h4, h5⟩ := hs
  have := h r p ok (Prod.ext h1 (Prod.ext h2 (Prod.ext h4 h5)))
  cases a with
  | none => exact this
  | some x => exact ⟨this.1, this.2.1, this.2.2, h3⟩
theorem TagAns.no {o : NOpt} {s : Tx} {rest t : Tx} (hc : cutTag s = some (rest, t)) (ht : tagGood t = false) : TagAns o s none := by
  intro r p t' ok hs
  unfold sTag at hs
  rw [hc] at hs
  simp [ht] at hs
  exact hs.2.2.2
theorem TagAns.strict {o : NOpt} {s : Tx} (hc : cutTag s = none) (ht : o.strict = true) : TagAns o s none := by
  intro r p t' ok hs
  unfold sTag at hs
  rw [hc] at hs
  simp [ht] at hs
  exact hs.2.2.2
theorem pathBad {p : Tx} (h : hasB 58 p = true) : pathGood p = false := by
  cases hp : pathGood p with
  | false => rfl
  | true => rw [(path_no (pathGood_all hp).1).1] at h; cases h
theorem hostCut_more {x t : Tx} (h : hasB 47 t = false) : (hostCut (x ++ 58 :: t)).1 = (hostCut x).1 ∧ (hostCut (x ++ 58 :: t)).2 = (hostCut x).2 ++ 58 :: t := by
  unfold hostCut
  cases hk : ix 47 x with
  | some k =>
    have hlt := ix_lt hk
    rw [ix_app2 hk]
    simp only
    rw [List.take_append_of_le_length (by omega)]
    by_cases hh : hosted (x.take k) = true
    · rw [if_pos hh, if_pos hh, List.drop_append_of_le_length (by omega)]
      exact ⟨rfl, rfl⟩
    · rw [if_neg hh, if_neg hh]
      exact ⟨rfl, rfl⟩
  | none =>
    have : ix 47 (x ++ 58 :: t) = none := ix_none.2 (by rw [hasB_app, hasB_cons, ix_none.1 hk, h]; rfl)
    rw [this]
    exact ⟨rfl, rfl⟩
theorem sRepo_bad {b : Bool} {reg x t : Tx} (h : hasB 47 t = false) {r p : Tx} {ok : Bool} (hs : sRepo b reg x = (r, p, ok, false)) : sRepo b reg (x ++ 58 :: t) = ([], [], false, false) := by
  obtain ⟨h1, h2⟩ := hostCut_more (x := x) h
  have hop : (sReg false reg (hostCut x).1).2.2 = false := by
    unfold sRepo at hs
    simp only at hs
    split at hs
    · simp at hs; exact hs.2.2.2
    · split at hs
      · simp at hs; exact hs.2.2.2
      · simp at hs; exact hs.2.2.2
  unfold sRepo
  simp only [h1, h2]
  rw [pathBad (by rw [hasB_app, hasB_cons]; simp)]
  simp [hop]
/-- a digest: the tag, if there is one, then the repository -/
theorem DigAns.of {o : NOpt} {s : Tx} {k : Nat} {at_ : Option (Tx × Tx × Tx)} {ar : Option (Tx × Tx)} (hr : regOk o.reg) (h1 : ix 64 s = some k) (h2 : lx 64 s = some k) (hd : digGood (s.drop (k + 1)) = true)
    (ht : TagAns o (s.take k) at_) (ha : RepoAns o.strict o.reg (match at_ with
      | some x => repoT x.1 (fullP x.1 x.2.1)
      | none => s.take k) ar) : DigAns o s (ar.map fun x => (x.1, x.2, s.drop (k + 1))) := by
  intro r p t ok hs
  unfold sDig at hs
  rw [h1] at hs
  simp only [h2, if_true, hd, Prod.mk.injEq, Bool.or_eq_false_iff, decide_eq_false_iff_not, Nat.not_lt] at hs
  obtain ⟨e1, e2, e3, e4, e5, e6⟩ := hs
  have hS : sRepo o.strict o.reg (offTag (s.take k)) = (r, p, ok, false) := Prod.ext e1 (Prod.ext e2 (Prod.ext e4 e5))
  rw [e2] at e6
  subst e3
  -- what is said of the tag
  have key : ∀ x, sTag o (s.take k) = (r, p, x, ok, false) → (match (generalizing := false) at_ with
      | some y => ok = true ∧ y.1 = r ∧ fullP r y.2.1 = p
      | none => ok = false) := by
    intro x hx
    have := ht r p x ok hx
    cases at_ with
    | none => exact this
    | some y => exact ⟨this.1, this.2.1, this.2.2.1⟩
  have fin : (∃ x, sTag o (s.take k) = (r, p, x, ok, false)) → ok = true → (match (ar.map fun x => (x.1, x.2, s.drop (k + 1))) with
      | some x => ok = true ∧ x.1 = r ∧ fullP r x.2.1 = p ∧ x.2.2 = s.drop (k + 1)
      | none => ok = false) := by
    rintro ⟨x, hx⟩ rfl
    have := key x hx
    cases at_ with
    | none => cases this
    | some y =>
      obtain ⟨_, y1, y2⟩ := this
      simp only [y1, y2] at ha
      obtain ⟨g1, g2, _⟩ := sRepo_ok hr hS
      have := ha r p true (sRepo_again g1 g2 e6)
      cases ar with
      | none => cases this
      | some z => exact ⟨rfl, this.2.1, this.2.2, rfl⟩
  have fin2 : at_ = none → (∃ r' p', sRepo o.strict o.reg (s.take k) = (r', p', false, false)) → ok = false → (match (ar.map fun x => (x.1, x.2, s.drop (k + 1))) with
      | some x => ok = true ∧ x.1 = r ∧ fullP r x.2.1 = p ∧ x.2.2 = s.drop (k + 1)
      | none => ok = false) := by
    rintro rfl ⟨r', p', h⟩ rfl
    have := ha r' p' false h
    cases ar with
    | none => rfl
    | some z => exact absurd this.1 (by decide)
  cases hc : cutTag (s.take k) with
  | some y =>
    obtain ⟨rest, tg⟩ := y
    cases htg : tagGood tg with
    | true =>
      have ho : offTag (s.take k) = rest := by simp [offTag, hc, htg]
      rw [ho] at hS
      have hT : sTag o (s.take k) = (r, p, tg, ok, false) := by simp [sTag, hc, htg, hS]
      cases ok with
      | true => exact fin ⟨_, hT⟩ rfl
      | false =>
        have hn := key _ hT
        cases at_ with
        | some y => exact absurd hn.1 (by decide)
        | none =>
          obtain ⟨he, _, h47⟩ := cutTag_eq hc
          exact fin2 rfl ⟨[], [], by rw [he]; exact sRepo_bad h47 hS⟩ rfl
    | false =>
      have ho : offTag (s.take k) = s.take k := by simp [offTag, hc, htg]
      rw [ho] at hS
      have hn := (TagAns.no (o := o) hc htg)
      have hT : sTag o (s.take k) = ([], [], [], false, false) := by simp [sTag, hc, htg]
      have ha0 := ht _ _ _ _ hT
      cases at_ with
      | some y => exact absurd ha0.1 (by decide)
      | none =>
        have := ha r p ok hS
        cases ar with
        | none => exact this
        | some z => exact ⟨this.1, this.2.1, this.2.2, rfl⟩
  | none =>
    have ho : offTag (s.take k) = s.take k := by simp [offTag, hc]
    rw [ho] at hS
    cases hst : o.strict with
    | true =>
      have hT : sTag o (s.take k) = ([], [], [], false, false) := by simp [sTag, hc, hst]
      have ha0 := ht _ _ _ _ hT
      cases at_ with
      | some y => exact absurd ha0.1 (by decide)
      | none =>
        have := ha r p ok hS
        cases ar with
        | none => exact this
        | some z => exact ⟨this.1, this.2.1, this.2.2, rfl⟩
    | false =>
      rw [hst] at hS
      have hT : sTag o (s.take k) = (r, p, tagOr o.tag, ok, false) := by simp [sTag, hc, hst, hS]
      cases ok with
      | true => exact fin ⟨_, hT⟩ rfl
      | false =>
        have hn := key _ hT
        cases at_ with
        | some y => exact absurd hn.1 (by decide)
        | none => exact fin2 rfl ⟨r, p, by rw [hst]; exact hS⟩ rfl
theorem DigAns.no {o : NOpt} {s : Tx} (h : ∀ r p t, sDig o s ≠ (r, p, t, true, false)) : DigAns o s none := by
  intro r p t ok hs
  cases ok with
  | false => rfl
  | true => exact absurd hs (h r p t)
end Go.V
/-
  Names read again, and names made: plain Lean.
-/
namespace Go.V
set_option linter.unusedVariables false
set_option linter.unusedSimpArgs false
set_option maxRecDepth 10000
theorem digGood_no {t : Tx} (h : digGood t = true) : hasB 64 t = false := by
  simp only [digGood, Bool.and_eq_true, decide_eq_true_eq] at h
  obtain ⟨_, h1, h2⟩ := h
  rw [← List.take_append_drop 7 t, hasB_app, h1, allIn_not 64 (sWithin_all h2).1 (by decide)]
  decide
/-- parts that were read -/
theorem sTag_ok {o : NOpt} {s r p t : Tx} (hr : regOk o.reg) (h : sTag o s = (r, p, t, true, false)) : RepoOk r p ∧ hosted r = true ∧ (tagGood t = true ∨ t = tagOr o.tag) := by
  unfold sTag at h
  split at h
  · split at h
    · rename_i hg
      simp only [Prod.mk.injEq] at h
      obtain ⟨h1, h2, rfl, h4, h5⟩ := h
      obtain ⟨g1, g2, _⟩ := sRepo_ok hr (show sRepo o.strict o.reg _ = (r, p, true, false) from Prod.ext h1 (Prod.ext h2 (Prod.ext h4 h5)))
      exact ⟨g1, g2, .inl hg⟩
    · simp at h
  · split at h
    · simp at h
    · simp only [Prod.mk.injEq] at h
      obtain ⟨h1, h2, rfl, h4, h5⟩ := h
      obtain ⟨g1, g2, _⟩ := sRepo_ok hr (show sRepo o.strict o.reg s = (r, p, true, false) from Prod.ext h1 (Prod.ext h2 (Prod.ext h4 h5)))
      exact ⟨g1, g2, .inr rfl⟩
theorem sDig_ok {o : NOpt} {s r p t : Tx} (hr : regOk o.reg) (h : sDig o s = (r, p, t, true, false)) : RepoOk r p ∧ hosted r = true ∧ digGood t = true := by
  unfold sDig at h
  split at h
  · simp at h
  · split at h
    · split at h
      · rename_i hg
        simp only [Prod.mk.injEq, Bool.or_eq_false_iff] at h
        obtain ⟨h1, h2, rfl, h4, h5, _⟩ := h
        obtain ⟨g1, g2, _⟩ := sRepo_ok hr (show sRepo o.strict o.reg _ = (r, p, true, false) from Prod.ext h1 (Prod.ext h2 (Prod.ext h4 h5)))
        exact ⟨g1, g2, hg⟩
      · simp at h
    · simp at h
theorem repo_no {r p : Tx} (h : RepoOk r p) : hasB 64 (repoT r p) = false := by
  unfold repoT
  rw [hasB_app, hasB_app, hostPlain_no 64 h.plain (by decide), (path_no h.chars).2]; decide
theorem sTag_again {b ins : Bool} {r p t : Tx} (h : RepoOk r p) (h2 : hosted r = true) (hl : p.length ≤ 255) (ht : tagGood t = true) : sTag ⟨b, ins, [], []⟩ (repoT r p ++ [58] ++ t) = (r, p, t, true, false) := by
  obtain ⟨t1, t2, _⟩ := tagGood_no ht
  have hc : cutTag (repoT r p ++ [58] ++ t) = some (repoT r p, t) := by rw [List.append_assoc]; exact cutTag_some t1 t2
  unfold sTag
  rw [hc]
  simp only [ht, if_true, sRepo_again h h2 hl]
theorem sDig_again {b ins : Bool} {r p t : Tx} (h : RepoOk r p) (h2 : hosted r = true) (hl : p.length ≤ 255) (ht : digGood t = true) : sDig ⟨b, ins, [], []⟩ (repoT r p ++ [64] ++ t) = (r, p, t, true, false) := by
  have h64 := repo_no h
  have e1 : ix 64 (repoT r p ++ [64] ++ t) = some (repoT r p).length := by rw [List.append_assoc]; exact ix_app h64
  have e2 : lx 64 (repoT r p ++ [64] ++ t) = some (repoT r p).length := by rw [List.append_assoc]; exact lx_app (digGood_no ht)
  have e3 : (repoT r p ++ [64] ++ t).drop ((repoT r p).length + 1) = t := by simp
  have e4 : (repoT r p ++ [64] ++ t).take (repoT r p).length = repoT r p := by rw [List.append_assoc, List.take_left']; rfl
  have e5 : offTag (repoT r p) = repoT r p := by simp [offTag, cutTag_none (path_no h.chars).1]
  unfold sDig
  rw [e1]
  simp only [e2, if_true, e3, ht, e4, e5, sRepo_again h h2 hl]
  simp [hl]
/-- read, what is its name is read as itself, strictly -/
theorem again {o : NOpt} {which k : Int} {s r p id : Tx} (hr : regOk o.reg) (hw : 0 ≤ which ∧ which ≤ 4) (h : sParts o which s = (k, r, p, id, true, false)) (htag : o.tag = []) (hl : p.length ≤ 255) (sch : Bool) (text : Tx) (ins : Bool) :
    1 ≤ k ∧ k ≤ 4 ∧ sParts ⟨true, ins, [], []⟩ k (nmd sch k r p id text).name = (k, r, p, id, true, false) := by
  have hT : ∀ t, sTag o s = (r, p, t, true, false) → sParts ⟨true, ins, [], []⟩ 3 (nmd sch 3 r p t text).name = (3, r, p, t, true, false) := by
    intro t ht
    obtain ⟨g1, g2, g3⟩ := sTag_ok hr ht
    have hg : tagGood t = true := by
      rcases g3 with g | rfl
      · exact g
      · rw [htag]; decide
    have := sTag_again (b := true) (ins := ins) g1 g2 hl hg
    simp [sParts, nmd, List.append_assoc] at this ⊢
    simp [this]
  have hD : ∀ t, sDig o s = (r, p, t, true, false) → sParts ⟨true, ins, [], []⟩ 4 (nmd sch 4 r p t text).name = (4, r, p, t, true, false) := by
    intro t ht
    obtain ⟨g1, g2, g3⟩ := sDig_ok hr ht
    have := sDig_again (b := true) (ins := ins) g1 g2 hl g3
    simp [sParts, nmd, List.append_assoc] at this ⊢
    simp [this]
  unfold sParts at h
  by_cases h1 : which = 1
  · rw [if_pos h1] at h
    simp only [Prod.mk.injEq] at h
    obtain ⟨rfl, e1, rfl, rfl, e2, e3⟩ := h
    obtain ⟨g1, g2, g3, _⟩ := sReg_ok hr (show sReg o.strict o.reg s = (r, true, false) from Prod.ext e1 (Prod.ext e2 e3))
    refine ⟨by decide, by decide, ?_⟩
    simp [sParts, nmd, sReg_again g1 g2 g3]
  rw [if_neg h1] at h
  by_cases h2 : which = 2
  · rw [if_pos h2] at h
    simp only [Prod.mk.injEq] at h
    obtain ⟨rfl, e1, e4, rfl, e2, e3⟩ := h
    obtain ⟨g1, g2, _⟩ := sRepo_ok hr (show sRepo o.strict o.reg s = (r, p, true, false) from Prod.ext e1 (Prod.ext e4 (Prod.ext e2 e3)))
    refine ⟨by decide, by decide, ?_⟩
    simp [sParts, nmd, sRepo_again g1 g2 hl]
  rw [if_neg h2] at h
  by_cases h3 : which = 3
  · rw [if_pos h3] at h
    simp only [Prod.mk.injEq] at h
    obtain ⟨rfl, e1, e2, e3, e4, e5⟩ := h
    exact ⟨by decide, by decide, hT id (Prod.ext e1 (Prod.ext e2 (Prod.ext e3 (Prod.ext e4 e5))))⟩
  rw [if_neg h3] at h
  by_cases h4 : which = 4
  · rw [if_pos h4] at h
    simp only [Prod.mk.injEq] at h
    obtain ⟨rfl, e1, e2, e3, e4, e5⟩ := h
    exact ⟨by decide, by decide, hD id (Prod.ext e1 (Prod.ext e2 (Prod.ext e3 (Prod.ext e4 e5))))⟩
  rw [if_neg h4] at h
  simp only at h
  split at h
  · simp only [Prod.mk.injEq] at h
    obtain ⟨rfl, e1, e2, e3, e4, e5⟩ := h
    exact ⟨by decide, by decide, hD id (Prod.ext e1 (Prod.ext e2 (Prod.ext e3 (Prod.ext e4 e5))))⟩
  · simp only [Prod.mk.injEq] at h
    obtain ⟨rfl, e1, e2, e3, e4, e5⟩ := h
    exact ⟨by decide, by decide, hT id (Prod.ext e1 (Prod.ext e2 (Prod.ext e3 (Prod.ext e4 e5))))⟩
end Go.V
/-
  The runes of a text: plain Lean.
-/
namespace Go.V
set_option linter.unusedVariables false
set_option linter.unusedSimpArgs false
def okRune (r : Nat) : Prop := r < 55296 ∨ (57343 < r ∧ r ≤ 1114111)
theorem cont_big {x : Nat} (h : (x / 64 == 2) = true) : 128 ≤ x := by
  have : x / 64 = 2 := by simpa using h
  omega
theorem ba_size (s : Tx) : (ba s).size = s.length := str_size s
/-- beyond ASCII -/
theorem runeAt_big (s : Tx) (p : Nat) (hp : p < s.length) (h : ¬ (s.getD p 0).toNat < 128) :
    128 ≤ (runeAt s p).1 ∧ okRune (runeAt s p).1 ∧ p + (runeAt s p).2 ≤ s.length ∧ ∀ q, p ≤ q → q < p + (runeAt s p).2 → 128 ≤ (s.getD q 0).toNat := by
  have bad : (128 ≤ 0xFFFD ∧ okRune 0xFFFD ∧ p + 1 ≤ s.length ∧ ∀ q, p ≤ q → q < p + 1 → 128 ≤ (s.getD q 0).toNat) :=
    ⟨by decide, .inr (by decide), by omega, fun q h1 h2 => by obtain rfl : q = p := by omega
                                                              omega⟩
  unfold runeAt Utf8.decode
  simp only [Nat.add_zero, ba_get, ba_size]
  rw [if_neg h]
  split
  · rename_i h2
    simp only [Bool.and_eq_true, decide_eq_true_eq] at h2
    obtain ⟨_, h3, h4⟩ := h2
    have := cont_big h4
    split
    · refine ⟨by simp only; omega, .inl (by simp only; omega), by simp only; omega, fun q q1 q2 => ?_⟩
      simp only at q2
      have : q = p ∨ q = p + 1 := by omega
      rcases this with rfl | rfl <;> omega
    · exact bad
  · split
    · rename_i h2
      simp only [Bool.and_eq_true, decide_eq_true_eq] at h2
      obtain ⟨⟨_, h3, h4⟩, h5, h6⟩ := h2
      have := cont_big h4
      have := cont_big h6
      split
      · rename_i h7
        simp only [Bool.and_eq_true, decide_eq_true_eq, Utf8.valid, Bool.or_eq_true] at h7
        refine ⟨by simp only; omega, ?_, by simp only; omega, fun q q1 q2 => ?_⟩
        · simp only [okRune]; omega
        · simp only at q2
          have : q = p ∨ q = p + 1 ∨ q = p + 2 := by omega
          rcases this with rfl | rfl | rfl <;> omega
      · exact bad
    · split
      · rename_i h2
        simp only [Bool.and_eq_true, decide_eq_true_eq] at h2
        obtain ⟨⟨⟨_, h3, h4⟩, h5, h6⟩, h8, h9⟩ := h2
        have := cont_big h4
        have := cont_big h6
        have := cont_big h9
        split
        · rename_i h7
          simp only [Bool.and_eq_true, decide_eq_true_eq, Utf8.valid, Bool.or_eq_true] at h7
          refine ⟨by simp only; omega, ?_, by simp only; omega, fun q q1 q2 => ?_⟩
          · simp only [okRune]; omega
          · simp only at q2
            have : q = p ∨ q = p + 1 ∨ q = p + 2 ∨ q = p + 3 := by omega
            rcases this with rfl | rfl | rfl | rfl <;> omega
        · exact bad
      · exact bad
/-- the runes from a place on -/
def runesW (s : Tx) (p : Nat) : List Nat := if p < s.length then (runeAt s p).1 :: runesW s (p + (runeAt s p).2) else []
termination_by s.length - p
decreasing_by
  have := runeAt_width s p
  omega
theorem runesW_lt {s : Tx} {p : Nat} (h : p < s.length) : runesW s p = (runeAt s p).1 :: runesW s (p + (runeAt s p).2) := by rw [runesW, if_pos h]
theorem runesW_end {s : Tx} {p : Nat} (h : ¬ p < s.length) : runesW s p = [] := by rw [runesW, if_neg h]
theorem drop_cons {s : Tx} {p : Nat} (h : p < s.length) : s.drop p = s.getD p 0 :: s.drop (p + 1) := by
  rw [List.drop_eq_getElem_cons h]; simp [List.getD_eq_getElem?_getD, h]
/-- one rune: its bytes -/
theorem runes_step {s : Tx} {p : Nat} (hp : p < s.length) : ∃ ys, s.drop p = ys ++ s.drop (p + (runeAt s p).2) ∧ p + (runeAt s p).2 ≤ s.length ∧ okRune (runeAt s p).1 ∧
    ((∃ b : UInt8, ys = [b] ∧ (runeAt s p).1 = b.toNat ∧ b.toNat < 128) ∨ (ys ≠ [] ∧ (∀ y ∈ ys, 128 ≤ y.toNat) ∧ 128 ≤ (runeAt s p).1)) := by
  by_cases h : (s.getD p 0).toNat < 128
  · rw [runeAt_ascii s p h]
    exact ⟨[s.getD p 0], by simpa using drop_cons hp, by simp only; omega, .inl (by simp only; omega), .inl ⟨_, rfl, rfl, h⟩⟩
  · obtain ⟨h1, h2, h3, h4⟩ := runeAt_big s p hp h
    have hw := runeAt_width s p
    refine ⟨(s.drop p).take (runeAt s p).2, ?_, h3, h2, .inr ⟨?_, ?_, h1⟩⟩
    · rw [← List.drop_drop, List.take_append_drop]
    · intro e
      have := congrArg List.length e
      simp at this; omega
    · intro y hy
      obtain ⟨j, hj, rfl⟩ := List.mem_iff_getElem.1 hy
      simp only [List.length_take, List.length_drop] at hj
      have := h4 (p + j) (by omega) (by omega)
      rw [List.getD_eq_getElem?_getD, List.getElem?_eq_getElem (by omega)] at this
      simpa using this
/-- of ASCII characters only -/
def ascii (cs : Tx) : Prop := ∀ c ∈ cs, c.toNat < 128
theorem runes_map {s : Tx} (hs : ascii s) : ∀ (n p : Nat), s.length - p ≤ n → runesW s p = (s.drop p).map UInt8.toNat
  | 0, p, h => by rw [runesW_end (by omega), List.drop_eq_nil_of_le (by omega)]; rfl
  | n + 1, p, h => by
    by_cases hp : p < s.length
    · have hb : (s.getD p 0).toNat < 128 := by
        rw [List.getD_eq_getElem?_getD, List.getElem?_eq_getElem hp]
        exact hs _ (List.getElem_mem hp)
      rw [runesW_lt hp, runeAt_ascii s p hb, runes_map hs n (p + 1) (by omega), drop_cons hp]
      rfl
    · rw [runesW_end hp, List.drop_eq_nil_of_le (by omega)]; rfl
theorem runes0 {s : Tx} (hs : ascii s) : runesW s 0 = s.map UInt8.toNat := by simpa using runes_map hs s.length 0 (by omega)
theorem inCs {cs : Tx} (hc : ascii cs) (r : Nat) : r ∈ runesW cs 0 ↔ ∃ c ∈ cs, c.toNat = r := by
  rw [runes0 hc]; simp
/-- all runes of some characters -/
theorem runes_all {s cs : Tx} (hc : ascii cs) : ∀ (n p : Nat), s.length - p ≤ n → ((runesW s p).all fun r => decide (r ∈ runesW cs 0)) = allIn cs (s.drop p)
  | 0, p, h => by rw [runesW_end (by omega), List.drop_eq_nil_of_le (by omega)]; rfl
  | n + 1, p, h => by
    by_cases hp : p < s.length
    · rw [runesW_lt hp]
      obtain ⟨ys, e, _, _, h3⟩ := runes_step hp
      have hw := runeAt_width s p
      rw [List.all_cons, runes_all hc n (p + (runeAt s p).2) (by omega), e, allIn_app]
      congr 1
      rcases h3 with ⟨b, rfl, hb, hb'⟩ | ⟨h6, h4, h5⟩
      · rw [hb, Bool.eq_iff_iff, decide_eq_true_eq, inCs hc, allIn_mem]
        constructor
        · rintro ⟨c, h1, h2⟩ y hy
          rw [List.mem_singleton] at hy
          subst hy
          rw [← UInt8.toNat_inj.1 h2]; exact h1
        · intro h
          exact ⟨b, h b List.mem_cons_self, rfl⟩
      · have e1 : decide ((runeAt s p).1 ∈ runesW cs 0) = false := decide_eq_false fun hm => by
          obtain ⟨c, h1, h2⟩ := (inCs hc _).1 hm
          have := hc c h1
          omega
        rw [e1]
        cases hys : allIn cs ys with
        | false => rfl
        | true =>
          cases ys with
          | nil => exact absurd rfl h6
          | cons y t =>
            have h7 := allIn_mem.1 hys y List.mem_cons_self
            have h8 := hc y h7
            have h9 := h4 y List.mem_cons_self
            omega
    · rw [runesW_end hp, List.drop_eq_nil_of_le (by omega)]; rfl
theorem allIn_ascii {s cs : Tx} (hc : ascii cs) (h : allIn cs s = true) : ascii s := fun c hm => hc c (allIn_mem.1 h c hm)
/-- as the document's function has it -/
theorem within_eq {s cs : Tx} {a b : Nat} (hc : ascii cs) : (((runesW s 0).all fun r => decide (r ∈ runesW cs 0)) && (decide (a ≤ (runesW s 0).length) && decide ((runesW s 0).length ≤ b))) = sWithin s cs a b := by
  have h := runes_all (s := s) hc s.length 0 (by omega)
  rw [List.drop_zero] at h
  rw [h, sWithin]
  cases ha : allIn cs s with
  | false => rfl
  | true => rw [runes0 (allIn_ascii hc ha), List.length_map]
theorem ascii_hex : ascii hexT := by unfold ascii; decide
end Go.V
