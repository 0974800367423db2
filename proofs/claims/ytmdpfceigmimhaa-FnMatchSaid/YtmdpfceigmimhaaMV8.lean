/-
  What a law is handed, read; a contract carried to a law's row.
-/
import Derived.Test.YtmdpfceigmimhaaMV7
import Derived.Carry
import Derived.ProofKit
import Derived.Below
namespace Go.V
open Go.RowKit Go.ChangeShapes
set_option linter.unusedVariables false
set_option linter.unusedSimpArgs false
/-- a slice, none told apart from an empty one -/
def tNSl {α : Type} (t : Ty α) : Ty (Option (List α)) :=
  ⟨1, fun I cs xs => match xs with
    | none => cs = [.slice none 0 0]
    | some xs => ∃ a c, cs = [.slice (some a) xs.length c] ∧ xs.length ≤ c ∧ (xs = [] ∨ ∃ b off, a = ⟨b, off, none⟩ ∧ RowAt t I b off xs),
   fun {I cs x} h => by
    cases x with
    | none => simp only at h; subst h; rfl
    | some x => obtain ⟨a, c, h, _⟩ := h; subst h; rfl,
   fun {I J cs x} h hle => by
    cases x with
    | none => exact h
    | some x => obtain ⟨a, c, h, h1, h2⟩ := h; exact ⟨a, c, h, h1, h2.imp id fun ⟨b, off, h3, h4⟩ => ⟨b, off, h3, h4.mono hle⟩⟩⟩
/-- shapes of what a law is handed -/
inductive Cd where
  | int (k : IntKind)
  | bool
  | str
  | sl (e : Cd)
  | nsl (e : Cd)
  | st (c : Cd)
  | pair (c r : Cd)
def Cd.ty : Cd → Type
  | .int _ => Int
  | .bool => Bool
  | .str => List UInt8
  | .sl e => List e.ty
  | .nsl e => Option (List e.ty)
  | .st c => c.ty
  | .pair c r => c.ty × r.ty
def Cd.T : (c : Cd) → V.Ty c.ty
  | .int k => tInt k
  | .bool => tBool
  | .str => tStr
  | .sl e => tSl e.T
  | .nsl e => tNSl e.T
  | .st c => c.T
  | .pair c r => tPair c.T r.T
/-- what the readings promise of numbers and lengths -/
def Cd.ok : (c : Cd) → c.ty → Prop
  | .int k, x => (Lit.int k (x : Int)).wf = true
  | .bool, _ => True
  | .str, s => (s : List UInt8).length ≤ maxLen
  | .sl e, xs => let l : List e.ty := xs; l.length ≤ maxLen ∧ ∀ x ∈ l, e.ok x
  | .nsl e, xs => ∀ l : List e.ty, (xs : Option (List e.ty)) = some l → l.length ≤ maxLen ∧ ∀ x ∈ l, e.ok x
  | .st c, x => c.ok x
  | .pair c r, x => c.ok (x : c.ty × r.ty).1 ∧ r.ok (x : c.ty × r.ty).2
def fitsFs (fits : Cd → TypeId → Bool) (size : TypeId → Nat) : Cd → List Field → Nat → Bool
  | .pair c r, f :: fs, off => f.offset == off && fits c f.type && fitsFs fits size r fs (off + size f.type)
  | c, [f], off => f.offset == off && fits c f.type
  | _, _, _ => false
def Cd.fits (P : Program) : Nat → Cd → TypeId → Bool
  | 0, _, _ => false
  | d + 1, c, t => match c, P.underlying t with
    | .int k, some (.int k') => k == k' && P.cellsOf t == 1
    | .bool, some .bool => P.cellsOf t == 1
    | .str, some .string => P.cellsOf t == 1
    | .sl e, some (.slice te) => Cd.fits P d e te && P.cellsOf t == 1
    | .nsl e, some (.slice te) => Cd.fits P d e te && P.cellsOf t == 1
    | .st c, some (.struct fs) => fitsFs (Cd.fits P d) P.cellsOf c fs.toList 0 && c.T.size == P.cellsOf t
    | _, _ => false
/-- the whole heap, as blocks that nobody writes -/
def whole (W : World) : Imm := fun b => W.heap[b]?
theorem cells_spec {W : World} {a : Addr} {m : Nat} {cs : List Value} (h : W.cells? 0 a m = some cs) : cs.length = m ∧ ∀ j v, cs[j]? = some v → W.cell? (a.add j) = some v := by
  simp only [World.cells?, Nat.zero_le, if_true] at h
  have key : ∀ (l : List Nat) (cs : List Value), l.mapM (fun i => W.cell? (a.add i)) = some cs → cs.length = l.length ∧ ∀ (j : Nat) (v : Value), cs[j]? = some v → ∃ i, l[j]? = some i ∧ W.cell? (a.add i) = some v := by
    intro l
    induction l with
    | nil => intro cs h; simp at h; subst h; simp
    | cons i r ih =>
      intro cs h
      simp only [List.mapM_cons, Option.bind_eq_bind, Option.bind_eq_some_iff, Option.pure_def, Option.some.injEq] at h
      obtain ⟨v, hv, vs, hvs, rfl⟩ := h
      obtain ⟨h1, h2⟩ := ih vs hvs
      refine ⟨by simp [h1], ?_⟩
      intro j u hu
      cases j with
      | zero => simp at hu; subst hu; exact ⟨i, rfl, hv⟩
      | succ j => simpa using h2 j u (by simpa using hu)
  obtain ⟨h1, h2⟩ := key _ _ h
  refine ⟨by simpa using h1, ?_⟩
  intro j v hv
  obtain ⟨i, hi, hc⟩ := h2 j v hv
  have : i = j := by
    have hj : j < m := by
      have := (List.getElem?_eq_some_iff.1 hv).1; simp at h1; omega
    simp [hj] at hi; exact hi.symm
  subst this; exact hc
theorem at_whole {W : World} {a : Addr} {vs : List Value} (hs : vs ≠ []) (h : ∀ (j : Nat) v, vs[j]? = some v → W.cell? (a.add j) = some v) : a.spot = none ∧ At (whole W) a.block a.off vs := by
  obtain ⟨v0, r, rfl⟩ := List.exists_cons_of_ne_nil hs
  have h0 := h 0 v0 rfl
  have ha0 : a.add 0 = a := by simp [Addr.add]
  rw [ha0] at h0
  unfold World.cell? at h0
  split at h0
  · rename_i c e f hb
    split at h0
    · cases h0
    · rename_i hsp
      have hspot : a.spot = none := by simpa using hsp
      refine ⟨hspot, c, e, f, hb, ?_⟩
      intro j v hv
      have := h j v hv
      have ha : a = ⟨a.block, a.off, none⟩ := by cases a; simp at hspot; subst hspot; rfl
      rw [ha, add_off, cell_blk hb] at this
      exact this
  · cases h0
theorem Cd.size_pos : ∀ c : Cd, 1 ≤ c.T.size
  | .int _ => Nat.le_refl _
  | .bool => Nat.le_refl _
  | .str => Nat.le_refl _
  | .sl _ => Nat.le_refl _
  | .nsl _ => Nat.le_refl _
  | .st c => Cd.size_pos c
  | .pair c r => by
    have h1 := Cd.size_pos c
    show 1 ≤ c.T.size + r.T.size
    omega
theorem Cd.fits_size {P : Program} : ∀ (d : Nat) (c : Cd) (t : TypeId), Cd.fits P d c t = true → c.T.size = P.cellsOf t
  | 0, _, _, h => by simp [Cd.fits] at h
  | d + 1, c, t, h => by
    simp only [Cd.fits] at h
    split at h <;> simp at h <;> first
      | (have := h.2; simp [Cd.T, tInt, tBool, tStr, tSl, tNSl, this]; done)
      | (simp [Cd.T, tInt, tBool, tStr, tSl, tNSl, h]; done)
      | exact h.2
section
variable {H : Type} {enc : TypeId × Value → H} {P : Program} {W : World}
theorem read_row {e : Cd} {te : TypeId} {a : Addr} {len : Nat} (hsz : e.T.size = P.cellsOf te)
    (hf : ∀ i, i < len → ∃ cs, W.cells? 0 (a.add (i * P.cellsOf te)) (P.cellsOf te) = some cs ∧ ∃ x, e.T.rel (whole W) cs x ∧ e.ok x) :
    ∃ xs : List e.ty, xs.length = len ∧ (∀ x ∈ xs, e.ok x) ∧ (xs = [] ∨ ∃ b off, a = ⟨b, off, none⟩ ∧ RowAt e.T (whole W) b off xs) := by
  have key : ∀ m, m ≤ len → ∃ xs : List e.ty, xs.length = m ∧ (∀ x ∈ xs, e.ok x) ∧ ∀ (i : Nat) x, xs[i]? = some x → ∃ cs, e.T.rel (whole W) cs x ∧ W.cells? 0 (a.add (i * P.cellsOf te)) (P.cellsOf te) = some cs := by
    intro m
    induction m with
    | zero => exact fun _ => ⟨[], rfl, by simp, by simp⟩
    | succ m ih =>
      intro hm
      obtain ⟨xs, h1, h2, h3⟩ := ih (by omega)
      obtain ⟨cs, hcs, x, hx, hok⟩ := hf m (by omega)
      refine ⟨xs ++ [x], by simp [h1], ?_, ?_⟩
      · intro z hz
        rcases List.mem_append.1 hz with hz | hz
        · exact h2 z hz
        · simp at hz; subst hz; exact hok
      · intro i z hz
        by_cases hi : i < m
        · rw [List.getElem?_append_left (by omega)] at hz
          exact h3 i z hz
        · rw [List.getElem?_append_right (by omega), h1] at hz
          have : i = m := by
            have := (List.getElem?_eq_some_iff.1 hz).1; simp at this; omega
          subst this
          simp at hz; subst hz
          exact ⟨cs, hx, hcs⟩
  obtain ⟨xs, h1, h2, h3⟩ := key len (Nat.le_refl _)
  refine ⟨xs, h1, h2, ?_⟩
  cases hxs : xs with
  | nil => exact .inl rfl
  | cons x0 r =>
    right
    have hpos : 1 ≤ P.cellsOf te := by rw [← hsz]; exact Cd.size_pos e
    have hat : ∀ (i : Nat) x, xs[i]? = some x → ∃ cs, e.T.rel (whole W) cs x ∧ (a.add (i * P.cellsOf te)).spot = none ∧ At (whole W) (a.add (i * P.cellsOf te)).block (a.add (i * P.cellsOf te)).off cs := by
      intro i x hx
      obtain ⟨cs, hr, hc⟩ := h3 i x hx
      obtain ⟨hl, hc'⟩ := cells_spec hc
      have hne : cs ≠ [] := fun he => by subst he; simp at hl; omega
      obtain ⟨hs, hA⟩ := at_whole hne hc'
      exact ⟨cs, hr, hs, hA⟩
    obtain ⟨_, _, hs0, _⟩ := hat 0 x0 (by rw [hxs]; rfl)
    rw [Nat.zero_mul, show a.add 0 = a by simp [Addr.add]] at hs0
    have ha : a = ⟨a.block, a.off, none⟩ := by cases a; simp at hs0; subst hs0; rfl
    refine ⟨a.block, a.off, ha, ?_⟩
    rw [← hxs]
    intro i x hx
    obtain ⟨cs, hr, _, hA⟩ := hat i x hx
    refine ⟨cs, hr, ?_⟩
    rw [ha, add_off, ← hsz] at hA
    exact hA
theorem read_fs {d : Nat} (hrec : ∀ c t fuel cs dat, Cd.fits P d c t = true → DataW.trod enc P W 0 (fun _ => true) true fuel t cs = some dat → ∃ x, c.T.rel (whole W) cs x ∧ c.ok x) {fuel : Nat} (cs : List Value) :
    ∀ (c : Cd) (fs : List Field) (off : Nat), fitsFs (Cd.fits P d) P.cellsOf c fs off = true →
      (∀ f, f ∈ fs → ∃ y, DataW.trod enc P W 0 (fun _ => true) true fuel f.type ((cs.drop f.offset).take (P.cellsOf f.type)) = some y) →
      cs.length = off + c.T.size → ∃ x, c.T.rel (whole W) (cs.drop off) x ∧ c.ok x := by
  intro c
  have last : ∀ (c : Cd) (f : Field) (off : Nat), (f.offset == off && Cd.fits P d c f.type) = true →
      (∃ y, DataW.trod enc P W 0 (fun _ => true) true fuel f.type ((cs.drop f.offset).take (P.cellsOf f.type)) = some y) →
      cs.length = off + c.T.size → ∃ x, c.T.rel (whole W) (cs.drop off) x ∧ c.ok x := by
    intro c f off hfit hm hlen
    simp only [Bool.and_eq_true, beq_iff_eq] at hfit
    obtain ⟨ho, hf⟩ := hfit
    obtain ⟨y, hy⟩ := hm
    obtain ⟨x, hx, hok⟩ := hrec c f.type fuel _ y hf hy
    refine ⟨x, ?_, hok⟩
    rw [ho, ← Cd.fits_size d c f.type hf, List.take_of_length_le (by simp; omega)] at hx
    exact hx
  induction c with
  | pair c r _ ihr =>
    intro fs off hfit hm hlen
    cases fs with
    | nil => simp [fitsFs] at hfit
    | cons f fs =>
      simp only [fitsFs, Bool.and_eq_true, beq_iff_eq] at hfit
      obtain ⟨⟨ho, hf⟩, hfs⟩ := hfit
      obtain ⟨y, hy⟩ := hm f List.mem_cons_self
      obtain ⟨x, hx, hok⟩ := hrec c f.type fuel _ y hf hy
      have hsz := Cd.fits_size d c f.type hf
      have hl : cs.length = off + (c.T.size + r.T.size) := hlen
      obtain ⟨y, hy2, hok2⟩ := ihr fs (off + P.cellsOf f.type) hfs (fun f hf => hm f (List.mem_cons_of_mem _ hf)) (by rw [← hsz]; omega)
      refine ⟨(x, y), ⟨(cs.drop off).take c.T.size, cs.drop (off + P.cellsOf f.type), ?_, ?_, hy2⟩, hok, hok2⟩
      · rw [← hsz, ← List.drop_drop, List.take_append_drop]
      · rw [ho, ← hsz] at hx; exact hx
  | _ =>
    intro fs off hfit hm hlen
    cases fs with
    | nil => simp [fitsFs] at hfit
    | cons f fs =>
      cases fs with
      | nil => exact last _ f off (by simpa [fitsFs] using hfit) (hm f List.mem_cons_self) hlen
      | cons _ _ => simp [fitsFs] at hfit
theorem read (d : Nat) : ∀ c t fuel cs dat, Cd.fits P d c t = true → DataW.trod enc P W 0 (fun _ => true) true fuel t cs = some dat → ∃ x, c.T.rel (whole W) cs x ∧ c.ok x := by
  induction d with
  | zero => intro c t fuel cs dat h; simp [Cd.fits] at h
  | succ d ih =>
    intro c t fuel cs dat hfit h
    simp only [Cd.fits] at hfit
    have row : ∀ (e : Cd) (te : TypeId) (a : Addr) (len n : Nat) (elems : List (DataW H × List MemPlace)), Cd.fits P d e te = true → elems.length = len →
        (∀ i, i < len → (W.cells? 0 (a.add (i * P.cellsOf te)) (P.cellsOf te)).bind (DataW.trod enc P W 0 (fun _ => true) true n te) = elems[i]?) →
        ∃ xs : List e.ty, xs.length = len ∧ (∀ x ∈ xs, e.ok x) ∧ (xs = [] ∨ ∃ b off, a = ⟨b, off, none⟩ ∧ RowAt e.T (whole W) b off xs) := by
      intro e te a len n elems hfe hlen hel
      refine read_row (Cd.fits_size d e te hfe) ?_
      intro i hi
      have hi' := hel i hi
      rw [List.getElem?_eq_getElem (by omega)] at hi'
      obtain ⟨cs, hcs, ht⟩ := Option.bind_eq_some_iff.1 hi'
      exact ⟨cs, hcs, ih e te n cs _ hfe ht⟩
    split at hfit
    · rename_i k k' hu
      simp only [Bool.and_eq_true, beq_iff_eq] at hfit
      obtain ⟨rfl, _⟩ := hfit
      obtain ⟨m, rfl, _, hw⟩ := DataW.trod_int hu h
      exact ⟨m, rfl, hw⟩
    · rename_i hu
      obtain ⟨b, rfl, _⟩ := DataW.trod_bool hu h
      exact ⟨b, rfl, trivial⟩
    · rename_i hu
      obtain ⟨s, rfl, _, hs⟩ := DataW.trod_string hu h
      refine ⟨s.data.toList, ?_, ?_⟩
      · show [Value.string s] = [str s.data.toList]
        simp [str]
      · show s.data.toList.length ≤ maxLen
        rw [Array.length_toList]; exact hs
    · rename_i e te hu
      simp only [Bool.and_eq_true, beq_iff_eq] at hfit
      rcases DataW.trod_slice hu h with ⟨rfl, _⟩ | ⟨a, len, cap, elems, rest, n, rfl, rfl, _, _, hlc, hcm, hlen, hel, _⟩
      · refine ⟨([] : List e.ty), ⟨_, rfl, Sl.nil _ _⟩, ?_⟩
        exact ⟨Nat.zero_le _, fun x hx => by cases hx⟩
      · obtain ⟨xs, h1, h2, h3⟩ := row e te a len n elems hfit.1 hlen hel
        refine ⟨xs, ⟨_, rfl, some a, cap, by rw [h1], by rw [h1]; exact hlc, h3.imp id fun ⟨b, off, h4, h5⟩ => ⟨b, off, by rw [h4], h5⟩⟩, ?_⟩
        exact ⟨by rw [h1]; omega, h2⟩
    · rename_i e te hu
      simp only [Bool.and_eq_true, beq_iff_eq] at hfit
      rcases DataW.trod_slice hu h with ⟨rfl, _⟩ | ⟨a, len, cap, elems, rest, n, rfl, rfl, _, _, hlc, hcm, hlen, hel, _⟩
      · exact ⟨(none : Option (List e.ty)), rfl, fun l hl => by cases hl⟩
      · obtain ⟨xs, h1, h2, h3⟩ := row e te a len n elems hfit.1 hlen hel
        refine ⟨(some xs : Option (List e.ty)), ⟨a, cap, by rw [h1], by rw [h1]; exact hlc, h3⟩, ?_⟩
        intro l hl
        cases hl
        exact ⟨by rw [h1]; omega, h2⟩
    · rename_i c fs hu
      simp only [Bool.and_eq_true, beq_iff_eq] at hfit
      obtain ⟨xs, n, rfl, _, hl, hxl, hel⟩ := DataW.trod_struct hu h
      have := read_fs ih (fuel := n) cs c fs.toList 0 hfit.1 (fun f hf => by
        obtain ⟨i, hi⟩ := List.getElem?_of_mem hf
        have hi' := hel i f (by simpa using hi)
        have hlt : i < xs.length := by
          have := (List.getElem?_eq_some_iff.1 hi).1
          simp at this; omega
        rw [List.getElem?_eq_getElem hlt] at hi'
        exact ⟨_, hi'⟩) (by rw [hl, hfit.2]; omega)
      rw [List.drop_zero] at this
      exact this
    · cases hfit
end
/-- a value handed to a law -/
def Val (c : Cd) (I : Imm) (v : Value) (x : c.ty) : Prop :=
  match c, x with
  | .st c, x => ∃ cs, v = .agg cs.toArray ∧ c.T.rel I cs x
  | c, x => c.T.rel I [v] x
theorem read_arg {H : Type} {enc : TypeId × Value → H} {P : Program} {W : World} (d : Nat) {c : Cd} {t : TypeId} {v : Value} {dat : DataW H} {ps : List MemPlace} {r : Reach} {base : Nat} (hf : Cd.fits P (d + 1) c t = true)
    (hv : Value.okWide P W r base t v) (h : DataW.Trod enc P W 0 (fun _ => true) true t v dat ps) : ∃ x, Val c (whole W) v x ∧ c.ok x := by
  obtain ⟨fuel, hr⟩ := h
  obtain ⟨x, hx, hok⟩ := read (d + 1) c t fuel _ _ hf hr
  have flat : (∀ cs, ¬ Cell.okWide P W r base t (.agg cs)) → Cell.okWide P W r base t v → v.cells.toList = [v] := by
    intro h1 h2
    cases v <;> first | rfl | exact absurd h2 (h1 _)
  simp only [Cd.fits] at hf
  split at hf
  case h_6 c fs hu =>
    simp only [Value.okWide, hu] at hv
    obtain ⟨cs, rfl, _⟩ := hv
    exact ⟨x, ⟨cs.toList, by simp, hx⟩, hok⟩
  case h_7 => cases hf
  all_goals
    rename_i hu
    simp only [Value.okWide, hu] at hv
    rw [flat (fun cs hc => by simp [Cell.okWide, hu, Cell.ok] at hc) hv] at hx
    exact ⟨x, hx, hok⟩
/-- a contract over the whole heap, as a row asks it -/
theorem Pure.calls {P : Program} {f : FuncId} {args : List Value} {R : Value → Imm → Prop} {W : World} (h : Pure P f args (whole W) R) :
    Calls P f args.toArray W fun e W' => (∃ v J, e = .returned v ∧ R v J) ∧ Below W.heap.size W W' := by
  refine (h W ⟨fun _ _ h => h, (fun _ _ h => by cases h), (fun _ _ h => by cases h), List.nodup_nil⟩).mono ?_
  rintro e W' ⟨v, J, L, rfl, ⟨rfl, hR⟩, hi⟩
  exact ⟨⟨v, J, rfl, hR⟩, hi.os, hi.tape, hi.output, hi.size, fun k hk => hi.old k hk (by simp)⟩
end Go.V
