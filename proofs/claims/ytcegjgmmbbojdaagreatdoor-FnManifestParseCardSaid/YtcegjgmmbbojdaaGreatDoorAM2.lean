import Derived.Test.YtcegjgmmbbojdaaGreatDoorAM1
import Derived.Carry
import Derived.ProofKit
import Derived.Below
import Derived.Laws.StructEq
import Derived.Great.FillDense
import Derived.Lib.Builder
import Derived.Lib.UnsafeStr
import Derived.MapKept
import Derived.Deep.Quiet
import Derived.StillTail
set_option linter.unusedVariables false
set_option linter.unusedSimpArgs false
namespace Go.V
open Go.RowKit Go.ChangeShapes
def tNSl {α : Type} (t : Ty α) : Ty (Option (List α)) :=
 ⟨1, fun I cs xs => match xs with
  | none => cs = [.slice none 0 0]
  | some xs => ∃ a c, cs = [.slice (some a) xs.length c] /\ xs.length <= c /\ (xs = [] \/ ∃ b off, a = ⟨b, off, none⟩ /\ RowAt t I b off xs),
  fun {I cs x} h => by
   cases x with
   | none => simp only at h; subst h; rfl
   | some x => obtain ⟨a, c, h, _⟩ := h; subst h; rfl,
  fun {I J cs x} h hle => by
   cases x with
   | none => exact h
   | some x => obtain ⟨a, c, h, h1, h2⟩ := h; exact ⟨a, c, h, h1, h2.imp id fun ⟨b, off, h3, h4⟩ => ⟨b, off, h3, h4.mono hle⟩⟩⟩
inductive Cd where
 | int (k : IntKind)
 | bool
 | str
 | sl (e : Cd)
 | nsl (e : Cd)
 | st (c : Cd)
 | pair (c r : Cd)
def Cd.ty : Cd -> Type
 | .int _ => Int
 | .bool => Bool
 | .str => List UInt8
 | .sl e => List e.ty
 | .nsl e => Option (List e.ty)
 | .st c => c.ty
 | .pair c r => c.ty × r.ty
def Cd.T : (c : Cd) -> V.Ty c.ty
 | .int k => tInt k
 | .bool => tBool
 | .str => tStr
 | .sl e => tSl e.T
 | .nsl e => tNSl e.T
 | .st c => c.T
 | .pair c r => tPair c.T r.T
def Cd.ok : (c : Cd) -> c.ty -> Prop
 | .int k, x => (Lit.int k (x : Int)).wf = true
 | .bool, _ => True
 | .str, s => (s : List UInt8).length <= maxLen
 | .sl e, xs => let l : List e.ty := xs; l.length <= maxLen /\ ∀ x ∈ l, e.ok x
 | .nsl e, xs => ∀ l : List e.ty, (xs : Option (List e.ty)) = some l -> l.length <= maxLen /\ ∀ x ∈ l, e.ok x
 | .st c, x => c.ok x
 | .pair c r, x => c.ok (x : c.ty × r.ty).1 /\ r.ok (x : c.ty × r.ty).2
def fitsFs (fits : Cd -> TypeId -> Bool) (size : TypeId -> Nat) : Cd -> List Field -> Nat -> Bool
 | .pair c r, f :: fs, off => f.offset == off && fits c f.type && fitsFs fits size r fs (off + size f.type)
 | c, [f], off => f.offset == off && fits c f.type
 | _, _, _ => false
def Cd.fits (P : Program) : Nat -> Cd -> TypeId -> Bool
 | 0, _, _ => false
 | d + 1, c, t => match c, P.underlying t with
  | .int k, some (.int k') => k == k' && P.cellsOf t == 1
  | .bool, some .bool => P.cellsOf t == 1
  | .str, some .string => P.cellsOf t == 1
  | .sl e, some (.slice te) => Cd.fits P d e te && P.cellsOf t == 1
  | .nsl e, some (.slice te) => Cd.fits P d e te && P.cellsOf t == 1
  | .st c, some (.struct fs) => fitsFs (Cd.fits P d) P.cellsOf c fs.toList 0 && c.T.size == P.cellsOf t
  | _, _ => false
def whole (W : World) : Imm := fun b => W.heap[b]?
theorem cells_spec {W : World} {a : Addr} {m : Nat} {cs : List Value} (h : W.cells? 0 a m = some cs) : cs.length = m /\ ∀ j v, cs[j]? = some v -> W.cell? (a.add j) = some v := by
 simp only [World.cells?, Nat.zero_le, if_true] at h
 have key : ∀ (l : List Nat) (cs : List Value), l.mapM (fun i => W.cell? (a.add i)) = some cs -> cs.length = l.length /\ ∀ (j : Nat) (v : Value), cs[j]? = some v -> ∃ i, l[j]? = some i /\ W.cell? (a.add i) = some v := by
  intro l
  induction l with
  | nil => intro cs h; simp at h; subst h; simp
  | cons i r ih =>
   intro cs h
   simp only [List.mapM_cons, Option.bind_eq_bind, Option.bind_eq_some_iff, Option.pure_def, Option.some.injEq] at h
   obtain ⟨v, hv, vs, hvs, rfl⟩ := h
   obtain ⟨h1, h2⟩ := ih vs hvs
   refine ⟨by simp [h1], ?_⟩
   intro j u hu
   cases j with
   | zero => simp at hu; subst hu; exact ⟨i, rfl, hv⟩
   | succ j => simpa using h2 j u (by simpa using hu)
 obtain ⟨h1, h2⟩ := key _ _ h
 refine ⟨by simpa using h1, ?_⟩
 intro j v hv
 obtain ⟨i, hi, hc⟩ := h2 j v hv
 have : i = j := by
  have hj : j < m := by
   have := (List.getElem?_eq_some_iff.1 hv).1; simp at h1; omega
  simp [hj] at hi; exact hi.symm
 subst this; exact hc
theorem at_whole {W : World} {a : Addr} {vs : List Value} (hs : vs ≠ []) (h : ∀ (j : Nat) v, vs[j]? = some v -> W.cell? (a.add j) = some v) : a.spot = none /\ At (whole W) a.block a.off vs := by
 obtain ⟨v0, r, rfl⟩ := List.exists_cons_of_ne_nil hs
 have h0 := h 0 v0 rfl
 have ha0 : a.add 0 = a := by simp [Addr.add]
 rw [ha0] at h0
 unfold World.cell? at h0
 split at h0
 ·rename_i c e f hb
  split at h0
  ·cases h0
  ·rename_i hsp
   have hspot : a.spot = none := by simpa using hsp
   refine ⟨hspot, c, e, f, hb, ?_⟩
   intro j v hv
   have := h j v hv
   have ha : a = ⟨a.block, a.off, none⟩ := by cases a; simp at hspot; subst hspot; rfl
   rw [ha, add_off, cell_blk hb] at this
   exact this
 ·cases h0
theorem Cd.size_pos : ∀ c : Cd, 1 <= c.T.size
 | .int _ => Nat.le_refl _
 | .bool => Nat.le_refl _
 | .str => Nat.le_refl _
 | .sl _ => Nat.le_refl _
 | .nsl _ => Nat.le_refl _
 | .st c => Cd.size_pos c
 | .pair c r => by
  have h1 := Cd.size_pos c
  show 1 <= c.T.size + r.T.size
  omega
theorem Cd.fits_size {P : Program} : ∀ (d : Nat) (c : Cd) (t : TypeId), Cd.fits P d c t = true -> c.T.size = P.cellsOf t
 | 0, _, _, h => by simp [Cd.fits] at h
 | d + 1, c, t, h => by
  simp only [Cd.fits] at h
  split at h <;> simp at h <;> first
   | (have := h.2; simp [Cd.T, tInt, tBool, tStr, tSl, tNSl, this]; done)
   | (simp [Cd.T, tInt, tBool, tStr, tSl, tNSl, h]; done)
   | exact h.2
section
variable {H : Type} {enc : TypeId × Value -> H} {P : Program} {W : World}
theorem read_row {e : Cd} {te : TypeId} {a : Addr} {len : Nat} (hsz : e.T.size = P.cellsOf te)
  (hf : ∀ i, i < len -> ∃ cs, W.cells? 0 (a.add (i * P.cellsOf te)) (P.cellsOf te) = some cs /\ ∃ x, e.T.rel (whole W) cs x /\ e.ok x) :
  ∃ xs : List e.ty, xs.length = len /\ (∀ x ∈ xs, e.ok x) /\ (xs = [] \/ ∃ b off, a = ⟨b, off, none⟩ /\ RowAt e.T (whole W) b off xs) := by
 have key : ∀ m, m <= len -> ∃ xs : List e.ty, xs.length = m /\ (∀ x ∈ xs, e.ok x) /\ ∀ (i : Nat) x, xs[i]? = some x -> ∃ cs, e.T.rel (whole W) cs x /\ W.cells? 0 (a.add (i * P.cellsOf te)) (P.cellsOf te) = some cs := by
  intro m
  induction m with
  | zero => exact fun _ => ⟨[], rfl, by simp, by simp⟩
  | succ m ih =>
   intro hm
   obtain ⟨xs, h1, h2, h3⟩ := ih (by omega)
   obtain ⟨cs, hcs, x, hx, hok⟩ := hf m (by omega)
   refine ⟨xs ++ [x], by simp [h1], ?_, ?_⟩
   ·intro z hz
    rcases List.mem_append.1 hz with hz | hz
    ·exact h2 z hz
    ·simp at hz; subst hz; exact hok
   ·intro i z hz
    by_cases hi : i < m
    ·rw [List.getElem?_append_left (by omega)] at hz
     exact h3 i z hz
    ·rw [List.getElem?_append_right (by omega), h1] at hz
     have : i = m := by
      have := (List.getElem?_eq_some_iff.1 hz).1; simp at this; omega
     subst this
     simp at hz; subst hz
     exact ⟨cs, hx, hcs⟩
 obtain ⟨xs, h1, h2, h3⟩ := key len (Nat.le_refl _)
 refine ⟨xs, h1, h2, ?_⟩
 cases hxs : xs with
 | nil => exact .inl rfl
 | cons x0 r =>
  right
  have hpos : 1 <= P.cellsOf te := by rw [<- hsz]; exact Cd.size_pos e
  have hat : ∀ (i : Nat) x, xs[i]? = some x -> ∃ cs, e.T.rel (whole W) cs x /\ (a.add (i * P.cellsOf te)).spot = none /\ At (whole W) (a.add (i * P.cellsOf te)).block (a.add (i * P.cellsOf te)).off cs := by
   intro i x hx
   obtain ⟨cs, hr, hc⟩ := h3 i x hx
   obtain ⟨hl, hc'⟩ := cells_spec hc
   have hne : cs ≠ [] := fun he => by subst he; simp at hl; omega
   obtain ⟨hs, hA⟩ := at_whole hne hc'
   exact ⟨cs, hr, hs, hA⟩
  obtain ⟨_, _, hs0, _⟩ := hat 0 x0 (by rw [hxs]; rfl)
  rw [Nat.zero_mul, show a.add 0 = a by simp [Addr.add]] at hs0
  have ha : a = ⟨a.block, a.off, none⟩ := by cases a; simp at hs0; subst hs0; rfl
  refine ⟨a.block, a.off, ha, ?_⟩
  rw [<- hxs]
  intro i x hx
  obtain ⟨cs, hr, _, hA⟩ := hat i x hx
  refine ⟨cs, hr, ?_⟩
  rw [ha, add_off, <- hsz] at hA
  exact hA
theorem read_fs {d : Nat} (hrec : ∀ c t fuel cs dat, Cd.fits P d c t = true -> DataW.trod enc P W 0 (fun _ => true) true fuel t cs = some dat -> ∃ x, c.T.rel (whole W) cs x /\ c.ok x) {fuel : Nat} (cs : List Value) :
  ∀ (c : Cd) (fs : List Field) (off : Nat), fitsFs (Cd.fits P d) P.cellsOf c fs off = true ->
   (∀ f, f ∈ fs -> ∃ y, DataW.trod enc P W 0 (fun _ => true) true fuel f.type ((cs.drop f.offset).take (P.cellsOf f.type)) = some y) ->
   cs.length = off + c.T.size -> ∃ x, c.T.rel (whole W) (cs.drop off) x /\ c.ok x := by
 intro c
 have last : ∀ (c : Cd) (f : Field) (off : Nat), (f.offset == off && Cd.fits P d c f.type) = true ->
   (∃ y, DataW.trod enc P W 0 (fun _ => true) true fuel f.type ((cs.drop f.offset).take (P.cellsOf f.type)) = some y) ->
   cs.length = off + c.T.size -> ∃ x, c.T.rel (whole W) (cs.drop off) x /\ c.ok x := by
  intro c f off hfit hm hlen
  simp only [Bool.and_eq_true, beq_iff_eq] at hfit
  obtain ⟨ho, hf⟩ := hfit
  obtain ⟨y, hy⟩ := hm
  obtain ⟨x, hx, hok⟩ := hrec c f.type fuel _ y hf hy
  refine ⟨x, ?_, hok⟩
  rw [ho, <- Cd.fits_size d c f.type hf, List.take_of_length_le (by simp; omega)] at hx
  exact hx
 induction c with
 | pair c r _ ihr =>
  intro fs off hfit hm hlen
  cases fs with
  | nil => simp [fitsFs] at hfit
  | cons f fs =>
   simp only [fitsFs, Bool.and_eq_true, beq_iff_eq] at hfit
   obtain ⟨⟨ho, hf⟩, hfs⟩ := hfit
   obtain ⟨y, hy⟩ := hm f List.mem_cons_self
   obtain ⟨x, hx, hok⟩ := hrec c f.type fuel _ y hf hy
   have hsz := Cd.fits_size d c f.type hf
   have hl : cs.length = off + (c.T.size + r.T.size) := hlen
   obtain ⟨y, hy2, hok2⟩ := ihr fs (off + P.cellsOf f.type) hfs (fun f hf => hm f (List.mem_cons_of_mem _ hf)) (by rw [<- hsz]; omega)
   refine ⟨(x, y), ⟨(cs.drop off).take c.T.size, cs.drop (off + P.cellsOf f.type), ?_, ?_, hy2⟩, hok, hok2⟩
   ·rw [<- hsz, <- List.drop_drop, List.take_append_drop]
   ·rw [ho, <- hsz] at hx; exact hx
 | _ =>
  intro fs off hfit hm hlen
  cases fs with
  | nil => simp [fitsFs] at hfit
  | cons f fs =>
   cases fs with
   | nil => exact last _ f off (by simpa [fitsFs] using hfit) (hm f List.mem_cons_self) hlen
   | cons _ _ => simp [fitsFs] at hfit
theorem read (d : Nat) : ∀ c t fuel cs dat, Cd.fits P d c t = true -> DataW.trod enc P W 0 (fun _ => true) true fuel t cs = some dat -> ∃ x, c.T.rel (whole W) cs x /\ c.ok x := by
 induction d with
 | zero => intro c t fuel cs dat h; simp [Cd.fits] at h
 | succ d ih =>
  intro c t fuel cs dat hfit h
  simp only [Cd.fits] at hfit
  have row : ∀ (e : Cd) (te : TypeId) (a : Addr) (len n : Nat) (elems : List (DataW H × List MemPlace)), Cd.fits P d e te = true -> elems.length = len ->
    (∀ i, i < len -> (W.cells? 0 (a.add (i * P.cellsOf te)) (P.cellsOf te)).bind (DataW.trod enc P W 0 (fun _ => true) true n te) = elems[i]?) ->
    ∃ xs : List e.ty, xs.length = len /\ (∀ x ∈ xs, e.ok x) /\ (xs = [] \/ ∃ b off, a = ⟨b, off, none⟩ /\ RowAt e.T (whole W) b off xs) := by
   intro e te a len n elems hfe hlen hel
   refine read_row (Cd.fits_size d e te hfe) ?_
   intro i hi
   have hi' := hel i hi
   rw [List.getElem?_eq_getElem (by omega)] at hi'
   obtain ⟨cs, hcs, ht⟩ := Option.bind_eq_some_iff.1 hi'
   exact ⟨cs, hcs, ih e te n cs _ hfe ht⟩
  split at hfit
  ·rename_i k k' hu
   simp only [Bool.and_eq_true, beq_iff_eq] at hfit
   obtain ⟨rfl, _⟩ := hfit
   obtain ⟨m, rfl, _, hw⟩ := DataW.trod_int hu h
   exact ⟨m, rfl, hw⟩
  ·rename_i hu
   obtain ⟨b, rfl, _⟩ := DataW.trod_bool hu h
   exact ⟨b, rfl, trivial⟩
  ·rename_i hu
   obtain ⟨s, rfl, _, hs⟩ := DataW.trod_string hu h
   refine ⟨s.data.toList, ?_, ?_⟩
   ·show [Value.string s] = [str s.data.toList]
    simp [str]
   ·show s.data.toList.length <= maxLen
    rw [Array.length_toList]; exact hs
  ·rename_i e te hu
   simp only [Bool.and_eq_true, beq_iff_eq] at hfit
   rcases DataW.trod_slice hu h with ⟨rfl, _⟩ | ⟨a, len, cap, elems, rest, n, rfl, rfl, _, _, hlc, hcm, hlen, hel, _⟩
   ·refine ⟨([] : List e.ty), ⟨_, rfl, Sl.nil _ _⟩, ?_⟩
    exact ⟨Nat.zero_le _, fun x hx => by cases hx⟩
   ·obtain ⟨xs, h1, h2, h3⟩ := row e te a len n elems hfit.1 hlen hel
    refine ⟨xs, ⟨_, rfl, some a, cap, by rw [h1], by rw [h1]; exact hlc, h3.imp id fun ⟨b, off, h4, h5⟩ => ⟨b, off, by rw [h4], h5⟩⟩, ?_⟩
    exact ⟨by rw [h1]; omega, h2⟩
  ·rename_i e te hu
   simp only [Bool.and_eq_true, beq_iff_eq] at hfit
   rcases DataW.trod_slice hu h with ⟨rfl, _⟩ | ⟨a, len, cap, elems, rest, n, rfl, rfl, _, _, hlc, hcm, hlen, hel, _⟩
   ·exact ⟨(none : Option (List e.ty)), rfl, fun l hl => by cases hl⟩
   ·obtain ⟨xs, h1, h2, h3⟩ := row e te a len n elems hfit.1 hlen hel
    refine ⟨(some xs : Option (List e.ty)), ⟨a, cap, by rw [h1], by rw [h1]; exact hlc, h3⟩, ?_⟩
    intro l hl
    cases hl
    exact ⟨by rw [h1]; omega, h2⟩
  ·rename_i c fs hu
   simp only [Bool.and_eq_true, beq_iff_eq] at hfit
   obtain ⟨xs, n, rfl, _, hl, hxl, hel⟩ := DataW.trod_struct hu h
   have := read_fs ih (fuel := n) cs c fs.toList 0 hfit.1 (fun f hf => by
    obtain ⟨i, hi⟩ := List.getElem?_of_mem hf
    have hi' := hel i f (by simpa using hi)
    have hlt : i < xs.length := by
     have := (List.getElem?_eq_some_iff.1 hi).1
     simp at this; omega
    rw [List.getElem?_eq_getElem hlt] at hi'
    exact ⟨_, hi'⟩) (by rw [hl, hfit.2]; omega)
   rw [List.drop_zero] at this
   exact this
  ·cases hfit
end
def Val (c : Cd) (I : Imm) (v : Value) (x : c.ty) : Prop :=
 match c, x with
 | .st c, x => ∃ cs, v = .agg cs.toArray /\ c.T.rel I cs x
 | c, x => c.T.rel I [v] x
theorem read_arg {H : Type} {enc : TypeId × Value -> H} {P : Program} {W : World} (d : Nat) {c : Cd} {t : TypeId} {v : Value} {dat : DataW H} {ps : List MemPlace} {r : Reach} {base : Nat} (hf : Cd.fits P (d + 1) c t = true)
  (hv : Value.okWide P W r base t v) (h : DataW.Trod enc P W 0 (fun _ => true) true t v dat ps) : ∃ x, Val c (whole W) v x /\ c.ok x := by
 obtain ⟨fuel, hr⟩ := h
 obtain ⟨x, hx, hok⟩ := read (d + 1) c t fuel _ _ hf hr
 have flat : (∀ cs, ¬ Cell.okWide P W r base t (.agg cs)) -> Cell.okWide P W r base t v -> v.cells.toList = [v] := by
  intro h1 h2
  cases v <;> first | rfl | exact absurd h2 (h1 _)
 simp only [Cd.fits] at hf
 split at hf
 case h_6 c fs hu =>
  simp only [Value.okWide, hu] at hv
  obtain ⟨cs, rfl, _⟩ := hv
  exact ⟨x, ⟨cs.toList, by simp, hx⟩, hok⟩
 case h_7 => cases hf
 all_goals
  rename_i hu
  simp only [Value.okWide, hu] at hv
  rw [flat (fun cs hc => by simp [Cell.okWide, hu, Cell.ok] at hc) hv] at hx
  exact ⟨x, hx, hok⟩
theorem Pure.calls {P : Program} {f : FuncId} {args : List Value} {R : Value -> Imm -> Prop} {W : World} (h : Pure P f args (whole W) R) :
  Calls P f args.toArray W fun e W' => (∃ v J, e = .returned v /\ R v J) /\ Below W.heap.size W W' := by
 refine (h W ⟨fun _ _ h => h, (fun _ _ h => by cases h), (fun _ _ h => by cases h), List.nodup_nil⟩).mono ?_
 rintro e W' ⟨v, J, L, rfl, ⟨rfl, hR⟩, hi⟩
 exact ⟨⟨v, J, rfl, hR⟩, hi.os, hi.tape, hi.output, hi.size, fun k hk => hi.old k hk (by simp)⟩
end Go.V
namespace Go.V
open Go.RowKit
section
variable {P : Program} {n : Nat} {C : Cx} {k : List Item} {env : Env} {L : Own} {I : Imm} {ops : Array Oper} {i : Nat} {l : List Oper}
variable {ty : TypeId} {ps : String} {af : Array Edge} {g : Option (Nat × Bool)} {d : Nat}
theorem und_of_run {t : TypeId} {u : TypeDesc} {W : World} (h : (underlying t).run P W = .ok u W) : P.underlying t = some u := by
 cases hu : P.underlying t with
 | none => simp [underlying, hu] at h
 | some v => rw [run_underlying hu] at h; cases h; rfl
theorem run_cellN (T : Tab P) {j b off m : Nat} {vs cs : List Value} {t t' : TypeId} {W : World} (hi : Inv C.w0 C.I0 C.L0 I L W) (hL : L[j]? = some (b, blk cs t')) (ha : T.agg t = some true) (hs : T.size t = some m) (hv : (cs.drop off).take m = vs) (hm : vs.length = m) :
  (loadVar t ⟨b, off, none⟩).run P W = .ok (.agg vs.toArray) W := by
 refine run_loadVarN (T.aggOk ha) (T.sizeOk hs) hm ?_
 intro q v h
 rw [cell_blk (hi.fits.own b _ (List.mem_of_getElem? hL))]
 rw [<- hv, List.getElem?_take] at h
 split at h
 ·simpa using h
 ·cases h
theorem Run.retC (T : Tab P) (j : Nat) {fn : Func} {t b m : Nat} {vs cs : List Value} {rt t' : TypeId} {todo : List Item} (hfn : P.funcs[C.f]? = some fn) (hres : fn.results = #[.cell t rt]) (hp : look env t = some (.pointer (some ⟨b, 0, none⟩)))
  (hL : L[j]? = some (b, blk cs t')) (ha : T.agg rt = some true) (hs : T.size rt = some m) (hv : (cs.drop 0).take m = vs) (hm : vs.length = m) (h : C.R (.agg vs.toArray) I []) : Run P n C (.code .ret :: todo) env L I := by
 intro bb a cs' W hb hk he hi
 have hr : (results fn a.tmps).run P W = .ok (.agg vs.toArray) W := by
  have h1 := run_cellN T hi hL ha hs hv hm
  have hp' : a.tmps[t]?.getD undef = .pointer (some ⟨b, 0, none⟩) := by rw [he.at_ _ _ hp]; rfl
  simp [results, hres, hp', asAddr, h1]
 exact ⟨.returned (.agg vs.toArray), W, _, ⟨_, I, [], rfl, h, hi.weakenL (List.nil_sublist _)⟩, Steps.one step_ret, hb, rfl, he.defers, hk, fn, by simpa [Frame.at, hb] using hfn, hr⟩
theorem Run.retCT (T : Tab P) (j : Nat) {fn : Func} {t u b m : Nat} {x : Value} {vs cs : List Value} {rt t' : TypeId} {todo : List Item} (hfn : P.funcs[C.f]? = some fn) (hres : fn.results = #[.cell t rt, .tmp u]) (hp : look env t = some (.pointer (some ⟨b, 0, none⟩)))
  (hL : L[j]? = some (b, blk cs t')) (ha : T.agg rt = some true) (hs : T.size rt = some m) (hv : (cs.drop 0).take m = vs) (hm : vs.length = m) (hu : look env u = some x) (h : C.R (.tuple #[.agg vs.toArray, x]) I []) : Run P n C (.code .ret :: todo) env L I := by
 intro bb a cs' W hb hk he hi
 have hr : (results fn a.tmps).run P W = .ok (.tuple #[.agg vs.toArray, x]) W := by
  have h1 := run_cellN T hi hL ha hs hv hm
  have hp' : a.tmps.getD t undef = .pointer (some ⟨b, 0, none⟩) := he.getD hp
  rw [results_cell_tmp hres, hp', he.getD hu]
  simp [asAddr, h1]
 exact ⟨.returned (.tuple #[.agg vs.toArray, x]), W, _, ⟨_, I, [], rfl, h, hi.weakenL (List.nil_sublist _)⟩, Steps.one step_ret, hb, rfl, he.defers, hk, fn, by simpa [Frame.at, hb] using hfn, hr⟩
theorem Val.str {v : Value} {x : List UInt8} (h : Val .str I v x) : v = V.str x := by
 have h' : [v] = [V.str x] := h
 simpa using h'
def fillL (pl : List (Nat × Nat)) : List Value -> List (Nat × Value) -> Option (List Value)
 | cs, [] => some cs
 | cs, (i, v) :: r => match pl[i]? with
  | some (off, size) => bif Nat.beq v.cells.toList.length size && Nat.ble (off + size) cs.length then fillL pl (setAt cs off v.cells.toList) r else none
  | none => none
theorem foldl_setAt (off : Nat) : ∀ (l : List Value) (s : Nat) (cs : List Value), off + s + l.length <= cs.length ->
  (l.zipIdx s).foldl (fun (cs : Array Value) (x : Value × Nat) => cs.setIfInBounds (off + x.2) x.1) cs.toArray = (cs.take (off + s) ++ l ++ cs.drop (off + s + l.length)).toArray := by
 intro l s cs h
 have h1 := Great.foldl_set off l s cs.toArray
 apply Array.ext_getElem?
 intro k
 rw [h1.2 k]
 simp only [List.size_toArray, List.getElem?_toArray, List.append_assoc]
 by_cases hk : off + s <= k /\ k < off + s + l.length /\ k < cs.length
 ·rw [if_pos hk, List.getElem?_append_right (by simp; omega), List.getElem?_append_left (by simp; omega)]
  congr 1; simp; omega
 ·rw [if_neg hk]
  by_cases h2 : k < off + s
  ·rw [List.getElem?_append_left (by simp; omega), List.getElem?_take_of_lt h2]
  ·rw [List.getElem?_append_right (by simp; omega)]
   have hmin : min (off + s) cs.length = off + s := by omega
   by_cases h3 : k < off + s + l.length
   ·omega
   ·rw [List.getElem?_append_right (by simp; omega), List.getElem?_drop]
    congr 1; simp; omega
theorem fillL_ok (pl : List (Nat × Nat)) : ∀ (vs : List (Nat × Value)) (cs r : List Value), fillL pl cs vs = some r -> Instr.fill (fun i => pl[i]?) cs.toArray vs = some r.toArray
 | [], cs, r, h => by simp [fillL] at h; subst h; rfl
 | (i, v) :: vs, cs, r, h => by
  simp only [fillL] at h
  split at h
  ·rename_i off size hp
   cases hc : (Nat.beq v.cells.toList.length size && Nat.ble (off + size) cs.length) <;> rw [hc] at h
   ·cases h
   ·simp only [cond_true] at h
    simp only [Bool.and_eq_true, Nat.beq_eq_true_eq, Nat.ble_eq, Array.length_toList] at hc
    obtain ⟨h1, h2⟩ := hc
    have h1' : v.cells.size = size := by first | exact h1 | exact Nat.eq_of_beq_eq_true h1
    simp only [Instr.fill, hp]
    rw [if_neg (by simp; omega)]
    have h3 := foldl_setAt off v.cells.toList 0 cs (by simp; omega)
    simp only [Nat.add_zero] at h3
    rw [<- Array.foldl_toList, Array.toList_zipIdx, h3]
    exact fillL_ok pl vs _ r h
  ·cases h
theorem Ops.buildL {t : TypeId} {xs : List (Nat × Operand)} {vs : List (Nat × Value)} {pl : List (Nat × Nat)} {z : Array Value} {cs : List Value}
  (hb : ∀ w ps cells, Instr.fill (pl[·]?) z ps = some cells -> (Instr.build t ps.toArray).run P w = .ok (.agg cells) w) (hg : want env ops g = some true) (hd : d < n)
  (hx : parts env xs = some vs) (hf : fillL pl z.toList vs = some cs)
  (next : Ops P n C ops (i + 1) l k ((d, .agg cs.toArray) :: env) L I) : Ops P n C ops i (⟨some d, .build t xs.toArray, ty, ps, af, g⟩ :: l) k env L I :=
 Ops.build hb hg hd hx (by simpa using fillL_ok pl vs z.toList cs hf) next
theorem zip_enum : ∀ (ps : List (Nat × Value)) (i : Nat), ps.map Prod.fst = List.range' i ps.length -> ((ps.map Prod.snd).zipIdx i).map (fun x => (x.2, x.1)) = ps
 | [], _, _ => rfl
 | (j, v) :: r, i, h => by
  simp only [List.map_cons, List.length_cons, List.range'_succ, List.cons.injEq] at h
  obtain ⟨rfl, h⟩ := h
  simp only [List.map_cons, List.zipIdx_cons]
  rw [zip_enum r _ h]
theorem Ops.lit {t e : TypeId} {len size : Nat} {xs : List (Nat × Operand)} {ps' : List (Nat × Value)} {z : Value} {cs : List Value} (T : Tab P)
  (hu : T.und t = some (.slice e)) (hz : T.zero e = some z) (hs : T.size e = some size) (hpos : 0 < size) (hg : want env ops g = some true) (hd : d < n)
  (hlen : len * size <= 16777216) (hx : parts env xs = some ps') (hn : ps'.length = len) (hi : ps'.map Prod.fst = List.range' 0 len) (hsz : ps'.all (fun p => p.2.cells.size == size) = true) (hcs : (ps'.map Prod.snd).flatMap (fun v => v.cells.toList) = cs)
  (next : ∀ b, Ops P n C ops (i + 1) l k ((d, .slice (some ⟨b, 0, none⟩) len len) :: env) ((b, blk cs e) :: L) I) : Ops P n C ops i (⟨some d, .buildSlice t len xs.toArray, ty, ps, af, g⟩ :: l) k env L I := by
 subst hn
 refine Ops.buildSlice (T.undOk hu) (T.zeroOk hz) (T.sizeOk hs) hg hd hlen hx ?_ next
 have h := Great.fill_whole hpos (ps'.map Prod.snd) ((Array.range (ps'.length * size)).map (z.cells[· % z.cells.size]!)) ?_ ?_
 ·rw [zip_enum ps' 0 (by simpa using hi), hcs] at h; exact h
 ·intro v hv
  obtain ⟨p, hp, rfl⟩ := List.mem_map.1 hv
  simpa using List.all_eq_true.1 hsz p hp
 ·simp
theorem Sl.ofBlock {α : Type} {t : Ty α} {b cap len : Nat} {cs : List Value} {e : TypeId} {xs : List α} (hb : I b = some (blk cs e)) (hC : Cells t I cs xs) (hn : xs.length = len) (hc : len <= cap) : Sl t I (.slice (some ⟨b, 0, none⟩) len cap) xs := by
 subst hn
 refine ⟨_, _, rfl, hc, .inr ⟨b, 0, rfl, ?_⟩⟩
 obtain ⟨css, rfl, h2, h3⟩ := hC
 intro i x hx
 have hi : i < css.length := by rw [h2]; exact (List.getElem?_eq_some_iff.1 hx).1
 have hc := List.getElem?_eq_getElem hi
 refine ⟨css[i], h3 i x _ hx hc, At.of_block hb ?_⟩
 intro j u hu
 have := flatten_at css t.size (Cells.sizes h2 h3) i _ hc j u hu
 simpa using this
theorem Cells.one1 {α : Type} {t : Ty α} (f : α -> Value) (h : ∀ x, t.rel I [f x] x) : ∀ xs : List α, Cells t I (xs.map f) xs
 | [] => Cells.nil t I
 | x :: r => by
  have := (Cells.one (t := t) (I := I) (h x)).append (Cells.one1 f h r)
  simpa using this
theorem Cells.strs (xs : List (List UInt8)) : Cells tStr I (xs.map str) xs := Cells.one1 str (fun _ => rfl) xs
theorem Cells.cons {α : Type} {t : Ty α} {c cs : List Value} {x : α} {xs : List α} (h : t.rel I c x) (k : Cells t I cs xs) : Cells t I (c ++ cs) (x :: xs) := (Cells.one h).append k
end
end Go.V
namespace Go.V
open Go.RowKit
section
variable {P : Program} {n : Nat} {C : Cx} {k : List Item} {env : Env} {L : Own} {I : Imm} {ops : Array Oper} {i : Nat} {l : List Oper}
variable {ty : TypeId} {ps : String} {af : Array Edge} {g : Option (Nat × Bool)} {d : Nat}
theorem perm_get : ∀ (L : Own) (j : Nat) (x : Nat × Obj), L[j]? = some x -> L.Perm (x :: L.eraseIdx j)
 | [], j, x, h => by simp at h
 | y :: r, 0, x, h => by simp at h; subst h; simp
 | y :: r, j + 1, x, h => by
  have := perm_get r j x (by simpa using h)
  simp only [List.eraseIdx_cons_succ]
  exact ((this.cons y).trans (List.Perm.swap _ _ _))
theorem Run.freezeAt (j : Nat) {b : Nat} {o : Obj} {L' : Own} (hL : L[j]? = some (b, o)) (he : L.eraseIdx j = L') (h : ∀ J, Le I J -> J b = some o -> Run P n C k env L' J) : Run P n C k env L I := by
 subst he; exact Run.perm (perm_get L j _ hL) (Run.freeze h)
theorem Ops.freezeAt (j : Nat) {b : Nat} {o : Obj} {L' : Own} (hL : L[j]? = some (b, o)) (he : L.eraseIdx j = L') (h : ∀ J, Le I J -> J b = some o -> Ops P n C ops i l k env L' J) : Ops P n C ops i l k env L I :=
 fun hl => Run.freezeAt j hL he fun J hle hb => h J hle hb hl
theorem Ops.perm {L' : Own} (hp : L.Perm L') (h : Ops P n C ops i l k env L' I) : Ops P n C ops i l k env L I := fun hl => Run.perm hp (h hl)
theorem Ops.dropL {L' : Own} (hs : L'.Sublist L) (h : Ops P n C ops i l k env L' I) : Ops P n C ops i l k env L I := fun hl => Run.dropL hs (h hl)
theorem Ops.keepGr {α : Type} {t : Ty α} {e : TypeId} {v : Value} {xs : List α} {M N : Own} (hG : Gr t I e v xs M) (hL : L.Perm (M ++ N)) (h : ∀ J, Le I J -> Sl t J v xs -> Ops P n C ops i l k env N J) : Ops P n C ops i l k env L I :=
 fun hl => Run.keepGr hG hL fun J hle hs => h J hle hs hl
theorem At.block {b : Nat} {cs : List Value} {t : TypeId} (h : I b = some (blk cs t)) : At I b 0 cs := ⟨cs.toArray, t, (0, 0), h, fun j v hv => by simpa using hv⟩
theorem At.cellAt {b off : Nat} {vs : List Value} {v : Value} (q : Nat) (h : At I b off vs) (hw : vs[q]? = some v) : At I b (off + q) [v] := by
 obtain ⟨cs, t, fr, h1, h2⟩ := h
 refine ⟨cs, t, fr, h1, fun j u hu => ?_⟩
 cases j with
 | zero => simp at hu; subst hu; exact h2 q _ hw
 | succ j => simp at hu
variable {o : Oper}
theorem RAny.takeD {S : World -> Prop} {listed : List Bool} {fuel : Nat} (j : Nat) {d : Nat} {op : Op} {v : Value} (listed' : List Bool) (hi : ops[j]? = some ⟨some d, op, ty, ps, af, g⟩) (hs : Region.noSelect ops = true) (hf : Region.free .any ops listed.toArray j = true)
  (hr : (Region.ready .any ops listed.toArray).contains j = true) (hl : listed.toArray.setIfInBounds j true = listed'.toArray) (hd : d < n) (hS : ∀ W, Inv C.w0 C.I0 C.L0 I L W -> S W) (hy : Yld P n env ops S ⟨some d, op, ty, ps, af, g⟩ v)
  (h : RAny P n C ops S k fuel listed' ((d, v) :: env) L I) : RAny P n C ops S k (fuel + 1) listed env L I :=
 RAny.take j listed' hi hs hf hr hl (dOk hd) hS hy h
theorem RAny.oneD {S : World -> Prop} {listed : List Bool} {fuel : Nat} (j : Nat) {d : Nat} {op : Op} (listed' : List Bool) (hi : ops[j]? = some ⟨some d, op, ty, ps, af, g⟩) (hr : Region.ready .any ops listed.toArray = [j]) (hl : listed.toArray.setIfInBounds j true = listed'.toArray) (hw : want env ops g = some true) (hd : d < n)
  (h : Eff P n C env L I ⟨some d, op, ty, ps, af, g⟩ fun v L1 I1 => (∀ W, Inv C.w0 C.I0 C.L0 I1 L1 W -> S W) /\ RAny P n C ops S k fuel listed' ((d, v) :: env) L1 I1) : RAny P n C ops S k (fuel + 1) listed env L I := by
 refine RAny.all [j] hr (by simp) fun j' hj => ?_
 obtain rfl : j' = j := by simpa using hj
 refine ⟨_, hi, hw, dOk hd, fun a W he hin => ?_⟩
 rcases h a W he hin with ⟨v, W1, L1, I1, h1, h2, h3, h4⟩ | ⟨f, args, h1, h2⟩
 ·exact .inl ⟨v, W1, L1, I1, h1, h2, h3, listed', hl, h4⟩
 ·exact .inr ⟨f, args, h1, h2.mono fun e W' ⟨v, L1, I1, q1, q2, q3, q4⟩ => ⟨v, L1, I1, q1, q2, q3, listed', hl, q4⟩⟩
theorem Yld.buildL {S : World -> Prop} {t : TypeId} {xs : List (Nat × Operand)} {vs : List (Nat × Value)} {pl : List (Nat × Nat)} {z : Array Value} {cs : List Value}
  (hb : ∀ w ps cells, Instr.fill (pl[·]?) z ps = some cells -> (Instr.build t ps.toArray).run P w = .ok (.agg cells) w) (hg : want env ops g = some true)
  (hx : parts env xs = some vs) (hf : fillL pl z.toList vs = some cs) : Yld P n env ops S ⟨some d, .build t xs.toArray, ty, ps, af, g⟩ (.agg cs.toArray) :=
 Yld.val hg (fun a W he _ => by
  have h := hb W vs cs.toArray (by simpa using fillL_ok pl vs z.toList cs hf)
  rw [<- parts_spec he hx] at h
  simp only [execOp, List.map_toArray, Sem.run_bind]
  have hm : (List.map (fun (x : Nat × Operand) => match x with | (i, x) => (i, a.eval x)) xs) = xs.map (fun (p : Nat × Operand) => (p.1, a.eval p.2)) := rfl
  rw [hm, h]; rfl)
theorem Gr.lit0 {α : Type} (t : Ty α) (I : Imm) (e : TypeId) (b : Nat) : Gr t I e (.slice (some ⟨b, 0, none⟩) 0 0) [] [(b, blk [] e)] :=
 ⟨[], ⟨by simp, .inr ⟨b, 0, #[], rfl, rfl, Nat.le_refl _, by simp, by simp⟩⟩, Cells.nil t I⟩
theorem Ops.appOne {α : Type} {t : Ty α} {y : α} {s x : Operand} {ts e : TypeId} {bytes b : Nat} {M N : Own} {v : Value} {xs : List α} {news : List Value} (hE : Elem P ts e t.size bytes) (hG : Gr t I e v xs M) (hr : t.rel I news y) (hg : want env ops g = some true) (hd : d < n)
  (hs : opnd env s = some v) (hx : opnd env x = some (.slice (some ⟨b, 0, none⟩) 1 1)) (hL : L = (b, blk news e) :: (N ++ M)) (h1 : one news = true)
  (hbytes : (2 * (xs.length + 1) + 512) * bytes <= 281474976710656) (h63 : xs.length + 1 <= 4611686018427387904)
  (next : ∀ v' M', Gr t I e v' (xs ++ [y]) M' -> Ops P n C ops (i + 1) l k ((d, v') :: env) (N ++ M') I) :
  Ops P n C ops i (⟨some d, .call ⟨.builtin .append, #[s, x], #[ts, ts]⟩, ty, ps, af, g⟩ :: l) k env L I := by
 subst hL
 refine Ops.perm (List.Perm.cons _ List.perm_append_comm) ?_
 exact Ops.appendOne hE hG hr hg hd hs hx rfl h1 hbytes h63 fun v' M' h => Ops.perm List.perm_append_comm (next v' M' h)
theorem Run.keepG {α : Type} {t : Ty α} {e : TypeId} {v : Value} {xs : List α} {M N : Own} (hG : Gr t I e v xs M) (hL : L = N ++ M) (h : ∀ J, Le I J -> Sl t J v xs -> Run P n C k env N J) : Run P n C k env L I :=
 Run.keepGr hG (by subst hL; exact List.perm_append_comm) h
theorem Ops.callN {f : FuncId} {xs : List Operand} {ats : Array TypeId} {vs : List Value} {R : Value -> Imm -> Own -> Prop} (hs : Spec P f vs I [] R) (hg : want env ops g = some true) (hd : d < n) (hc : ∀ args w, (callFunc f args).run P w = .ok (.enter f args) w)
  (hx : opnds env xs = some vs) (next : ∀ v J M, Le I J -> R v J M -> Ops P n C ops (i + 1) l k ((d, v) :: env) (L ++ M) J) :
  Ops P n C ops i (⟨some d, .call ⟨.value (.func f), xs.toArray, ats⟩, ty, ps, af, g⟩ :: l) k env L I :=
 Ops.callM (N := L) hs (.refl _) hg hd hc hx fun v J M hle hR => Ops.perm List.perm_append_comm (next v J M hle hR)
theorem RAny.oneS {S : World -> Prop} {listed : List Bool} {fuel : Nat} (j : Nat) {op : Op} (listed' : List Bool) (hi : ops[j]? = some ⟨none, op, ty, ps, af, g⟩) (hr : Region.ready .any ops listed.toArray = [j]) (hl : listed.toArray.setIfInBounds j true = listed'.toArray) (hw : want env ops g = some true)
  (h : Eff P n C env L I ⟨none, op, ty, ps, af, g⟩ fun v L1 I1 => (∀ W, Inv C.w0 C.I0 C.L0 I1 L1 W -> S W) /\ RAny P n C ops S k fuel listed' env L1 I1) : RAny P n C ops S k (fuel + 1) listed env L I := by
 refine RAny.all [j] hr (by simp) fun j' hj => ?_
 obtain rfl : j' = j := by simpa using hj
 refine ⟨_, hi, hw, dNo, fun a W he hin => ?_⟩
 rcases h a W he hin with ⟨v, W1, L1, I1, h1, h2, h3, h4⟩ | ⟨f, args, h1, h2⟩
 ·exact .inl ⟨v, W1, L1, I1, h1, h2, h3, listed', hl, h4⟩
 ·exact .inr ⟨f, args, h1, h2.mono fun e W' ⟨v, L1, I1, q1, q2, q3, q4⟩ => ⟨v, L1, I1, q1, q2, q3, listed', hl, q4⟩⟩
theorem Yld.indexSl {S : World -> Prop} {α : Type} {t : Ty α} {x ix : Operand} {kd : IntKind} {j : Int} {ts e : TypeId} {A : Option Addr} {len c b off : Nat} (T : Tab P) (hg : want env ops g = some true) (hx : opnd env x = some (.slice A len c)) (hA : A = some ⟨b, off, none⟩) (hi : opnd env ix = some (.int kd j))
  (hu : T.und ts = some (.slice e)) (hz : T.size e = some t.size) (h0 : 0 <= j) (h1 : j < len) : Yld P n env ops S ⟨some d, .indexAddr ts x ix, ty, ps, af, g⟩ (.pointer (some ⟨b, off + j.toNat * t.size, none⟩)) :=
 Yld.val hg (fun a W he _ => by
  subst hA
  simp [execOp, Instr.indexAt, eval_opnd he hx, eval_opnd he hi, asIntOf, T.undOk hu, T.sizeOk hz, h0, h1, add_off])
theorem Ops.appMany {α : Type} {t : Ty α} {ys : List α} {s x : Operand} {ts e : TypeId} {bytes b q c : Nat} {M N : Own} {v : Value} {xs : List α} {news : List Value} (hE : Elem P ts e t.size bytes) (hG : Gr t I e v xs M) (hC : Cells t I news ys) (hq : ys.length = q) (hg : want env ops g = some true) (hd : d < n)
  (hs : opnd env s = some v) (hx : opnd env x = some (.slice (some ⟨b, 0, none⟩) q c)) (hL : L = (b, blk news e) :: (N ++ M)) (h1 : one news = true)
  (hbytes : (2 * (xs.length + q) + 512) * bytes <= 281474976710656) (h63 : xs.length + q <= 4611686018427387904)
  (next : ∀ v' M', Gr t I e v' (xs ++ ys) M' -> Ops P n C ops (i + 1) l k ((d, v') :: env) (N ++ M') I) :
  Ops P n C ops i (⟨some d, .call ⟨.builtin .append, #[s, x], #[ts, ts]⟩, ty, ps, af, g⟩ :: l) k env L I := by
 subst hL
 obtain ⟨cs, hG1, hC1⟩ := hG
 have hlen : news.length = q * t.size := by
  obtain ⟨css, rfl, h2, h3⟩ := hC
  have hs := Cells.sizes h2 h3
  rw [<- hq, <- h2]
  clear h2 h3 hx hq h1
  induction css with
  | nil => simp
  | cons c r ih => simp only [List.flatten_cons, List.length_append, List.length_cons, Nat.add_mul, Nat.one_mul]; rw [ih (fun c hc => hs c (List.mem_cons_of_mem _ hc)), hs c List.mem_cons_self]; omega
 refine Ops.perm (List.Perm.cons _ List.perm_append_comm) ?_
 exact Ops.appendLit hE hg hd hs hx rfl hG1 hlen h1 hbytes h63 fun v' M' h => Ops.perm List.perm_append_comm (next v' M' ⟨cs ++ news, by rw [List.length_append, hq]; exact h, hC1.append hC⟩)
end
end Go.V
namespace Go.V
open Go.RowKit
def tU8 : Ty UInt8 := ⟨1, fun _ cs x => cs = [.int .u8 (x.toNat : Int)], fun h => by subst h; rfl, fun h _ => h⟩
section
variable {P : Program} {n : Nat} {C : Cx} {k : List Item} {env : Env} {L : Own} {I : Imm} {ops : Array Oper} {i : Nat} {l : List Oper}
variable {ty : TypeId} {ps : String} {af : Array Edge} {g : Option (Nat × Bool)} {d : Nat}
theorem Cells.bytes_eq {cs : List Value} {xs : List UInt8} (h : Cells tU8 I cs xs) : cs = xs.map fun b => Value.int .u8 (b.toNat : Int) := by
 obtain ⟨css, rfl, h2, h3⟩ := h
 induction css generalizing xs with
 | nil => cases xs with
  | nil => rfl
  | cons x r => simp at h2
 | cons c css ih => cases xs with
  | nil => simp at h2
  | cons x r =>
   have h0 : c = [Value.int .u8 (x.toNat : Int)] := h3 0 x c rfl rfl
   subst h0
   have := ih (xs := r) (by simpa using h2) (fun i y d hy hd => h3 (i + 1) y d (by simpa using hy) (by simpa using hd))
   simp [this]
theorem Cells.flat_len {α : Type} {t : Ty α} {cs : List Value} {xs : List α} (h : Cells t I cs xs) : cs.length = xs.length * t.size := by
 obtain ⟨css, rfl, h2, h3⟩ := h
 have hs := Cells.sizes h2 h3
 rw [<- h2]
 clear h2 h3
 induction css with
 | nil => simp
 | cons c r ih => simp only [List.flatten_cons, List.length_append, List.length_cons, Nat.add_mul, Nat.one_mul]; rw [ih (fun c hc => hs c (List.mem_cons_of_mem _ hc)), hs c List.mem_cons_self]; omega
theorem RowAt.cells {α : Type} {t : Ty α} {b : Nat} : ∀ {ys : List α} {off : Nat}, RowAt t I b off ys -> ∃ cs, Cells t I cs ys /\ (ys = [] \/ At I b off cs)
 | [], off, _ => ⟨[], Cells.nil t I, .inl rfl⟩
 | y :: r, off, h => by
  obtain ⟨c0, hr0, hA0⟩ := h 0 y rfl
  have hrest : RowAt t I b (off + t.size) r := by
   intro i x hx
   obtain ⟨cs, h1, h2⟩ := h (i + 1) x (by simpa using hx)
   exact ⟨cs, h1, by rw [Nat.add_mul, Nat.one_mul] at h2; rw [Nat.add_assoc, Nat.add_comm t.size]; exact h2⟩
  obtain ⟨cs, hC, hA⟩ := RowAt.cells hrest
  refine ⟨c0 ++ cs, Cells.cons hr0 hC, .inr ?_⟩
  have hl0 := t.len hr0
  obtain ⟨cc, tt, fr, hb, hv⟩ := hA0
  refine ⟨cc, tt, fr, hb, fun j v hj => ?_⟩
  by_cases hlt : j < c0.length
  ·rw [List.getElem?_append_left hlt] at hj
   simpa using hv j v hj
  ·rw [List.getElem?_append_right (by omega)] at hj
   rcases hA with rfl | ⟨cc', tt', fr', hb', hv'⟩
   ·obtain ⟨css, rfl, h2, _⟩ := hC
    have : css = [] := List.eq_nil_of_length_eq_zero (by simpa using h2)
    subst this
    simp at hj
   ·rw [hb] at hb'; cases hb'
    have := hv' _ v hj
    rw [show off + t.size + (j - c0.length) = off + j by omega] at this
    exact this
theorem Ops.appSl {α : Type} {t : Ty α} {s x : Operand} {ts e : TypeId} {bytes : Nat} {M N : Own} {v w : Value} {xs ys : List α} (hE : Elem P ts e t.size bytes) (hG : Gr t I e v xs M) (hS : Sl t I w ys) (hone : ∀ cs, Cells t I cs ys -> one cs = true) (hg : want env ops g = some true) (hd : d < n)
  (hs : opnd env s = some v) (hx : opnd env x = some w) (hL : L = N ++ M) (hbytes : (2 * (xs.length + ys.length) + 512) * bytes <= 281474976710656) (h63 : xs.length + ys.length <= 4611686018427387904)
  (next : ∀ v' M', Gr t I e v' (xs ++ ys) M' -> Ops P n C ops (i + 1) l k ((d, v') :: env) (N ++ M') I) :
  Ops P n C ops i (⟨some d, .call ⟨.builtin .append, #[s, x], #[ts, ts]⟩, ty, ps, af, g⟩ :: l) k env L I := by
 subst hL
 obtain ⟨cs, hG1, hC1⟩ := hG
 obtain ⟨A, c, rfl, hc, hrow⟩ := hS
 have key : ∃ news, Cells t I news ys /\ (∀ W, Inv C.w0 C.I0 C.L0 I (M ++ N) W -> Src P t.size ts (.slice A ys.length c) ys.length news W) := by
  rcases hrow with rfl | ⟨b, off, rfl, hrow⟩
  ·refine ⟨[], Cells.nil t I, fun W hi => ?_⟩
   cases A with
   | none => exact Src.ofNil W hE.under c
   | some a => exact Src.ofSlice W hE.under a 0 c [] (by simp) (fun j u hu => by simp at hu) (fun u hu => by cases hu)
  ·obtain ⟨news, hC, hA⟩ := hrow.cells
   refine ⟨news, hC, fun W hi => ?_⟩
   rcases hA with rfl | hA
   ·have h0 : news = [] := List.eq_nil_of_length_eq_zero (by rw [hC.flat_len]; simp)
    subst h0
    exact Src.ofSlice W hE.under ⟨b, off, none⟩ 0 c [] (by simp) (fun j u hu => by simp at hu) (fun u hu => by cases hu)
   ·exact Src.ofSlice W hE.under ⟨b, off, none⟩ ys.length c news hC.flat_len (fun j u hu => by rw [add_off]; exact hA.cell hi j u hu) (one_spec (hone _ hC))
 obtain ⟨news, hC, hsrc⟩ := key
 refine Ops.perm List.perm_append_comm ?_
 exact Ops.append hE hg hd hs hx (.refl _) hG1 hsrc hbytes h63 fun v' M' h => Ops.perm List.perm_append_comm (next v' M' ⟨cs ++ news, by rw [List.length_append]; exact h, hC1.append hC⟩)
theorem Yld.lenV {S : World -> Prop} {x : Operand} {A : Option Addr} {m c : Nat} {ts e : TypeId} (T : Tab P) (hg : want env ops g = some true) (hx : opnd env x = some (.slice A m c)) (hu : T.und ts = some (.slice e)) : Yld P n env ops S ⟨some d, .call ⟨.builtin .len, #[x], #[ts]⟩, ty, ps, af, g⟩ (.int .i64 m) :=
 Yld.val hg (fun a W he _ => by simp [execOp, resolve, Go.invoke, builtin, Builtin.len_, eval_opnd he hx, T.undOk hu, goInt])
variable {K : Value -> Own -> Imm -> Prop}
end
end Go.V
namespace Go.V
open Go.RowKit
section
variable {P : Program} {n : Nat} {C : Cx} {k : List Item} {env : Env} {L : Own} {I : Imm} {ops : Array Oper} {i : Nat} {l : List Oper}
variable {ty : TypeId} {ps : String} {af : Array Edge} {g : Option (Nat × Bool)} {d : Nat}
theorem Run.piece {x : Code} (Φ : Env -> Own -> Imm -> Prop) (h : ∀ k', (∀ env' L' I', Φ env' L' I' -> Run P n C k' env' L' I') -> Run P n C (.code x :: k') env L I)
  (next : ∀ env' L' I', Φ env' L' I' -> Run P n C k env' L' I') : Run P n C (.code x :: k) env L I := h k next
theorem Ops.callP {f : FuncId} {xs : List Operand} {ats : Array TypeId} {vs : List Value} {M N : Own} {R : Value -> Imm -> Own -> Prop} (hs : Spec P f vs I M R) (hL : L.Perm (N ++ M)) (hg : want env ops g = some true) (hd : d < n) (hc : ∀ args w, (callFunc f args).run P w = .ok (.enter f args) w)
  (hx : opnds env xs = some vs) (next : ∀ v J M', Le I J -> R v J M' -> Ops P n C ops (i + 1) l k ((d, v) :: env) (N ++ M') J) :
  Ops P n C ops i (⟨some d, .call ⟨.value (.func f), xs.toArray, ats⟩, ty, ps, af, g⟩ :: l) k env L I :=
 Ops.callM (N := N) hs (hL.trans List.perm_append_comm) hg hd hc hx fun v J M hle hR => Ops.perm List.perm_append_comm (next v J M hle hR)
def wantU (env : Env) (ops : Array Oper) : Option (Nat × Bool) -> Bool
 | some (j, _) => match (ops[j]?).bind (·.dst) with
  | some d => match look env d with
   | some (.tuple vs) => vs.toList.isEmpty
   | _ => false
  | none => false
 | none => false
theorem Ops.offW {o : Oper} (hw : ∀ a, EnvOk n env a -> Region.wanted o (yielded ops a.tmps) = false) (hd : ∀ t, o.dst = some t -> t < n)
  (next : Ops P n C ops (i + 1) l k (V.put env o.dst undef) L I) : Ops P n C ops i (o :: l) k env L I := by
 intro hl
 obtain ⟨ho, hl'⟩ := Ops.head hl
 intro b a cs W hb hk he hi
 have hw' := hw a he
 have hs := step_op_skip (P := P) (b := b) (a := a) (k := k) (cs := cs) (w := W) (ops := ops) (i := i) (rest := List.range' (i + 1) l.length) (by simp [ho, hw'])
 simp only [ho, Option.bind_some] at hs
 obtain ⟨e, W', fr, h1, h2, h3⟩ := next hl' b _ cs W hb hk (he.put hd) hi
 refine ⟨e, W', fr, h1, Comes.of_steps (.one ?_) h2, h3⟩
 simpa [List.range'_succ] using hs
theorem wantU_spec {o : Oper} {a : Act} (he : EnvOk n env a) (h : wantU env ops o.guard = true) : Region.wanted o (yielded ops a.tmps) = false := by
 unfold wantU at h
 split at h
 ·rename_i j b hg
  split at h
  ·rename_i d hd
   split at h
   ·rename_i vs hv
    simp only [Region.wanted, hg, yielded, hd, Option.bind_some, he.at_ _ _ hv]
    rfl
   ·cases h
  ·cases h
 ·cases h
theorem Ops.notU {op : Op} (hg : wantU env ops g = true) (hd : d < n) (next : Ops P n C ops (i + 1) l k ((d, undef) :: env) L I) : Ops P n C ops i (⟨some d, op, ty, ps, af, g⟩ :: l) k env L I :=
 Ops.offW (fun a he => wantU_spec he hg) (dOk hd) next
theorem Run.le (h : ∀ J, Le I J -> J = I -> Run P n C k env L J) : Run P n C k env L I := h I (Le.refl I) rfl
theorem Sl.isSl {α : Type} {t : Ty α} {v : Value} {xs : List α} (h : Sl t I v xs) : ∃ A c, v = .slice A xs.length c := let ⟨A, c, h, _⟩ := h; ⟨A, c, h⟩
theorem Gr.isSl {α : Type} {t : Ty α} {e : TypeId} {v : Value} {xs : List α} {M : Own} (h : Gr t I e v xs M) : ∃ A c, v = .slice A xs.length c := by
 rcases h.sl with ⟨h1, h2⟩ | ⟨b, c, h⟩
 ·exact ⟨none, 0, by rw [h1, h2]; rfl⟩
 ·exact ⟨_, _, h⟩
theorem Cells.one_of {α : Type} {t : Ty α} (h : ∀ cs x, t.rel I cs x -> V.one cs = true) {cs : List Value} {xs : List α} (hC : Cells t I cs xs) : V.one cs = true := by
 obtain ⟨css, rfl, h2, h3⟩ := hC
 have hall : ∀ c ∈ css, V.one c = true := by
  intro c hc
  obtain ⟨i, hi⟩ := List.getElem?_of_mem hc
  have hlt : i < xs.length := by rw [<- h2]; exact (List.getElem?_eq_some_iff.1 hi).1
  exact h c _ (h3 i _ c (List.getElem?_eq_getElem hlt) hi)
 clear h2 h3
 induction css with
 | nil => rfl
 | cons c r ih =>
  have h1 := hall c List.mem_cons_self
  have h2 := ih (fun d hd => hall d (List.mem_cons_of_mem _ hd))
  unfold V.one at *
  simp only [List.flatten_cons, List.all_append, Bool.and_eq_true]
  exact ⟨h1, h2⟩
theorem Cells.one_str {cs : List Value} {xs : List (List UInt8)} (hC : Cells tStr I cs xs) : V.one cs = true := hC.one_of fun cs x h => by
 obtain rfl : cs = [str x] := h
 rfl
end
end Go.V
namespace Go.V
open Go.RowKit Go.MapKept
abbrev KV := List (List UInt8 × Value)
def Mp (o : Obj) (l : KV) : Prop := ∃ es clock, o = .map es clock /\ es.toList.map (fun e => (e.key, e.val)) = l.map (fun p => (str p.1, p.2)) /\ (es.toList.map (·.born)).Nodup /\ ∀ e ∈ es.toList, e.born < clock
theorem modify_born (k v : Value) : ∀ (l : List MapEntry) (j : Nat), (l.modify j fun e => { e with key := k, val := v }).map (·.born) = l.map (·.born)
 | [], j => by cases j <;> rfl
 | e :: l, 0 => rfl
 | e :: l, j + 1 => by
  rw [List.modify_succ_cons, List.map_cons, List.map_cons, modify_born k v l j]
def mget (k : List UInt8) : KV -> Option Value
 | [] => none
 | (k', v) :: r => if k' = k then some v else mget k r
def mset (k : List UInt8) (v : Value) : KV -> KV
 | [] => [(k, v)]
 | (k', v') :: r => if k' = k then (k, v) :: r else (k', v') :: mset k v r
def midx (k : List UInt8) : KV -> Option (Nat × Value)
 | [] => none
 | (k', v) :: r => if k' = k then some (0, v) else (midx k r).map fun p => (p.1 + 1, p.2)
theorem midx_get (k : List UInt8) : ∀ l, (midx k l).map (·.2) = mget k l
 | [] => rfl
 | (k', v) :: r => by
  simp only [midx, mget]
  split
  ·rfl
  ·rw [<- midx_get k r]; cases midx k r <;> rfl
theorem sameNow_str (a b : List UInt8) : Instr.sameNow .string (str a) (str b) = some (decide (b = a)) := by
 show some ((⟨a.toArray⟩ : ByteArray) == ⟨b.toArray⟩) = _
 rw [beq_toListBytes, str_toList, str_toList]
 congr 1
 by_cases h : a = b
 ·subst h; simp
 ·have h' : ¬ b = a := fun e => h e.symm
  simp [h, h']
theorem findNow_str (k : List UInt8) : ∀ (es : List MapEntry) (l : KV) (i : Nat), es.map (fun e => (e.key, e.val)) = l.map (fun p => (str p.1, p.2)) -> Instr.findNow .string (str k) es i = some ((midx k l).map fun p => (i + p.1, p.2))
 | [], l, i, h => by
  have : l = [] := List.map_eq_nil_iff.1 h.symm
  subst this; rfl
 | e :: es, l, i, h => by
  cases l with
  | nil => simp at h
  | cons p r =>
   simp only [List.map_cons, List.cons.injEq, Prod.mk.injEq] at h
   obtain ⟨⟨h1, h2⟩, h3⟩ := h
   simp only [Instr.findNow, h1, sameNow_str, midx]
   by_cases hk : p.1 = k
   ·rw [if_pos hk, decide_eq_true hk]
    simp only [Option.map_some, h2, Nat.add_zero]
   ·rw [if_neg hk, decide_eq_false hk]
    simp only
    rw [findNow_str k es r (i + 1) h3]
    cases midx k r with
    | none => rfl
    | some q => simp; omega
theorem mset_none (k : List UInt8) (v : Value) : ∀ l, midx k l = none -> mset k v l = l ++ [(k, v)]
 | [], _ => rfl
 | (k', v') :: r, h => by
  simp only [midx] at h
  split at h
  ·cases h
  ·rename_i hk
   have : midx k r = none := by
    cases hm : midx k r with
    | none => rfl
    | some q => rw [hm] at h; cases h
   simp [mset, hk, mset_none k v r this]
theorem mset_some (k : List UInt8) (v : Value) : ∀ (es : List MapEntry) (l : KV) (j : Nat) (u : Value), es.map (fun e => (e.key, e.val)) = l.map (fun p => (str p.1, p.2)) -> midx k l = some (j, u) ->
  (es.modify j fun e => { e with key := str k, val := v }).map (fun e => (e.key, e.val)) = (mset k v l).map (fun p => (str p.1, p.2))
 | [], l, j, u, h, hm => by
  have : l = [] := List.map_eq_nil_iff.1 h.symm
  subst this; cases hm
 | e :: es, l, j, u, h, hm => by
  cases l with
  | nil => simp at h
  | cons p r =>
   obtain ⟨k', v'⟩ := p
   simp only [List.map_cons, List.cons.injEq, Prod.mk.injEq] at h
   obtain ⟨⟨h1, h2⟩, h3⟩ := h
   simp only [midx] at hm
   by_cases hk : k' = k
   ·rw [if_pos hk] at hm
    simp only [Option.some.injEq, Prod.mk.injEq] at hm
    obtain ⟨rfl, _⟩ := hm
    simp [mset, hk, h3]
   ·rw [if_neg hk] at hm
    cases hq : midx k r with
    | none => rw [hq] at hm; cases hm
    | some q =>
     rw [hq] at hm
     simp only [Option.map_some, Option.some.injEq, Prod.mk.injEq] at hm
     obtain ⟨rfl, hu⟩ := hm
     have := mset_some k v es r q.1 q.2 h3 hq
     simp [mset, hk, h1, h2, this]
theorem midx_key (k : List UInt8) : ∀ (es : List MapEntry) (l : KV) (j : Nat) (u : Value), es.map (fun e => (e.key, e.val)) = l.map (fun p => (str p.1, p.2)) -> midx k l = some (j, u) -> (es[j]?).map (·.key) = some (str k)
 | [], l, j, u, h, hm => by
  have : l = [] := List.map_eq_nil_iff.1 h.symm
  subst this; cases hm
 | e :: es, l, j, u, h, hm => by
  cases l with
  | nil => simp at h
  | cons p r =>
   obtain ⟨k', v'⟩ := p
   simp only [List.map_cons, List.cons.injEq, Prod.mk.injEq] at h
   obtain ⟨⟨h1, h2⟩, h3⟩ := h
   simp only [midx] at hm
   by_cases hk : k' = k
   ·rw [if_pos hk] at hm
    simp only [Option.some.injEq, Prod.mk.injEq] at hm
    obtain ⟨rfl, _⟩ := hm
    simp [h1, hk]
   ·rw [if_neg hk] at hm
    cases hq : midx k r with
    | none => rw [hq] at hm; cases hm
    | some q =>
     rw [hq] at hm
     simp only [Option.map_some, Option.some.injEq, Prod.mk.injEq] at hm
     obtain ⟨rfl, hu⟩ := hm
     have := midx_key k es r q.1 q.2 h3 hq
     simpa using this
section
variable {P : Program} {n : Nat} {C : Cx} {k : List Item} {env : Env} {L : Own} {I : Imm} {ops : Array Oper} {i : Nat} {l : List Oper}
variable {ty : TypeId} {ps : String} {af : Array Edge} {g : Option (Nat × Bool)} {d : Nat}
theorem Mp.new : Mp (.map #[] 0) [] := ⟨#[], 0, rfl, rfl, List.nodup_nil, fun _ h => by cases h⟩
theorem Ops.makeMap {t : TypeId} (hg : want env ops g = some true) (hd : d < n)
  (next : ∀ b, Ops P n C ops (i + 1) l k ((d, .map (some b)) :: env) ((b, .map #[] 0) :: L) I) : Ops P n C ops i (⟨some d, .makeMap t none, ty, ps, af, g⟩ :: l) k env L I :=
 Ops.valW hg (dOk hd) fun a W he hi => ⟨.map (some W.heap.size), W.alloc (.map #[] 0), (W.heap.size, .map #[] 0) :: L, I,
  .inl (by
   have : ({ W with heap := W.heap.push (.map #[] 0) } : World) = W.alloc (.map #[] 0) := rfl
   simp [execOp, Instr.makeMap, newObj, Sem.run, this]; try rfl), hi.alloc _, next _⟩
theorem run_mapSet {W : World} {t kt et : TypeId} {b : Nat} {o : Obj} {m : KV} {key : List UInt8} {v : Value} (hW : W.heap[b]? = some o) (hM : Mp o m) (hu : P.underlying t = some (.map kt et)) (hk : P.underlying kt = some .string) :
  ∃ o', Mp o' (mset key v m) /\ (Instr.mapUpdate t (.map (some b)) (str key) v).run P W = .ok () { W with heap := W.heap.setIfInBounds b o' } := by
 obtain ⟨es, clock, rfl, hm, hn, hb⟩ := hM
 have hg := run_getObj (P := P) hW (fun _ _ _ h => by cases h)
 have hkey : IsKey .string (str key) := trivial
 have hc : (Instr.checkKey false 10000 kt (str key)).run P W = .ok () W := run_checkKey hk hkey false 9999
 have hf := findNow_str key es.toList m 0 hm
 have hF := run_findKey (P := P) (w := W) hk hf
 cases hq : midx key m with
 | none =>
  rw [hq] at hF
  refine ⟨.map (es.push { key := str key, val := v, born := clock }) (clock + 1), ⟨_, _, rfl, ?_, ?_, ?_⟩, ?_⟩
  ·rw [mset_none key v m hq]; simp [hm]
  ·rw [Array.toList_push, List.map_append, List.nodup_append]
   refine ⟨hn, by simp, fun x hx y hy e => ?_⟩
   obtain ⟨z, hz, rfl⟩ := List.mem_map.1 hx
   have h1 := hb z hz
   have h2 : y = clock := by simpa using hy
   omega
  ·intro e he
   rw [Array.toList_push] at he
   rcases List.mem_append.1 he with he | he
   ·exact Nat.lt_succ_of_lt (hb e he)
   ·rw [List.mem_singleton.1 he]; exact Nat.lt_succ_self _
  ·have hs := run_setObj (P := P) (o' := .map (es.push { key := str key, val := v, born := clock }) (clock + 1)) hW (fun _ _ _ h => by cases h)
   simp only [Instr.mapUpdate, Sem.run_bind, run_underlying hu, Result.andThen_ok, hg, hc, hF, Option.map_none, hs]
 | some q =>
  obtain ⟨j, u⟩ := q
  rw [hq] at hF
  simp only [Option.map_some, Nat.zero_add] at hF
  have hkk := midx_key key es.toList m j u hm hq
  have hkk' : ((es[j]?).map (·.key)).getD (str key) = str key := by
   rw [Array.getElem?_toList] at hkk; rw [hkk]; rfl
  have hst := run_keyThatStays (P := P) (w := W) hkey
  refine ⟨.map (es.modify j fun e => { e with key := str key, val := v }) clock, ⟨_, _, rfl, ?_, ?_, ?_⟩, ?_⟩
  ·rw [<- mset_some key v es.toList m j u hm hq]; simp
  ·rw [Array.toList_modify, modify_born]; exact hn
  ·intro e he
   have h1 : e.born ∈ (es.modify j fun e => { e with key := str key, val := v }).toList.map (·.born) := List.mem_map_of_mem he
   rw [Array.toList_modify, modify_born] at h1
   obtain ⟨x, hx, h2⟩ := List.mem_map.1 h1
   rw [<- h2]; exact hb x hx
  ·have hs := run_setObj (P := P) (o' := .map (es.modify j fun e => { e with key := str key, val := v }) clock) hW (fun _ _ _ h => by cases h)
   simp only [Instr.mapUpdate, Sem.run_bind, run_underlying hu, Result.andThen_ok, hg, hc, hF, hkk', hst, hs]
theorem run_mapGet {W : World} {t kt et : TypeId} {b : Nat} {o : Obj} {m : KV} {key : List UInt8} {z : Value} (hW : W.heap[b]? = some o) (hM : Mp o m) (hu : P.underlying t = some (.map kt et)) (hk : P.underlying kt = some .string) (hz : ∀ w, (zeroValue et).run P w = .ok z w) (c : Bool) :
  (Instr.lookup t (.map (some b)) (str key) c).run P W = .ok (if c then .tuple #[(mget key m).getD z, .bool (mget key m).isSome] else (mget key m).getD z) W := by
 obtain ⟨es, clock, rfl, hm, _⟩ := hM
 have hg := run_getObj (P := P) hW (fun _ _ _ h => by cases h)
 have hkey : IsKey .string (str key) := trivial
 have hc : (Instr.checkKey es.isEmpty 10000 kt (str key)).run P W = .ok () W := run_checkKey hk hkey es.isEmpty 9999
 have hf := findNow_str key es.toList m 0 hm
 have hF := run_findKey (P := P) (w := W) hk hf
 have hmg := midx_get key m
 cases hq : midx key m with
 | none =>
  rw [hq] at hF hmg
  rw [<- hmg]
  simp only [Instr.lookup, Sem.run_bind, run_underlying hu, Result.andThen_ok, hg, hc, hF, Option.map_none, hz, Sem.run_pure, Option.getD_none, Option.isSome_none]
 | some q =>
  rw [hq] at hF hmg
  rw [<- hmg]
  simp only [Instr.lookup, Sem.run_bind, run_underlying hu, Result.andThen_ok, hg, hc, hF, Option.map_some, Sem.run_pure, Option.getD_some, Option.isSome_some]
end
end Go.V
namespace Go.V
open Go.RowKit
section
variable {P : Program} {n : Nat} {C : Cx} {k : List Item} {env : Env} {L : Own} {I : Imm} {ops : Array Oper} {i : Nat} {l : List Oper}
variable {ty : TypeId} {ps : String} {af : Array Edge} {g : Option (Nat × Bool)} {d : Nat}
theorem RAny.perm {S : World -> Prop} {listed : List Bool} {fuel : Nat} {L' : Own} (hp : L.Perm L') (h : RAny P n C ops S k fuel listed env L' I) : RAny P n C ops S k fuel listed env L I :=
 fun a W he hi => h a W he (hi.perm hp)
variable {K : Value -> Own -> Imm -> Prop}
theorem Eff.callM {f : FuncId} {xs : List Operand} {ats : Array TypeId} {vs : List Value} {M N : Own} {R : Value -> Imm -> Own -> Prop} (hs : Spec P f vs I M R) (hL : L.Perm (M ++ N)) (hc : ∀ args w, (callFunc f args).run P w = .ok (.enter f args) w)
  (hx : opnds env xs = some vs) (next : ∀ v J M', Le I J -> R v J M' -> K v (M' ++ N) J) : Eff P n C env L I ⟨some d, .call ⟨.value (.func f), xs.toArray, ats⟩, ty, ps, af, g⟩ K :=
 Eff.callW (fun a W he => run_callF hc he hx) hL hs next
theorem RAny.takeU {S : World -> Prop} {listed : List Bool} {fuel : Nat} (j : Nat) {d : Nat} {op : Op} (listed' : List Bool) (hi : ops[j]? = some ⟨some d, op, ty, ps, af, g⟩) (hs : Region.noSelect ops = true) (hf : Region.free .any ops listed.toArray j = true)
  (hr : (Region.ready .any ops listed.toArray).contains j = true) (hl : listed.toArray.setIfInBounds j true = listed'.toArray) (hd : d < n) (hS : ∀ W, Inv C.w0 C.I0 C.L0 I L W -> S W) (hy : wantU env ops g = true)
  (h : RAny P n C ops S k fuel listed' ((d, undef) :: env) L I) : RAny P n C ops S k (fuel + 1) listed env L I := by
 intro a W he hinv
 exact wpAnyH_take hi hs hf hr (fun c a w h => h.elim) (.inr ⟨wantU_spec he hy, rfl⟩) (hS W hinv) (by rw [hl]; exact h _ W (he.put (dOk hd)) hinv)
def bl (n x : Nat) : List Bool := (List.range n).map fun i => x.testBit i
def tkOk (ops : Array Oper) (listed : List Bool) (j : Nat) (listed' : List Bool) : Bool :=
 Region.noSelect ops && Region.free .any ops listed.toArray j && (Region.ready .any ops listed.toArray).contains j && (listed.set j true == listed')
def oneOk (ops : Array Oper) (listed : List Bool) (j : Nat) (listed' : List Bool) : Bool :=
 (Region.ready .any ops listed.toArray == [j]) && (listed.set j true == listed')
theorem mp {M X L : Own} (h : L = M ++ X) : ∀ x, x ∈ M -> x ∈ L := fun x hx => h ▸ List.mem_append_left _ hx
theorem mq {M X L : Own} {a : Nat × Obj} (h : L = a :: (M ++ X)) : ∀ x, x ∈ M -> x ∈ L := fun x hx => h ▸ List.mem_cons_of_mem _ (List.mem_append_left _ hx)
theorem tk_spec {listed listed' : List Bool} {j : Nat} (h : tkOk ops listed j listed' = true) : Region.noSelect ops = true /\ Region.free .any ops listed.toArray j = true /\ (Region.ready .any ops listed.toArray).contains j = true /\ listed.toArray.setIfInBounds j true = listed'.toArray := by
 simp only [tkOk, Bool.and_eq_true, beq_iff_eq] at h
 exact ⟨h.1.1.1, h.1.1.2, h.1.2, by rw [<- h.2]; simp⟩
theorem one_spec' {listed listed' : List Bool} {j : Nat} (h : oneOk ops listed j listed' = true) : Region.ready .any ops listed.toArray = [j] /\ listed.toArray.setIfInBounds j true = listed'.toArray := by
 simp only [oneOk, Bool.and_eq_true, beq_iff_eq] at h
 exact ⟨h.1, by rw [<- h.2]; simp⟩
theorem RAny.tk {S : World -> Prop} {listed : List Bool} {fuel : Nat} (j : Nat) {d : Nat} {op : Op} {v : Value} (listed' : List Bool) (hi : ops[j]? = some ⟨some d, op, ty, ps, af, g⟩) (ok : tkOk ops listed j listed' = true) (hd : d < n) (hS : ∀ W, Inv C.w0 C.I0 C.L0 I L W -> S W) (hy : Yld P n env ops S ⟨some d, op, ty, ps, af, g⟩ v)
  (h : RAny P n C ops S k fuel listed' ((d, v) :: env) L I) : RAny P n C ops S k (fuel + 1) listed env L I :=
 RAny.takeD j listed' hi (tk_spec ok).1 (tk_spec ok).2.1 (tk_spec ok).2.2.1 (tk_spec ok).2.2.2 hd hS hy h
theorem RAny.tu {S : World -> Prop} {listed : List Bool} {fuel : Nat} (j : Nat) {d : Nat} {op : Op} (listed' : List Bool) (hi : ops[j]? = some ⟨some d, op, ty, ps, af, g⟩) (ok : tkOk ops listed j listed' = true) (hd : d < n) (hS : ∀ W, Inv C.w0 C.I0 C.L0 I L W -> S W) (hy : wantU env ops g = true)
  (h : RAny P n C ops S k fuel listed' ((d, undef) :: env) L I) : RAny P n C ops S k (fuel + 1) listed env L I :=
 RAny.takeU j listed' hi (tk_spec ok).1 (tk_spec ok).2.1 (tk_spec ok).2.2.1 (tk_spec ok).2.2.2 hd hS hy h
theorem RAny.on {S : World -> Prop} {listed : List Bool} {fuel : Nat} (j : Nat) {d : Nat} {op : Op} (listed' : List Bool) (hi : ops[j]? = some ⟨some d, op, ty, ps, af, g⟩) (ok : oneOk ops listed j listed' = true) (hw : want env ops g = some true) (hd : d < n)
  (h : Eff P n C env L I ⟨some d, op, ty, ps, af, g⟩ fun v L1 I1 => (∀ W, Inv C.w0 C.I0 C.L0 I1 L1 W -> S W) /\ RAny P n C ops S k fuel listed' ((d, v) :: env) L1 I1) : RAny P n C ops S k (fuel + 1) listed env L I :=
 RAny.oneD j listed' hi (one_spec' ok).1 (one_spec' ok).2 hw hd h
theorem RAny.os {S : World -> Prop} {listed : List Bool} {fuel : Nat} (j : Nat) {op : Op} (listed' : List Bool) (hi : ops[j]? = some ⟨none, op, ty, ps, af, g⟩) (ok : oneOk ops listed j listed' = true) (hw : want env ops g = some true)
  (h : Eff P n C env L I ⟨none, op, ty, ps, af, g⟩ fun v L1 I1 => (∀ W, Inv C.w0 C.I0 C.L0 I1 L1 W -> S W) /\ RAny P n C ops S k fuel listed' env L1 I1) : RAny P n C ops S k (fuel + 1) listed env L I :=
 RAny.oneS j listed' hi (one_spec' ok).1 (one_spec' ok).2 hw h
open Classical in
theorem perm_of_count {α : Type} {A B : List α} (h : ∀ x, A.count x = B.count x) : A.Perm B := List.perm_iff_count.2 h
end
end Go.V
namespace Go.V
open Go.RowKit
section
variable {P : Program} {n : Nat} {C : Cx} {k : List Item} {env : Env} {L : Own} {I : Imm} {ops : Array Oper}
def twoOk (ops : Array Oper) (listed : List Bool) (i j : Nat) (l1 l2 : List Bool) : Bool :=
 (Region.ready .any ops listed.toArray == [i, j]) && (listed.set i true == l1) && (listed.set j true == l2)
theorem RAny.two {S : World -> Prop} {listed : List Bool} {fuel : Nat} (i j : Nat) {d1 d2 : Nat} {op1 op2 : Op} {ty1 ty2 : TypeId} {ps1 ps2 : String} {af1 af2 : Array Edge} {g1 g2 : Option (Nat × Bool)} (l1 l2 : List Bool)
  (h1 : ops[i]? = some ⟨some d1, op1, ty1, ps1, af1, g1⟩) (h2 : ops[j]? = some ⟨some d2, op2, ty2, ps2, af2, g2⟩) (ok : twoOk ops listed i j l1 l2 = true) (w1 : want env ops g1 = some true) (w2 : want env ops g2 = some true) (hd1 : d1 < n) (hd2 : d2 < n)
  (e1 : Eff P n C env L I ⟨some d1, op1, ty1, ps1, af1, g1⟩ fun v L1 I1 => (∀ W, Inv C.w0 C.I0 C.L0 I1 L1 W -> S W) /\ RAny P n C ops S k fuel l1 ((d1, v) :: env) L1 I1)
  (e2 : Eff P n C env L I ⟨some d2, op2, ty2, ps2, af2, g2⟩ fun v L1 I1 => (∀ W, Inv C.w0 C.I0 C.L0 I1 L1 W -> S W) /\ RAny P n C ops S k fuel l2 ((d2, v) :: env) L1 I1) : RAny P n C ops S k (fuel + 1) listed env L I := by
 simp only [twoOk, Bool.and_eq_true, beq_iff_eq] at ok
 obtain ⟨⟨hr, hs1⟩, hs2⟩ := ok
 refine RAny.all [i, j] hr (by simp) fun q hq => ?_
 have hq' : q = i \/ q = j := by simpa using hq
 rcases hq' with rfl | rfl
 ·refine ⟨_, h1, w1, dOk hd1, fun a W he hin => ?_⟩
  rcases e1 a W he hin with ⟨v, W1, L1, I1, q1, q2, q3, q4⟩ | ⟨f, args, q1, q2⟩
  ·exact .inl ⟨v, W1, L1, I1, q1, q2, q3, l1, by rw [<- hs1]; simp, q4⟩
  ·exact .inr ⟨f, args, q1, q2.mono fun e W' ⟨v, L1, I1, p1, p2, p3, p4⟩ => ⟨v, L1, I1, p1, p2, p3, l1, by rw [<- hs1]; simp, p4⟩⟩
 ·refine ⟨_, h2, w2, dOk hd2, fun a W he hin => ?_⟩
  rcases e2 a W he hin with ⟨v, W1, L1, I1, q1, q2, q3, q4⟩ | ⟨f, args, q1, q2⟩
  ·exact .inl ⟨v, W1, L1, I1, q1, q2, q3, l2, by rw [<- hs2]; simp, q4⟩
  ·exact .inr ⟨f, args, q1, q2.mono fun e W' ⟨v, L1, I1, p1, p2, p3, p4⟩ => ⟨v, L1, I1, p1, p2, p3, l2, by rw [<- hs2]; simp, p4⟩⟩
end
end Go.V
namespace Go.V
open Go.RowKit
theorem size_bytes (s : List UInt8) : (⟨s.toArray⟩ : ByteArray).size = s.length := str_size s
theorem run_stringToBytes {P : Program} {e : TypeId} {s : List UInt8} (W : World) : ∃ cap cs, s.length <= cap /\ cs.toList.take s.length = s.map (fun b => Value.int .u8 (b.toNat : Int)) /\
  (Conv.stringToBytes e ⟨s.toArray⟩).run P W = .ok (.slice (some ⟨W.heap.size, 0, none⟩) s.length cap) ((W.drew.alloc (.cells cs e (0, 0))).freeze ⟨W.heap.size, cs.size, none⟩ 1) := by
 refine ⟨grownCap W s.length 0 e, (s.map fun b => Value.int .u8 (b.toNat : Int)).toArray ++ Array.replicate (grownCap W s.length 0 e - s.length) (.int .u8 0), grownCap_ge _ _ _ _, ?_, ?_⟩
 ·simp
 ·have hsh : ∀ cs : Array Value, (W.drew.alloc (.cells cs e (0, 0))).shape? W.heap.size = some (e, cs.size) := fun cs => by
   show (W.drew.alloc _).shape? W.drew.heap.size = _
   simp only [World.shape?, heap_alloc_new]
  simp [Conv.stringToBytes, markStringish, newRow, grownCap, size_bytes, Question.forced, hsh]
section
variable {P : Program} {n : Nat} {C : Cx} {k : List Item} {env : Env} {L : Own} {I : Imm} {ops : Array Oper} {i : Nat} {l : List Oper}
variable {ty : TypeId} {ps : String} {af : Array Edge} {g : Option (Nat × Bool)} {d : Nat}
theorem Inv.bytes {w0 : World} {I0 : Imm} {L0 : List Nat} {W : World} {e : TypeId} {cs : Array Value} (hi : Inv w0 I0 L0 I L W) :
  Inv w0 I0 L0 I ((W.heap.size, .cells cs e (cs.size, cs.size + 1)) :: L) ((W.drew.alloc (.cells cs e (0, 0))).freeze ⟨W.heap.size, cs.size, none⟩ 1) := by
 have h1 := hi.drew.alloc (.cells cs e (0, 0))
 refine h1.upd ?_ ?_ ?_ ?_ ?_ ?_
 ·simp [World.freeze]
 ·simp [World.freeze]
 ·simp [World.freeze]
 ·simp [World.freeze]
 ·intro c _ hcb
  have : W.heap.size ≠ c := fun e => hcb e.symm
  simp [World.freeze, Array.getElem?_modify, this]
 ·have h2 : (W.drew.alloc (.cells cs e (0, 0))).heap[W.heap.size]? = some (.cells cs e (0, 0)) := heap_alloc_new W.drew _
  unfold World.freeze
  rw [if_neg (by decide)]
  show (Array.modify _ W.heap.size _)[W.heap.size]? = _
  rw [Array.getElem?_modify, if_pos rfl, h2]
  simp
theorem Ops.convBytes {x : Operand} {src dst e : TypeId} {s : List UInt8} (T : Tab P) (hg : want env ops g = some true) (hd : d < n) (hs : T.und src = some .string) (ht : T.und dst = some (.slice e)) (he8 : T.und e = some (.int .u8)) (hx : opnd env x = some (str s))
  (next : ∀ v J, Le I J -> Sl tU8 J v s -> Ops P n C ops (i + 1) l k ((d, v) :: env) L J) : Ops P n C ops i (⟨some d, .convert src dst x, ty, ps, af, g⟩ :: l) k env L I :=
 Ops.valW hg (dOk hd) fun a W he hi => by
  obtain ⟨cap, cs, h1, h2, hr⟩ := run_stringToBytes (P := P) (e := e) (s := s) W
  have hi2 := hi.bytes (e := e) (cs := cs)
  have hle := hi2.le_iset
  refine ⟨.slice (some ⟨W.heap.size, 0, none⟩) s.length cap, _, L, _, .inl ?_, hi2.freeze, next _ _ hle ?_⟩
  ·simp only [execOp, eval_opnd he hx, convert, Sem.run_bind, T.undOk hs, T.undOk ht, T.undOk he8, str, Result.andThen_ok, hr]; rfl
  ·refine ⟨_, _, rfl, h1, .inr ⟨W.heap.size, 0, rfl, ?_⟩⟩
   intro j y hy
   have hj : j < s.length := (List.getElem?_eq_some_iff.1 hy).1
   refine ⟨[.int .u8 (y.toNat : Int)], rfl, cs, e, (cs.size, cs.size + 1), by simp [iset], ?_⟩
   intro q u hu
   have hq : q = 0 := by
    cases q with
    | zero => rfl
    | succ q => simp at hu
   subst hq
   simp at hu; subst hu
   have h3 : (cs.toList.take s.length)[j]? = some (.int .u8 (y.toNat : Int)) := by rw [h2]; simp [hy]
   rw [List.getElem?_take_of_lt hj] at h3
   simpa [tU8] using h3
end
end Go.V
namespace Go.V
open Go.RowKit
section
variable {P : Program} {n : Nat} {C : Cx} {env : Env} {L : Own} {I : Imm} {ops : Array Oper} {S : World -> Prop}
variable {d : Nat} {ty : TypeId} {ps : String} {af : Array Edge} {g : Option (Nat × Bool)} {t t' : TypeId} {x y : Operand} {kd : IntKind} {a b r : Int} {s u : List UInt8}
theorem Yld.gtr (hg : want env ops g = some true) (hx : opnd env x = some (.int kd a)) (hy : opnd env y = some (.int kd b)) : Yld P n env ops S ⟨some d, .binOp .gtr t x y t', ty, ps, af, g⟩ (.bool (decide (b < a))) :=
 Yld.val hg fun c W he _ => by simp [execOp, eval_opnd he hx, eval_opnd he hy, run_eqGuard_int, binOp, Op.intCmp]
theorem Yld.sub (hg : want env ops g = some true) (hx : opnd env x = some (.int kd a)) (hy : opnd env y = some (.int kd b)) (hr : kd.wrap (a - b) = r) : Yld P n env ops S ⟨some d, .binOp .sub t x y t', ty, ps, af, g⟩ (.int kd r) :=
 Yld.val hg fun c W he _ => by subst hr; simp [execOp, eval_opnd he hx, eval_opnd he hy, run_eqGuard_int, binOp, Op.intArith]
theorem Yld.leqS (hg : want env ops g = some true) (hx : opnd env x = some (str s)) (hy : opnd env y = some (str u)) : Yld P n env ops S ⟨some d, .binOp .leq t x y t', ty, ps, af, g⟩ (.bool (Op.bytesLess s u || s == u)) :=
 Yld.val hg fun c W he _ => by simp [execOp, eval_opnd he hx, eval_opnd he hy, str, run_eqGuard_string, binOp, Op.stringOp, str_toList]
theorem Yld.lenS {ts : TypeId} (T : Tab P) (hg : want env ops g = some true) (hu : T.und ts = some .string) (hx : opnd env x = some (str s)) : Yld P n env ops S ⟨some d, .call ⟨.builtin .len, #[x], #[ts]⟩, ty, ps, af, g⟩ (.int .i64 s.length) :=
 Yld.val hg fun c W he _ => by simp [execOp, resolve, invoke, builtin, Builtin.len_, eval_opnd he hx, T.undOk hu, str, goInt, str_size]
theorem Eff.buildSlice {t e : TypeId} {len size : Nat} {xs : List (Nat × Operand)} {vs : List (Nat × Value)} {z : Value} {cs : List Value} {K : Value -> Own -> Imm -> Prop}
  (hu : ∀ w, (underlying t).run P w = .ok (.slice e) w) (hz : ∀ w, (zeroValue e).run P w = .ok z w) (hs : ∀ w, (sizeOf e).run P w = .ok size w)
  (hlen : len * size <= 16777216) (hx : parts env xs = some vs) (hf : Instr.fill (fun i => some (i * size, size)) ((Array.range (len * size)).map (z.cells[· % z.cells.size]!)) vs = some cs.toArray)
  (next : ∀ b, K (.slice (some ⟨b, 0, none⟩) len len) ((b, blk cs e) :: L) I) : Eff P n C env L I ⟨some d, .buildSlice t len xs.toArray, ty, ps, af, g⟩ K :=
 Eff.valW fun a W he hi => ⟨.slice (some ⟨W.heap.size, 0, none⟩) len len, W.alloc (blk cs e), (W.heap.size, blk cs e) :: L, I,
  .inl (by
   have h1 : ¬ (len * size > 2 ^ 24) := by omega
   have h2 := parts_spec he hx
   have hmap : (List.map (fun (x : Nat × Operand) => match x with | (i, x) => (i, a.eval x)) xs) = vs := h2
   simp only [execOp, Instr.buildSlice, Sem.run_bind, hu, hs, Result.andThen_ok, h1, if_false, List.map_toArray, hmap, pure_bind, Sem.run_pure]
   by_cases h0 : len * size = 0
   ·rw [if_pos h0]
    have hf' : Instr.fill (fun i => some (i * size, size)) ((Array.range (len * size)).map ((#[] : Array Value)[· % (#[] : Array Value).size]!)) vs = some cs.toArray := by
     have e : ∀ f : Nat -> Value, (Array.range 0).map f = #[] := fun f => by simp
     rw [h0, e] at hf ⊢; exact hf
    simp only [hf']
    rfl
   ·rw [if_neg h0]
    simp only [Sem.run_bind, hz, Result.andThen_ok, hf]
    rfl), hi.alloc _, next _⟩
theorem Eff.lit0 {t e : TypeId} {K : Value -> Own -> Imm -> Prop} {z : Value} (T : Tab P) (hu : T.und t = some (.slice e)) {size : Nat} (hs : T.size e = some size) (hz : T.zero e = some z) (next : ∀ b, K (.slice (some ⟨b, 0, none⟩) 0 0) ((b, blk [] e) :: L) I) :
  Eff P n C env L I ⟨some d, .buildSlice t 0 #[], ty, ps, af, g⟩ K :=
 Eff.buildSlice (xs := []) (vs := []) (cs := []) (T.undOk hu) (T.zeroOk hz) (T.sizeOk hs) (by omega) rfl (by simp [Instr.fill]) next
theorem Eff.append {s x : Operand} {ts tx e : TypeId} {size bytes : Nat} {M N : Own} {v xv : Value} {m q : Nat} {xs news : List Value} {K : Value -> Own -> Imm -> Prop} (hE : Elem P ts e size bytes)
  (hs : opnd env s = some v) (hx : opnd env x = some xv) (hL : L.Perm (M ++ N)) (hG : Grows e size v m xs M)
  (hsrc : ∀ W, Inv C.w0 C.I0 C.L0 I L W -> Src P size tx xv q news W) (hbytes : (2 * (m + q) + 512) * bytes <= 281474976710656) (h63 : m + q <= 4611686018427387904)
  (next : ∀ v' M', Grows e size v' (m + q) (xs ++ news) M' -> K v' (M' ++ N) I) :
  Eff P n C env L I ⟨some d, .call ⟨.builtin .append, #[s, x], #[ts, tx]⟩, ty, ps, af, g⟩ K :=
 Eff.valW fun a W he hi => by
  obtain ⟨v', W', M', hr, hG', hi'⟩ := run_append_grows (P := P) (ty := ty) hE (hi.perm hL) hG (hsrc W hi) hbytes h63
  refine ⟨v', W', M' ++ N, I, .inl ?_, hi', next v' M' hG'⟩
  simp [execOp, resolve, invoke, builtin, eval_opnd he hs, eval_opnd he hx, hr]
theorem Eff.appSl {α : Type} {t : Ty α} {s x : Operand} {ts e : TypeId} {bytes : Nat} {M N : Own} {v w : Value} {xs ys : List α} {K : Value -> Own -> Imm -> Prop} (hE : Elem P ts e t.size bytes) (hG : Gr t I e v xs M) (hS : Sl t I w ys) (hone : ∀ cs, Cells t I cs ys -> one cs = true)
  (hs : opnd env s = some v) (hx : opnd env x = some w) (hL : L.Perm (M ++ N)) (hbytes : (2 * (xs.length + ys.length) + 512) * bytes <= 281474976710656) (h63 : xs.length + ys.length <= 4611686018427387904)
  (next : ∀ v' M', Gr t I e v' (xs ++ ys) M' -> K v' (M' ++ N) I) :
  Eff P n C env L I ⟨some d, .call ⟨.builtin .append, #[s, x], #[ts, ts]⟩, ty, ps, af, g⟩ K := by
 obtain ⟨cs, hG1, hC1⟩ := hG
 obtain ⟨A, c, rfl, hc, hrow⟩ := hS
 have key : ∃ news, Cells t I news ys /\ (∀ W, Inv C.w0 C.I0 C.L0 I L W -> Src P t.size ts (.slice A ys.length c) ys.length news W) := by
  rcases hrow with rfl | ⟨b, off, rfl, hrow⟩
  ·refine ⟨[], Cells.nil t I, fun W hi => ?_⟩
   cases A with
   | none => exact Src.ofNil W hE.under c
   | some a => exact Src.ofSlice W hE.under a 0 c [] (by simp) (fun j u hu => by simp at hu) (fun u hu => by cases hu)
  ·obtain ⟨news, hC, hA⟩ := hrow.cells
   refine ⟨news, hC, fun W hi => ?_⟩
   rcases hA with rfl | hA
   ·have h0 : news = [] := List.eq_nil_of_length_eq_zero (by rw [hC.flat_len]; simp)
    subst h0
    exact Src.ofSlice W hE.under ⟨b, off, none⟩ 0 c [] (by simp) (fun j u hu => by simp at hu) (fun u hu => by cases hu)
   ·exact Src.ofSlice W hE.under ⟨b, off, none⟩ ys.length c news hC.flat_len (fun j u hu => by rw [add_off]; exact hA.cell hi j u hu) (one_spec (hone _ hC))
 obtain ⟨news, hC, hsrc⟩ := key
 exact Eff.append hE hs hx hL hG1 hsrc hbytes h63 fun v' M' h => next v' M' ⟨cs ++ news, by rw [List.length_append]; exact h, hC1.append hC⟩
end
theorem Yld.as {P : Program} {n : Nat} {env : Env} {ops : Array Oper} {S : World -> Prop} {o : Oper} {v v' : Value} (h : Yld P n env ops S o v) (e : v = v') : Yld P n env ops S o v' := e ▸ h
theorem bless_eq : ∀ (x y : List UInt8), Op.bytesLess x y = decide (x < y)
 | [], [] => by simp [Op.bytesLess]
 | _ :: _, [] => by simp [Op.bytesLess]
 | [], _ :: _ => by simp [Op.bytesLess]
 | a :: x, b :: y => by
  rw [Op.bytesLess, bless_eq x y]
  simp only [List.cons_lt_cons_iff]
  by_cases h1 : a < b <;> by_cases h2 : a = b <;> by_cases h3 : x < y <;> simp [h1, h2, h3]
end Go.V
namespace Go.V
open Go.RowKit
section
variable {P : Program} {n : Nat} {C : Cx} {k : List Item} {env : Env} {L : Own} {I : Imm} {ops : Array Oper} {i : Nat} {l : List Oper}
variable {ty : TypeId} {ps : String} {af : Array Edge} {g : Option (Nat × Bool)} {d : Nat}
end
theorem Eff.lit {P : Program} {n : Nat} {C : Cx} {env : Env} {L : Own} {I : Imm} {ty : TypeId} {ps : String} {af : Array Edge} {g : Option (Nat × Bool)} {d : Nat} {K : Value -> Own -> Imm -> Prop} {t e : TypeId} {len size : Nat} {xs : List (Nat × Operand)} {ps' : List (Nat × Value)} {z : Value} {cs : List Value} (T : Tab P)
  (hu : T.und t = some (.slice e)) (hz : T.zero e = some z) (hs : T.size e = some size) (hpos : 0 < size)
  (hlen : len * size <= 16777216) (hx : parts env xs = some ps') (hn : ps'.length = len) (hi : ps'.map Prod.fst = List.range' 0 len) (hsz : ps'.all (fun p => p.2.cells.size == size) = true) (hcs : (ps'.map Prod.snd).flatMap (fun v => v.cells.toList) = cs)
  (next : ∀ b, K (.slice (some ⟨b, 0, none⟩) len len) ((b, blk cs e) :: L) I) : Eff P n C env L I ⟨some d, .buildSlice t len xs.toArray, ty, ps, af, g⟩ K := by
 subst hn
 refine Eff.buildSlice (T.undOk hu) (T.zeroOk hz) (T.sizeOk hs) hlen hx ?_ next
 have h := Great.fill_whole hpos (ps'.map Prod.snd) ((Array.range (ps'.length * size)).map (z.cells[· % z.cells.size]!)) ?_ ?_
 ·rw [zip_enum ps' 0 (by simpa using hi), hcs] at h; exact h
 ·intro v hv
  obtain ⟨p, hp, rfl⟩ := List.mem_map.1 hv
  simpa using List.all_eq_true.1 hsz p hp
 ·simp
theorem Ops.callVX {P : Program} {n : Nat} {C : Cx} {k : List Item} {env : Env} {L : Own} {I : Imm} {ops : Array Oper} {i : Nat} {l : List Oper} {ty : TypeId} {ps : String} {af : Array Edge} {g : Option (Nat × Bool)} {d : Nat} {f : FuncId} {x : Operand} {xs : List Operand} {ats : Array TypeId} {ws vs : List Value} {M N : Own} {R : Value -> Imm -> Own -> Prop} (hs : Spec P f (vs ++ ws) I M R) (hL : L.Perm (M ++ N)) (hg : want env ops g = some true) (hd : d < n)
  (hc : ∀ args w, (callFunc f args).run P w = .ok (.enter f args) w) (hf : opnd env x = some (.func (.func f) #[] ws.toArray)) (hx : opnds env xs = some vs) (next : ∀ v J M', Le I J -> R v J M' -> Ops P n C ops (i + 1) l k ((d, v) :: env) (M' ++ N) J) :
  Ops P n C ops i (⟨some d, .call ⟨.value x, xs.toArray, ats⟩, ty, ps, af, g⟩ :: l) k env L I :=
 Ops.callW hg (dOk hd) (fun a W he => run_callV (fs := []) hc he hf hx) hL (by simpa using hs) next
end Go.V
namespace Go.V
open Go.RowKit
section
variable {P : Program} {n : Nat} {C : Cx} {k : List Item} {env : Env} {L : Own} {I : Imm}
theorem Run.retCTT (T : Tab P) (j : Nat) {fn : Func} {t u s b m : Nat} {x y : Value} {vs cs : List Value} {rt t' : TypeId} {todo : List Item} (hfn : P.funcs[C.f]? = some fn) (hres : fn.results = #[.cell t rt, .tmp u, .tmp s]) (hp : look env t = some (.pointer (some ⟨b, 0, none⟩)))
  (hL : L[j]? = some (b, blk cs t')) (ha : T.agg rt = some true) (hs : T.size rt = some m) (hv : (cs.drop 0).take m = vs) (hm : vs.length = m) (hu : look env u = some x) (hy : look env s = some y) (h : C.R (.tuple #[.agg vs.toArray, x, y]) I []) : Run P n C (.code .ret :: todo) env L I := by
 intro bb a cs' W hb hk he hi
 have hr : (results fn a.tmps).run P W = .ok (.tuple #[.agg vs.toArray, x, y]) W := by
  have h1 := run_cellN T hi hL ha hs hv hm
  have hp' := he.at_ _ _ hp
  have e1 := he.at_ _ _ hu
  have e2 := he.at_ _ _ hy
  simp [results, hres, hp', e1, e2, asAddr, h1]
 exact ⟨.returned (.tuple #[.agg vs.toArray, x, y]), W, _, ⟨_, I, [], rfl, h, hi.weakenL (List.nil_sublist _)⟩, Steps.one step_ret, hb, rfl, he.defers, hk, fn, by simpa [Frame.at, hb] using hfn, hr⟩
end
theorem Pure.ofBelow {P : Program} {f : FuncId} {args : List Value} {I : Imm} {v : Value} (h : ∀ w, Fits I [] w -> Calls P f args.toArray w fun e w' => e = .returned v /\ Below w.heap.size w w') : Pure P f args I fun x J => x = v /\ J = I := by
 intro w0 hfit
 refine (h w0 hfit).mono ?_
 rintro e w' ⟨rfl, hb⟩
 refine ⟨v, I, [], rfl, ⟨rfl, rfl, rfl⟩, hb.os, hb.tape, hb.output, hb.size, fun b h _ => hb.block b h, ⟨fun b o h => ?_, (fun b o h => absurd h List.not_mem_nil), (fun b o h => absurd h List.not_mem_nil), hfit.nd⟩, Le.refl _, fun _ _ h => .inl h, fun b o h => absurd h List.not_mem_nil⟩
 have h0 := hfit.imm b o h
 rw [hb.block b (Array.getElem?_eq_some_iff.1 h0).1]
 exact h0
end Go.V
namespace Go.V
open Go.RowKit
def reachB (md : Region.Mode) (ops : Array Oper) : Nat -> Nat -> Nat -> Bool
 | 0, _, _ => false
 | f + 1, t, i => match ops[t]? with
  | none => false
  | some o => o.after.toList.any fun e => Region.binds md e && (Nat.beq e.on i || (Nat.blt i e.on && reachB md ops f e.on i))
def tailsB (md : Region.Mode) (ops : Array Oper) (ms : List Bool) : Bool := (List.range ops.size).all fun t => ms.getD t false || (List.range ops.size).all fun i => !(ms.getD i false) || reachB md ops ops.size t i
def headB (md : Region.Mode) (ops : Array Oper) : List Bool -> Nat -> List Bool -> Option (List Bool)
 | [], _, l => some l
 | false :: ms, j, l => headB md ops ms (j + 1) l
 | true :: ms, j, l => if (Region.ready md ops l.toArray).contains j && Region.free md ops l.toArray j then headB md ops ms (j + 1) (l.set j true) else none
def quietB (md : Region.Mode) (ops : Array Oper) (ms : List Bool) (lm : List Bool) : Bool :=
 Region.noSelect ops && Nat.ble ms.length ops.size && tailsB md ops ms && (headB md ops ms 0 (List.replicate ops.size false) == some lm) && ((List.range ops.size).all fun i => !(ms.getD i false) || lm.getD i false)
def trues (ms : List Bool) : Nat := (ms.filter id).length
structure Cl (md : Region.Mode) (ops : Array Oper) (listed : Array Bool) : Prop where
 size : listed.size = ops.size
 closed : ∀ (j : Nat) oj, ops[j]? = some oj -> listed.getD j false = true -> ∀ e ∈ oj.after, Region.binds md e = true -> listed.getD e.on false = true
theorem Cl.set {md : Region.Mode} {ops : Array Oper} {listed : Array Bool} {i : Nat} (h : Cl md ops listed) (hi : i ∈ Region.ready md ops listed) : Cl md ops (listed.setIfInBounds i true) := by
 obtain ⟨_, oi, hoi, hall⟩ := mem_ready.1 hi
 refine ⟨by simp [h.size], fun j oj hj hl e he hb => ?_⟩
 by_cases hij : i = j
 ·subst hij
  obtain rfl : oj = oi := Option.some.inj (hj.symm.trans hoi)
  exact getD_set_true (hall e he hb)
 ·rw [getD_set_ne false hij] at hl
  exact getD_set_true (h.closed j oj hj hl e he hb)
theorem reach_listed {md : Region.Mode} {ops : Array Oper} {listed : Array Bool} (h : Cl md ops listed) : ∀ (f t i : Nat), (∀ o, ops[t]? = some o -> ∀ e ∈ o.after, Region.binds md e = true -> listed.getD e.on false = true) ->
  reachB md ops f t i = true -> listed.getD i false = true
 | 0, t, i, _, hr => by cases hr
 | f + 1, t, i, hp, hr => by
  simp only [reachB] at hr
  split at hr
  ·cases hr
  ·rename_i o ho
   obtain ⟨e, he, hb⟩ := List.any_eq_true.1 hr
   simp only [Bool.and_eq_true, Bool.or_eq_true] at hb
   have he' : e ∈ o.after := by simpa using he
   have h1 := hp o ho e he' hb.1
   rcases hb.2 with h2 | ⟨_, h2⟩
   ·rw [<- Nat.eq_of_beq_eq_true h2]; exact h1
   ·exact reach_listed h f e.on i (fun o' ho' e' he'' hb' => h.closed e.on o' ho' h1 e' he'' hb') h2
theorem ready_head {md : Region.Mode} {ops : Array Oper} {listed : Array Bool} {ms : List Bool} {i : Nat} (h : Cl md ops listed) (ht : tailsB md ops ms = true) (hi : ms.getD i false = true) (his : i < ops.size) (hun : listed.getD i true = false) : ∀ t ∈ Region.ready md ops listed, ms.getD t false = true := by
 intro t hr
 cases htm : ms.getD t false with
 | true => rfl
 | false =>
  exfalso
  obtain ⟨_, ot, hot, hall⟩ := mem_ready.1 hr
  have htlt : t < ops.size := (Array.getElem?_eq_some_iff.1 hot).1
  have h1 := List.all_eq_true.1 ht t (List.mem_range.2 htlt)
  rw [htm, Bool.false_or] at h1
  have h2 := List.all_eq_true.1 h1 i (List.mem_range.2 his)
  rw [hi, Bool.not_true, Bool.false_or] at h2
  have h3 := reach_listed h _ _ _ (fun o ho e he hb => by
   obtain rfl : o = ot := Option.some.inj (ho.symm.trans hot)
   exact hall e he hb) h2
  rw [getD_both hun] at h3
  cases h3
def wpHead (P : Program) (md : Region.Mode) (ops : Array Oper) (S : World -> Prop) (m : List Bool) (G : Array Bool -> Act -> Prop) : Nat -> Array Bool -> Act -> Prop
 | 0, listed, a => G listed a
 | f + 1, listed, a => Region.ready md ops listed ≠ [] /\ ∀ i ∈ Region.ready md ops listed, m.getD i false = true /\ qOp P ops S i (wpHead P md ops S m G f (listed.setIfInBounds i true)) a
theorem wpAny_of_wpHead {P : Program} {md : Region.Mode} {ops : Array Oper} {S : World -> Prop} {m : List Bool} {g : Nat} {G : Array Bool -> Act -> Prop} {Q' : Exit -> Act -> World -> Prop} (hG : ∀ listed a w, S w -> G listed a -> wpAny P md ops Q' g listed a w) :
  ∀ (f : Nat) (listed : Array Bool) (a : Act) (w : World), S w -> wpHead P md ops S m G f listed a -> wpAny P md ops Q' (f + g) listed a w
 | 0, listed, a, w, hw, h => by rw [Nat.zero_add]; exact hG _ _ _ hw h
 | f + 1, listed, a, w, hw, h => by
  rw [show f + 1 + g = (f + g) + 1 by omega]
  exact ⟨fun h0 => absurd h0 h.1, fun i hi => wpOp_of_qOp hw (fun a' w' hw' => wpAny_of_wpHead hG f _ a' w' hw') (h.2 i hi).2⟩
theorem wpHead_first {P : Program} {md : Region.Mode} {ops : Array Oper} {S : World -> Prop} {m : List Bool} {i : Nat} {oi : Oper} {v : Value} {G : Array Bool -> Act -> Prop} (hi : ops[i]? = some oi) (hsel : ∀ (j : Nat) (o : Oper) cs b, ops[j]? = some o -> o.op ≠ .select cs b)
  (ht : tailsB md ops m = true) (him : m.getD i false = true) (hdone : ∀ listed a, G listed a -> ∀ j, j < ops.size -> m.getD j false = true -> listed.getD j true = true) :
  ∀ (f : Nat) (listed : Array Bool) (a : Act), Cl md ops listed ->
   (∀ j oj, ops[j]? = some oj -> j ≠ i -> listed.getD j true = false -> (∀ e ∈ oj.after, Region.binds md e = true -> e.on ≠ i) -> oi.apart ops oj = true) ->
   i ∈ Region.ready md ops listed -> YieldsIn P ops S oi v a ->
   wpHead P md ops S m G f (listed.setIfInBounds i true) (a.put oi.dst v) -> wpHead P md ops S m G (f + 1) listed a := by
 intro f
 induction f with
 | zero =>
  intro listed a inv _ hr hy H
  have hun := (mem_ready.1 hr).1
  refine ⟨fun h => (by rw [h] at hr; cases hr), fun j hj => ?_⟩
  have hjn := ready_head inv ht him (Array.getElem?_eq_some_iff.1 hi).1 hun j hj
  refine ⟨hjn, ?_⟩
  by_cases hji : j = i
  ·subst hji; exact hy.qOp hi H
  ·obtain ⟨_, oj, hoj, _⟩ := mem_ready.1 hj
   have h1 := hdone _ _ H j (Array.getElem?_eq_some_iff.1 hoj).1 hjn
   rw [getD_set_ne true (Ne.symm hji), (mem_ready.1 hj).1] at h1
   cases h1
 | succ f ih =>
  intro listed a inv hfree hr hy H
  have hun := (mem_ready.1 hr).1
  refine ⟨fun h => (by rw [h] at hr; cases hr), fun j hj => ?_⟩
  have hjn := ready_head inv ht him (Array.getElem?_eq_some_iff.1 hi).1 hun j hj
  refine ⟨hjn, ?_⟩
  by_cases hji : j = i
  ·subst hji; exact hy.qOp hi H
  ·have h1 := (H.2 j (ready_mono hj hji)).2
   obtain ⟨hjun, oj, hoj, hall⟩ := mem_ready.1 hj
   have hnot : ∀ e ∈ oj.after, Region.binds md e = true -> e.on ≠ i := fun e he hb heq => by
    have h1 := hall e he hb
    rw [heq, getD_both hun] at h1
    cases h1
   have h2 := qOp_put hoj (hfree j oj hoj hji hjun hnot) (fun cs b => hsel i oi cs b hi) (fun cs b => hsel j oj cs b hoj) hy h1
   have hfree' : ∀ k ok, ops[k]? = some ok -> k ≠ i -> (listed.setIfInBounds j true).getD k true = false ->
     (∀ e ∈ ok.after, Region.binds md e = true -> e.on ≠ i) -> oi.apart ops ok = true := fun k ok hk hki hkun hno => by
    refine hfree k ok hk hki ?_ hno
    by_cases hjk : j = k
    ·subst hjk; exact hjun
    ·rw [getD_set_ne true hjk] at hkun; exact hkun
   refine qOp_mono (fun a' h3 => ih (listed.setIfInBounds j true) a' (inv.set hj) hfree' (ready_mono hr (Ne.symm hji)) h3.1 ?_) h2
   rw [Array.setIfInBounds_comm _ _ hji]
   exact h3.2
section
variable {P : Program} {n : Nat} {C : Cx} {k : List Item} {env : Env} {L : Own} {I : Imm} {ops : Array Oper} {i : Nat} {l : List Oper} {o : Oper}
variable {ty : TypeId} {ps : String} {af : Array Edge} {g : Option (Nat × Bool)} {d : Nat}
def wantD (env : Env) (D : List (Option Nat)) : Option (Nat × Bool) -> Option Bool
 | none => some true
 | some (j, b) =>
  match (D[j]?).getD none with
  | some d => match look env d with
   | some (.bool t) => some (t == b)
   | some (.tuple vs) => if vs.toList.isEmpty then some false else none
   | _ => none
  | none => none
theorem wantD_spec {D : List (Option Nat)} {o : Oper} {r : Bool} {a : Act} (hD : ops.toList.map (·.dst) = D) (he : EnvOk n env a) (h : wantD env D o.guard = some r) : Region.wanted o (yielded ops a.tmps) = r := by
 unfold wantD at h
 split at h
 ·rename_i hg
  simp only [Region.wanted, hg]
  simpa using h
 ·rename_i j b hg
  have hj : (ops[j]?).bind (·.dst) = (D[j]?).getD none := by
   subst hD
   rw [List.getElem?_map, Array.getElem?_toList]
   cases ops[j]? <;> rfl
  split at h
  ·rename_i d hd
   rw [hd] at hj
   split at h
   ·rename_i t ht
    simp only [Region.wanted, hg, yielded, hj, Option.bind_some, he.at_ _ _ ht]
    cases h
    cases t <;> cases b <;> rfl
   ·rename_i vs hv
    split at h
    ·cases h
     simp only [Region.wanted, hg, yielded, hj, Option.bind_some, he.at_ _ _ hv]
     rfl
    ·cases h
   ·cases h
  ·cases h
def QD (P : Program) (n : Nat) (C : Cx) (D : List (Option Nat)) (L : Own) (I : Imm) (Z : Env -> Prop) : List Bool -> List Oper -> Env -> Prop
 | [], _, env => Z env
 | _ :: _, [], _ => False
 | false :: ms, _ :: r, env => QD P n C D L I Z ms r env
 | true :: ms, o :: r, env => ∃ v, (∀ t, o.dst = some t -> t < n) /\ (∀ ops : Array Oper, ops.toList.map (·.dst) = D -> ∀ a, EnvOk n env a -> YieldsIn P ops (fun W => Inv C.w0 C.I0 C.L0 I L W) o v a) /\ QD P n C D L I Z ms r (V.put env o.dst v)
theorem QD.nil {D : List (Option Nat)} {Z : Env -> Prop} (h : Z env) : QD P n C D L I Z [] l env := h
theorem list_set_toArray (l : List Bool) (j : Nat) : (l.set j true).toArray = l.toArray.setIfInBounds j true := by
 apply Array.ext'; simp
theorem wpHead_lex {D : List (Option Nat)} {Z : Env -> Prop} {mm : List Bool} {lm : List Bool} (hD : ops.toList.map (·.dst) = D) (hsel : Region.noSelect ops = true) (ht : tailsB .any ops mm = true) (hlm : ((List.range ops.size).all fun i => !(mm.getD i false) || lm.getD i false) = true) :
  ∀ (ms : List Bool) (j : Nat) (l : List Oper) (listed : List Bool) (env : Env) (a : Act), (∀ q, l[q]? = ops[j + q]?) -> (∀ q, ms.getD q false = true -> mm.getD (j + q) false = true) -> Cl .any ops listed.toArray ->
  headB .any ops ms j listed = some lm -> QD P n C D L I Z ms l env -> EnvOk n env a ->
  wpHead P .any ops (fun W => Inv C.w0 C.I0 C.L0 I L W) mm (fun listed' a' => listed' = lm.toArray /\ ∃ env', EnvOk n env' a' /\ Z env') (trues ms) listed.toArray a
 | [], j, l, listed, env, a, _, _, _, hB, h, he => by
  simp only [headB, Option.some.injEq] at hB
  subst hB
  exact ⟨rfl, env, he, h⟩
 | m :: ms, j, [], listed, env, a, hl, hj, inv, hB, h, he => by
  cases m <;> exact h.elim
 | false :: ms, j, o :: l, listed, env, a, hl, hj, inv, hB, h, he => by
  refine wpHead_lex hD hsel ht hlm ms (j + 1) l listed env a (fun q => ?_) (fun q hq => ?_) inv hB h he
  ·have := hl (q + 1)
   simpa [Nat.add_assoc, Nat.add_comm 1 q] using this
  ·have := hj (q + 1) hq
   rwa [show j + (q + 1) = j + 1 + q by omega] at this
 | true :: ms, j, o :: l, listed, env, a, hl, hj, inv, hB, h, he => by
  have h0 : ops[j]? = some o := by simpa using (hl 0).symm
  have hjm : mm.getD j false = true := hj 0 rfl
  simp only [headB] at hB
  split at hB
  ·rename_i hc
   simp only [Bool.and_eq_true] at hc
   obtain ⟨v, hd, hy, hK⟩ := h
   have hr' : j ∈ Region.ready .any ops listed.toArray := by simpa using hc.1
   refine wpHead_first h0 (Region.noSelect_spec hsel) ht hjm (fun listed' a' hL q hqs hq => ?_) (trues ms) listed.toArray a inv (Region.free_spec h0 hc.2) hr' (hy ops hD a he) ?_
   ·obtain ⟨rfl, _⟩ := hL
    have := List.all_eq_true.1 hlm q (List.mem_range.2 hqs)
    rw [hq, Bool.not_true, Bool.false_or] at this
    simp only [List.getD_eq_getElem?_getD] at this
    cases hlq : lm[q]? with
    | none => rw [hlq] at this; cases this
    | some b => rw [hlq] at this; simp only [Option.getD_some] at this; subst this; simp [hlq]
   ·rw [<- list_set_toArray]
    refine wpHead_lex hD hsel ht hlm ms (j + 1) l (listed.set j true) _ _ (fun q => ?_) (fun q hq => ?_) (by rw [list_set_toArray]; exact inv.set hr') hB hK (he.put hd)
    ·have := hl (q + 1)
     simpa [Nat.add_assoc, Nat.add_comm 1 q] using this
    ·have := hj (q + 1) hq
     rwa [show j + (q + 1) = j + 1 + q by omega] at this
  ·cases hB
theorem cl_none (ops : Array Oper) : Cl .any ops (List.replicate ops.size false).toArray :=
 ⟨by simp, fun j oj hj hl => by
  exfalso
  simp only [Array.getD_eq_getD_getElem?, List.getElem?_toArray, List.getElem?_replicate] at hl
  split at hl <;> simp at hl⟩
theorem Run.regionT {id : Nat} {l : List Oper} {D : List (Option Nat)} (S : World -> Prop) (ms : List Bool) (lm : List Bool) (fuel : Nat) (hm : P.follows .mixedOrders = true) (hB : quietB .any l.toArray ms lm = true) (hf : Nat.beq (trues ms + fuel) l.length = true) (hD : l.map (·.dst) = D)
  (h : ∀ Z : Env -> Prop, (∀ e, RAny P n C l.toArray S k fuel lm e L I -> Z e) -> QD P n C D L I Z ms l env) : Run P n C (.code (.region id l.toArray true) :: k) env L I := by
 have head := h _ fun _ h => h
 intro b a cs W hb hk he hi
 simp only [quietB, Bool.and_eq_true, beq_iff_eq] at hB
 obtain ⟨⟨⟨⟨hsel, hms⟩, ht⟩, hhead⟩, hlm⟩ := hB
 have hw : (Code.region id l.toArray true).wp P (Qk P n C k) a W := by
  refine wp_region_any hm ?_
  have H := wpHead_lex (P := P) (n := n) (C := C) (L := L) (I := I) (ops := l.toArray) (D := D) (by simpa using hD) hsel ht hlm ms 0 l (List.replicate l.toArray.size false) env a (fun q => by simp) (fun q hq => by rwa [Nat.zero_add]) (cl_none _) hhead head he
  have := wpAny_of_wpHead (Q' := Qk P n C k) (g := fuel) (fun listed a' w hw hG => by
   obtain ⟨rfl, env', he', hz⟩ := hG
   exact wpAny_of_held _ _ _ _ (hz a' w he' hw)) _ _ _ _ hi.drew H
  rw [show trues ms + fuel = l.toArray.size by have := Nat.eq_of_beq_eq_true hf; simpa using this] at this
  have e : (List.replicate l.toArray.size false).toArray = Array.replicate l.toArray.size false := by apply Array.ext'; simp
  rw [e] at this
  exact this
 obtain ⟨e, a', W', hq, harr⟩ := hw b k cs
 cases e with
 | normal =>
  obtain ⟨env', L', I', he', hi', hrun⟩ := hq
  obtain ⟨e, W2, fr, h1, h2, h3⟩ := hrun b a' cs W' hb hk he' hi'
  exact ⟨e, W2, fr, h1, Comes.of_steps harr h2, h3⟩
 | _ => exact hq.elim
theorem Run.regionQ {id : Nat} {l : List Oper} {D : List (Option Nat)} (ms : List Bool) (lm : List Bool) (hm : P.follows .mixedOrders = true) (hB : quietB .any l.toArray ms lm = true) (hf : Nat.beq (trues ms + 0) l.length = true) (hr : Region.ready .any l.toArray lm.toArray = []) (hD : l.map (·.dst) = D)
  (h : ∀ Z : Env -> Prop, (∀ e, Run P n C k e L I -> Z e) -> QD P n C D L I Z ms l env) : Run P n C (.code (.region id l.toArray true) :: k) env L I :=
 Run.regionT (fun _ => True) ms lm 0 hm hB hf hD fun Z hZ => h Z fun e he => hZ e (RAny.done _ hr he)
theorem Ops.quiet {D : List (Option Nat)} {Z : Env -> Prop} (hD : ops.toList.map (·.dst) = D) : ∀ (ms : List Bool) (hms : ms.all id = true) (i : Nat) (l : List Oper) (env : Env), QD P n C D L I Z ms l env -> (∀ e, Z e -> Ops P n C ops (i + ms.length) (l.drop ms.length) k e L I) -> Ops P n C ops i l k env L I
 | [], _, i, l, env, h, next => next env h
 | m :: ms, _, i, [], env, h, next => by cases m <;> exact h.elim
 | false :: ms, hms, i, o :: l, env, h, next => by simp at hms
 | true :: ms, hms, i, o :: l, env, h, next => by
  obtain ⟨v, hd, hy, hK⟩ := h
  have ih := Ops.quiet hD ms (by simpa using hms) (i + 1) l _ hK (fun e he => by have := next e he; simp only [List.length_cons, List.drop_succ_cons] at this; rwa [show i + 1 + ms.length = i + (ms.length + 1) by omega])
  intro hl
  obtain ⟨ho, hl'⟩ := Ops.head hl
  intro b a cs W hb hk he hi
  rcases hy ops hD a he with ⟨hw, hq⟩ | ⟨hw, rfl⟩
  ·have hqW := hq W hi
   unfold Oper.quietAt at hqW
   have fin : ∀ W', Inv C.w0 C.I0 C.L0 I L W' -> Steps P (lone (b.at a (.inRegion ops (i :: List.range' (i + 1) l.length) :: k)) cs W) (lone (b.at (a.put o.dst v) (.inRegion ops (List.range' (i + 1) l.length) :: k)) cs W') ->
     ∃ e W'' fr, Ends C.w0 C.I0 C.L0 C.R e W'' /\ Comes P (lone (b.at a (.inRegion ops (List.range' i (o :: l).length) :: k)) cs W) (lone fr cs W'') e /\ fr.fn = C.f /\ fr.leaving P W'' e := fun W' hi' hs => by
    obtain ⟨e, W2, fr, h1, h2, h3⟩ := ih hl' b _ cs W' hb hk (he.put hd) hi'
    refine ⟨e, W2, fr, h1, Comes.of_steps ?_ h2, h3⟩
    simpa [List.range'_succ] using hs
   generalize hr : (execOp a.eval o).run P W = r at hqW
   cases r with
   | ok nx w' =>
    cases nx <;> simp only [Oper.quietUpon] at hqW
    case value u =>
     obtain ⟨rfl, rfl⟩ := hqW
     exact fin _ hi (steps_value ho hw hr)
    case skip =>
     obtain ⟨rfl, rfl⟩ := hqW
     exact fin _ hi (steps_skip ho hw hr)
    case enter f args =>
     obtain ⟨rfl, hc⟩ := hqW
     obtain ⟨v', W2, ⟨hv, hi2⟩, hs⟩ := steps_call (k := k) (b := b) (cs := cs) (rest := List.range' (i + 1) l.length) ho hw hr hc (fun e w'' ⟨he, _⟩ => ⟨v, he⟩)
     cases hv
     exact fin _ hi2 hs
   | halt x w' => simp only [Oper.quietUpon] at hqW
  ·have hs := step_op_skip (P := P) (b := b) (a := a) (k := k) (cs := cs) (w := W) (ops := ops) (i := i) (rest := List.range' (i + 1) l.length) (by simp [ho, hw])
   simp only [ho, Option.bind_some] at hs
   obtain ⟨e, W', fr, h1, h2, h3⟩ := ih hl' b _ cs W hb hk (he.put hd) hi
   refine ⟨e, W', fr, h1, Comes.of_steps (.one ?_) h2, h3⟩
   simpa [List.range'_succ] using hs
theorem Run.regionP {id : Nat} {l l2 : List Oper} {D : List (Option Nat)} (ms : List Bool) (m : Nat) (hms : ms.all (fun b => b) = true) (hml : ms.length = m) (hD : l.map (·.dst) = D) (hl : l.drop m = l2) (h : ∀ Z : Env -> Prop, (∀ e, Ops P n C l.toArray m l2 k e L I -> Z e) -> QD P n C D L I Z ms l env) :
  Run P n C (.code (.region id l.toArray false) :: k) env L I := by
 subst hl; subst hml
 exact Run.region (Ops.quiet (by simpa using hD) ms hms 0 l env (h _ fun _ h => h) fun e he => by simpa using he)
theorem Run.regionO {id : Nat} {l : List Oper} {D : List (Option Nat)} (ms : List Bool) (hms : ms.all (fun b => b) = true) (hD : l.map (·.dst) = D) (hm : l.length = ms.length) (h : ∀ Z : Env -> Prop, (∀ e, Run P n C k e L I -> Z e) -> QD P n C D L I Z ms l env) :
  Run P n C (.code (.region id l.toArray false) :: k) env L I :=
 Run.regionP ms ms.length hms rfl hD (by rw [<- hm]; exact List.drop_length) fun Z hZ => h Z fun e he => hZ e (Ops.nil he)
variable {D : List (Option Nat)} {Z : Env -> Prop} {m : List Bool} {r : List Oper}
def Yv (P : Program) (n : Nat) (env : Env) (S : World -> Prop) (op : Op) (v : Value) : Prop := ∀ a W, EnvOk n env a -> S W -> ∀ dst ty ps af g, (execOp a.eval ⟨dst, op, ty, ps, af, g⟩).run P W = .ok (.value v) W
theorem QD.yv {op : Op} {v : Value} (hd : d < n) (hg : wantD env D g = some true) (hy : Yv P n env (Holds I L) op v) (next : QD P n C D L I Z m r ((d, v) :: env)) : QD P n C D L I Z (true :: m) (⟨some d, op, ty, ps, af, g⟩ :: r) env :=
 ⟨v, dOk hd, fun ops hD a he => .inl ⟨wantD_spec hD he hg, fun W hi => by
   unfold Oper.quietAt
   rw [hy a W he (hi.holds (Le.refl _) fun _ h => h)]
   exact ⟨rfl, rfl⟩⟩, next⟩
theorem QD.ev {op : Op} {v : Value} (T : Tab P) (hd : d < n) (hg : wantD env D g = some true) (h : evalOp T env op = some v) (next : QD P n C D L I Z m r ((d, v) :: env)) : QD P n C D L I Z (true :: m) (⟨some d, op, ty, ps, af, g⟩ :: r) env :=
 QD.yv hd hg (fun a W he _ _ _ _ _ _ => evalOp_ok h he W) next
theorem QD.off {op : Op} (hd : d < n) (hg : wantD env D g = some false) (next : QD P n C D L I Z m r ((d, undef) :: env)) : QD P n C D L I Z (true :: m) (⟨some d, op, ty, ps, af, g⟩ :: r) env :=
 ⟨undef, dOk hd, fun ops hD a he => .inr ⟨wantD_spec hD he hg, rfl⟩, next⟩
theorem QD.callW {op : Op} {f : FuncId} {args : List Value} {v : Value} (hd : d < n) (hg : wantD env D g = some true)
  (hr : ∀ a W, EnvOk n env a -> (execOp a.eval ⟨some d, op, ty, ps, af, g⟩).run P W = .ok (.enter f args.toArray) W) (hs : Pure P f args I fun w J => w = v /\ J = I)
  (next : QD P n C D L I Z m r ((d, v) :: env)) : QD P n C D L I Z (true :: m) (⟨some d, op, ty, ps, af, g⟩ :: r) env :=
 ⟨v, dOk hd, fun ops hD a he => .inl ⟨wantD_spec hD he hg, fun W hi => by
  unfold Oper.quietAt
  rw [hr a W he]
  refine ⟨rfl, ?_⟩
  have hE : Eff P n C env L I ⟨some d, op, ty, ps, af, g⟩ fun w L1 I1 => w = v /\ L1 = L /\ I1 = I :=
   Eff.callW (M := []) (N := L) hr (.refl _) hs fun w J M' hle ⟨hM, hw, hJ⟩ => ⟨hw, by rw [hM]; rfl, hJ⟩
  rcases hE a W he hi with ⟨v1, W1, L1, I1, h1, _⟩ | ⟨f', args', h1, h2⟩
  ·exfalso
   rw [hr a W he] at h1
   rcases h1 with h1 | ⟨h1, _⟩ <;> cases h1
  ·rw [hr a W he] at h1
   cases h1
   exact h2.mono fun e W' ⟨w, L1, I1, e1, e2, e3, e4, e5⟩ => ⟨by rw [e1, e3], by rw [<- e4, <- e5]; exact e2⟩⟩, next⟩
theorem Pure.keeps {f : FuncId} {args : List Value} {v : Value} (h : Pure P f args I fun w J => w = v) : Pure P f args I fun w J => w = v /\ J = I := by
 intro w0 hf
 refine (h w0 hf).mono ?_
 rintro e W ⟨v', J, M, rfl, ⟨rfl, rfl⟩, hi⟩
 exact ⟨_, I, [], rfl, ⟨rfl, rfl, rfl⟩, { hi with fits := ⟨fun b o hb => hi.fits.imm b o (hi.ext b o hb), hi.fits.own, fun b o hm => by simp at hm, hi.fits.nd⟩, ext := Le.refl _, newI := fun b o hb => .inl hb }⟩
theorem QD.call {f : FuncId} {xs : List Operand} {ats : Array TypeId} {vs : List Value} {v : Value} (hs : Pure P f vs I fun w J => w = v) (hd : d < n) (hg : wantD env D g = some true)
  (hc : ∀ args w, (callFunc f args).run P w = .ok (.enter f args) w) (hx : opnds env xs = some vs)
  (next : QD P n C D L I Z m r ((d, v) :: env)) : QD P n C D L I Z (true :: m) (⟨some d, .call ⟨.value (.func f), xs.toArray, ats⟩, ty, ps, af, g⟩ :: r) env :=
 QD.callW hd hg (fun a W he => run_callF hc he hx) hs.keeps next
theorem Yv.load {J : Imm} {M : Own} {t : TypeId} {x : Operand} {b off : Nat} {v : Value} (j : Nat) {cs : List Value} {t' : TypeId} (T : Tab P) (hx : opnd env x = some (.pointer (some ⟨b, off, none⟩)))
  (hM : M[j]? = some (b, blk cs t')) (ha : T.agg t = some false) (hv : cs[off]? = some v) : Yv P n env (Holds J M) (.load t x) v :=
 fun a W he hS _ _ _ _ _ => by simp [execOp, Instr.loadAt, Instr.sureAddr, eval_opnd he hx, run_loadVar1 (T.aggOk ha) (hS.own j hM hv)]
theorem Yv.loadI {J : Imm} {M : Own} {t : TypeId} {x : Operand} {b off : Nat} {v : Value} (T : Tab P) (hA : At J b off [v]) (hx : opnd env x = some (.pointer (some ⟨b, off, none⟩)))
  (ha : T.agg t = some false) : Yv P n env (Holds J M) (.load t x) v :=
 fun a W he hS _ _ _ _ _ => by simp [execOp, Instr.loadAt, Instr.sureAddr, eval_opnd he hx, run_loadVar1 (T.aggOk ha) (by simpa using hS.cell hA 0 v rfl)]
theorem Yv.loadN {J : Imm} {M : Own} {t : TypeId} {x : Operand} {b off q : Nat} {vs : List Value} (j : Nat) {cs : List Value} {t' : TypeId} (T : Tab P) (hx : opnd env x = some (.pointer (some ⟨b, off, none⟩)))
  (hM : M[j]? = some (b, blk cs t')) (ha : T.agg t = some true) (hs : T.size t = some q) (hv : (cs.drop off).take q = vs) (hm : vs.length = q) : Yv P n env (Holds J M) (.load t x) (.agg vs.toArray) :=
 fun a W he hS _ _ _ _ _ => by
  have hc : ∀ j v, vs[j]? = some v -> W.cell? ⟨b, off + j, none⟩ = some v := fun q v h => by
   rw [cell_blk (hS.2 b _ (List.mem_of_getElem? hM))]
   rw [<- hv, List.getElem?_take] at h
   split at h
   ·simpa using h
   ·cases h
  simp [execOp, Instr.loadAt, Instr.sureAddr, eval_opnd he hx, run_loadVarN (T.aggOk ha) (T.sizeOk hs) hm hc]
theorem Eff.yv {op : Op} {v : Value} {K : Value -> Own -> Imm -> Prop} (hy : Yv P n env (Holds I L) op v) (next : K v L I) : Eff P n C env L I ⟨some d, op, ty, ps, af, g⟩ K :=
 Eff.valW fun a W he hi => ⟨v, W, L, I, .inl (hy a W he (hi.holds (Le.refl _) fun _ h => h) _ _ _ _ _), hi, next⟩
theorem Yld.yv {S : World -> Prop} {op : Op} {v : Value} (hg : want env ops g = some true) (hy : ∀ W, S W -> Holds I L W) (h : Yv P n env (Holds I L) op v) : Yld P n env ops S ⟨some d, op, ty, ps, af, g⟩ v :=
 .inl ⟨hg, fun a W he hS => h a W he (hy W hS) _ _ _ _ _⟩
end
end Go.V
