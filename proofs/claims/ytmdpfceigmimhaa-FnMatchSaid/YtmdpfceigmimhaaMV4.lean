/-
  What a value stands for: numbers, truths, texts, slices, structs; slices that are read, cut, built, grown.
-/
import Derived.Test.YtmdpfceigmimhaaMV3
namespace Go.V
open Go.RowKit
set_option linter.unusedVariables false
set_option linter.unusedSimpArgs false
/-- what a row of cells stands for -/
structure Ty (α : Type) where
  size : Nat
  rel : Imm → List Value → α → Prop
  len : ∀ {I cs x}, rel I cs x → cs.length = size
  mono : ∀ {I J cs x}, rel I cs x → Le I J → rel J cs x
def tInt (kd : IntKind) : Ty Int := ⟨1, fun _ cs x => cs = [.int kd x], fun h => by subst h; rfl, fun h _ => h⟩
def tBool : Ty Bool := ⟨1, fun _ cs x => cs = [.bool x], fun h => by subst h; rfl, fun h _ => h⟩
def tStr : Ty (List UInt8) := ⟨1, fun _ cs x => cs = [str x], fun h => by subst h; rfl, fun h _ => h⟩
def tPair {α β : Type} (t : Ty α) (u : Ty β) : Ty (α × β) :=
  ⟨t.size + u.size, fun I cs x => ∃ c1 c2, cs = c1 ++ c2 ∧ t.rel I c1 x.1 ∧ u.rel I c2 x.2,
   fun ⟨c1, c2, h, h1, h2⟩ => by subst h; simp [t.len h1, u.len h2], fun ⟨c1, c2, h, h1, h2⟩ hle => ⟨c1, c2, h, t.mono h1 hle, u.mono h2 hle⟩⟩
/-- elements that stand one behind the other in an immutable block -/
def RowAt {α : Type} (t : Ty α) (I : Imm) (b off : Nat) (xs : List α) : Prop :=
  ∀ (i : Nat) x, xs[i]? = some x → ∃ cs, t.rel I cs x ∧ At I b (off + i * t.size) cs
theorem RowAt.mono {α : Type} {t : Ty α} {I J : Imm} {b off : Nat} {xs : List α} (h : RowAt t I b off xs) (hle : Le I J) : RowAt t J b off xs :=
  fun i x hx => let ⟨cs, h1, h2⟩ := h i x hx; ⟨cs, t.mono h1 hle, h2.mono hle⟩
/-- a slice value stands for a list -/
def Sl {α : Type} (t : Ty α) (I : Imm) (v : Value) (xs : List α) : Prop :=
  ∃ A c, v = .slice A xs.length c ∧ xs.length ≤ c ∧ (xs = [] ∨ ∃ b off, A = some ⟨b, off, none⟩ ∧ RowAt t I b off xs)
theorem Sl.mono {α : Type} {t : Ty α} {I J : Imm} {v : Value} {xs : List α} (h : Sl t I v xs) (hle : Le I J) : Sl t J v xs :=
  let ⟨A, c, h1, h2, h3⟩ := h; ⟨A, c, h1, h2, h3.imp id fun ⟨b, off, h4, h5⟩ => ⟨b, off, h4, h5.mono hle⟩⟩
def tSl {α : Type} (t : Ty α) : Ty (List α) :=
  ⟨1, fun I cs xs => ∃ v, cs = [v] ∧ Sl t I v xs, fun ⟨v, h, _⟩ => by subst h; rfl, fun ⟨v, h, k⟩ hle => ⟨v, h, k.mono hle⟩⟩
theorem Sl.nil {α : Type} (t : Ty α) (I : Imm) : Sl t I (.slice none 0 0) [] := ⟨none, 0, rfl, Nat.le_refl _, .inl rfl⟩
/-- a slice that the call owns: its cells so far -/
def Grows (e : TypeId) (size : Nat) (v : Value) (m : Nat) (xs : List Value) (M : Own) : Prop :=
  xs.length = m * size ∧ ((v = .slice none 0 0 ∧ m = 0 ∧ M = []) ∨
    ∃ b cap cur, v = .slice (some ⟨b, 0, none⟩) m cap ∧ M = [(b, .cells cur e (0, 0))] ∧ m ≤ cap ∧ cur.size = cap * size ∧ cur.toList.take (m * size) = xs)
theorem Grows.nil (e : TypeId) (size : Nat) : Grows e size (.slice none 0 0) 0 [] [] := ⟨by simp, .inl ⟨rfl, rfl, rfl⟩⟩
section
variable {P : Program} {n : Nat} {C : Cx} {k : List Item} {env : Env} {L : Own} {I : Imm} {ops : Array Oper} {i : Nat} {l : List Oper}
variable {ty : TypeId} {ps : String} {af : Array Edge} {g : Option (Nat × Bool)} {d : Nat}
theorem Ops.lenSl {α : Type} {t : Ty α} {x : Operand} {v : Value} {xs : List α} {ts : TypeId} {e : TypeId} (hs : Sl t I v xs) (hg : want env ops g = some true) (hd : d < n) (hx : opnd env x = some v) (hu : ∀ w, (underlying ts).run P w = .ok (.slice e) w)
    (next : Ops P n C ops (i + 1) l k ((d, .int .i64 xs.length) :: env) L I) : Ops P n C ops i (⟨some d, .call ⟨.builtin .len, #[x], #[ts]⟩, ty, ps, af, g⟩ :: l) k env L I := by
  obtain ⟨A, c, rfl, _⟩ := hs
  exact Ops.val hg (dOk hd) (fun a W he _ => by simp [execOp, resolve, invoke, builtin, Builtin.len_, eval_opnd he hx, hu, goInt]) next
theorem Ops.lenV {x : Operand} {A : Option Addr} {m c : Nat} {ts : TypeId} {e : TypeId} (hg : want env ops g = some true) (hd : d < n) (hx : opnd env x = some (.slice A m c)) (hu : ∀ w, (underlying ts).run P w = .ok (.slice e) w)
    (next : Ops P n C ops (i + 1) l k ((d, .int .i64 m) :: env) L I) : Ops P n C ops i (⟨some d, .call ⟨.builtin .len, #[x], #[ts]⟩, ty, ps, af, g⟩ :: l) k env L I :=
  Ops.val hg (dOk hd) (fun a W he _ => by simp [execOp, resolve, invoke, builtin, Builtin.len_, eval_opnd he hx, hu, goInt]) next
/-- x[j] of a slice that is read: where it stands -/
theorem Ops.indexSl {α : Type} {t : Ty α} {x ix : Operand} {v : Value} {xs : List α} {kd : IntKind} {j : Int} {ts e : TypeId} (hs : Sl t I v xs) (hg : want env ops g = some true) (hd : d < n) (hx : opnd env x = some v) (hi : opnd env ix = some (.int kd j))
    (hu : ∀ w, (underlying ts).run P w = .ok (.slice e) w) (hz : ∀ w, (sizeOf e).run P w = .ok t.size w) (h0 : 0 ≤ j) (h1 : j < xs.length)
    (next : ∀ b off q cs, xs[j.toNat]? = some q → t.rel I cs q → At I b off cs → Ops P n C ops (i + 1) l k ((d, .pointer (some ⟨b, off, none⟩)) :: env) L I) :
    Ops P n C ops i (⟨some d, .indexAddr ts x ix, ty, ps, af, g⟩ :: l) k env L I := by
  obtain ⟨A, c, rfl, _, h⟩ := hs
  rcases h with rfl | ⟨b, off, rfl, hrow⟩
  · simp at h1; omega
  · have hj : j.toNat < xs.length := by omega
    obtain ⟨cs, hr, hA⟩ := hrow j.toNat xs[j.toNat] (List.getElem?_eq_getElem hj)
    refine Ops.val (v := .pointer (some ⟨b, off + j.toNat * t.size, none⟩)) hg (dOk hd) (fun a W he _ => ?_) (next b _ _ cs (List.getElem?_eq_getElem hj) hr hA)
    simp [execOp, Instr.indexAt, eval_opnd he hx, eval_opnd he hi, asIntOf, hu, hz, h0, h1, add_off]
theorem run_sliceBounds {hi lo : Option Value} {len cap l h : Nat} {kd kd' : IntKind} (hh : hi = none ∧ h = len ∨ hi = some (.int kd h)) (hl : lo = none ∧ l = 0 ∨ lo = some (.int kd' l)) (h1 : h ≤ cap) (h2 : l ≤ h) (w : World) :
    (Instr.sliceBounds true len cap lo hi none).run P w = .ok (l, h, cap) w := by
  rcases hh with ⟨rfl, rfl⟩ | rfl <;> rcases hl with ⟨rfl, rfl⟩ | rfl
  · simp [Instr.sliceBounds]
  · have := run_sliceBound (P := P) (v := .int kd' l) (y := h) (code := .sliceB) rfl (by omega) (by omega) w
    simp [Instr.sliceBounds, this]
  · have := run_sliceBound (P := P) (v := .int kd h) (y := cap) (code := .sliceAcap) rfl (by omega) (by omega) w
    simp [Instr.sliceBounds, this]
  · have hA := run_sliceBound (P := P) (v := .int kd h) (y := cap) (code := .sliceAcap) rfl (by omega) (by omega) w
    have hB := run_sliceBound (P := P) (v := .int kd' l) (y := h) (code := .sliceB) rfl (by omega) (by omega) w
    simp [Instr.sliceBounds, hA, hB]
theorem RowAt.cut {α : Type} {t : Ty α} {b off : Nat} {xs : List α} (h : RowAt t I b off xs) (lo hi : Nat) : RowAt t I b (off + lo * t.size) ((xs.take hi).drop lo) := by
  intro i x hx
  rw [List.getElem?_drop, List.getElem?_take] at hx
  split at hx
  · obtain ⟨cs, h1, h2⟩ := h (lo + i) x hx
    refine ⟨cs, h1, ?_⟩
    rw [Nat.add_assoc, ← Nat.add_mul]; exact h2
  · cases hx
/-- x[lo:hi] of a slice that is read -/
theorem Ops.sliceSl {α : Type} {t : Ty α} {x : Operand} {v : Value} {xs : List α} {lo hi : Option Operand} {l' h' : Nat} {kd kd' : IntKind} {ts e : TypeId} (hs : Sl t I v xs) (hg : want env ops g = some true) (hd : d < n) (hx : opnd env x = some v)
    (hh : hi = none ∧ h' = xs.length ∨ ∃ o, hi = some o ∧ opnd env o = some (.int kd h')) (hl : lo = none ∧ l' = 0 ∨ ∃ o, lo = some o ∧ opnd env o = some (.int kd' l')) (h1 : l' ≤ h') (h2 : h' ≤ xs.length)
    (hu : ∀ w, (underlying ts).run P w = .ok (.slice e) w) (hz : ∀ w, (sizeOf e).run P w = .ok t.size w)
    (next : ∀ v', Sl t I v' ((xs.take h').drop l') → Ops P n C ops (i + 1) l k ((d, v') :: env) L I) :
    Ops P n C ops i (⟨some d, .slice ts x lo hi none, ty, ps, af, g⟩ :: l) k env L I := by
  obtain ⟨A, c, rfl, hc, h⟩ := hs
  have hlen : ((xs.take h').drop l').length = h' - l' := by simp; omega
  refine Ops.val (v := .slice (if c = l' then A else A.map (·.add (l' * t.size))) (h' - l') (c - l')) hg (dOk hd) (fun a W he _ => ?_) (next _ ?_)
  · have hb := run_sliceBounds (P := P) (hi := hi.map a.eval) (lo := lo.map a.eval) (len := xs.length) (cap := c) (l := l') (h := h') (kd := kd) (kd' := kd')
      (by rcases hh with ⟨rfl, rfl⟩ | ⟨o, rfl, ho⟩
          · exact .inl ⟨rfl, rfl⟩
          · exact .inr (by simp [eval_opnd he ho]))
      (by rcases hl with ⟨rfl, rfl⟩ | ⟨o, rfl, ho⟩
          · exact .inl ⟨rfl, rfl⟩
          · exact .inr (by simp [eval_opnd he ho])) (by omega) h1 W
    simp [execOp, Instr.sliceAt, Instr.slice, eval_opnd he hx, hu, hb, hz]
  · refine ⟨_, _, by rw [hlen], by rw [hlen]; omega, ?_⟩
    rcases h with rfl | ⟨b, off, rfl, hrow⟩
    · left; simp
    · by_cases hcl : c = l'
      · left
        apply List.eq_nil_of_length_eq_zero
        rw [hlen]; omega
      · right
        rw [if_neg hcl]
        exact ⟨b, off + l' * t.size, by simp [add_off], hrow.cut l' h'⟩
def parts (env : Env) : List (Nat × Operand) → Option (List (Nat × Value))
  | [] => some []
  | (j, x) :: r => match opnd env x, parts env r with
    | some v, some vs => some ((j, v) :: vs)
    | _, _ => none
theorem parts_spec {a : Act} (he : EnvOk n env a) : ∀ {xs : List (Nat × Operand)} {vs : List (Nat × Value)}, parts env xs = some vs → xs.map (fun (p : Nat × Operand) => (p.1, a.eval p.2)) = vs
  | [], vs, h => by simp [parts] at h; simp [h]
  | (j, x) :: r, vs, h => by
    simp only [parts] at h
    split at h
    · rename_i v ws h1 h2
      cases h
      simp [eval_opnd he h1, parts_spec he h2]
    · cases h
theorem Ops.build {t : TypeId} {xs : List (Nat × Operand)} {vs : List (Nat × Value)} {pl : Nat → Option (Nat × Nat)} {z : Array Value} {cs : List Value}
    (hb : ∀ w ps cells, Instr.fill pl z ps = some cells → (Instr.build t ps.toArray).run P w = .ok (.agg cells) w) (hg : want env ops g = some true) (hd : d < n)
    (hx : parts env xs = some vs) (hf : Instr.fill pl z vs = some cs.toArray)
    (next : Ops P n C ops (i + 1) l k ((d, .agg cs.toArray) :: env) L I) : Ops P n C ops i (⟨some d, .build t xs.toArray, ty, ps, af, g⟩ :: l) k env L I :=
  Ops.val hg (dOk hd) (fun a W he _ => by
    have h := hb W vs cs.toArray hf
    rw [← parts_spec he hx] at h
    simp only [execOp, List.map_toArray, Sem.run_bind]
    have hm : (List.map (fun (x : Nat × Operand) => match x with | (i, x) => (i, a.eval x)) xs) = xs.map (fun (p : Nat × Operand) => (p.1, a.eval p.2)) := rfl
    rw [hm, h]; rfl) next
theorem Ops.buildSlice {t e : TypeId} {len size : Nat} {xs : List (Nat × Operand)} {vs : List (Nat × Value)} {z : Value} {cs : List Value}
    (hu : ∀ w, (underlying t).run P w = .ok (.slice e) w) (hz : ∀ w, (zeroValue e).run P w = .ok z w) (hs : ∀ w, (sizeOf e).run P w = .ok size w) (hg : want env ops g = some true) (hd : d < n)
    (hlen : len * size ≤ 16777216) (hx : parts env xs = some vs) (hf : Instr.fill (fun i => some (i * size, size)) ((Array.range (len * size)).map (z.cells[· % z.cells.size]!)) vs = some cs.toArray)
    (next : ∀ b, Ops P n C ops (i + 1) l k ((d, .slice (some ⟨b, 0, none⟩) len len) :: env) ((b, blk cs e) :: L) I) : Ops P n C ops i (⟨some d, .buildSlice t len xs.toArray, ty, ps, af, g⟩ :: l) k env L I :=
  Ops.valW hg (dOk hd) fun a W he hi => ⟨.slice (some ⟨W.heap.size, 0, none⟩) len len, W.alloc (blk cs e), (W.heap.size, blk cs e) :: L, I,
    .inl (by
      have h1 : ¬ (len * size > 2 ^ 24) := by omega
      have h2 := parts_spec he hx
      have hmap : (List.map (fun (x : Nat × Operand) => match x with | (i, x) => (i, a.eval x)) xs) = vs := h2
      simp only [execOp, Instr.buildSlice, Sem.run_bind, hu, hs, Result.andThen_ok, h1, if_false, List.map_toArray, hmap, pure_bind, Sem.run_pure]
      by_cases h0 : len * size = 0
      · rw [if_pos h0]
        have hf' : Instr.fill (fun i => some (i * size, size)) ((Array.range (len * size)).map ((#[] : Array Value)[· % (#[] : Array Value).size]!)) vs = some cs.toArray := by
          have e : ∀ f : Nat → Value, (Array.range 0).map f = #[] := fun f => by simp
          rw [h0, e] at hf ⊢; exact hf
        simp only [hf']
        rfl
      · rw [if_neg h0]
        simp only [Sem.run_bind, hz, Result.andThen_ok, hf]
        rfl), hi.alloc _, next _⟩
structure Elem (P : Program) (ts e : TypeId) (size bytes : Nat) : Prop where
  under : P.underlying ts = some (.slice e)
  info : ∃ i z, P.info? e = some i ∧ i.zero = some z ∧ i.size = size ∧ i.bytes = bytes ∧ z.cells.size = size
theorem nextcap_le (need cap : Nat) (h : cap < need) : Builtin.nextslicecap need cap ≤ 2 * need + 512 := by
  unfold Builtin.nextslicecap
  split
  · omega
  · split
    · omega
    · have hg : ∀ r c, c ≤ 2 * need + 512 → Builtin.growBy need r c ≤ 2 * need + 512 := by
        intro r
        induction r with
        | zero => intro c hc; simpa [Builtin.growBy] using hc
        | succ r ih =>
          intro c hc
          simp only [Builtin.growBy]
          split
          · exact hc
          · exact ih _ (by omega)
      exact hg 4 cap (by omega)
theorem run_append_grows {ts tx e : TypeId} {size bytes : Nat} (hE : Elem P ts e size bytes) {W : World} {w0 : World} {I0 : Imm} {L0 : List Nat} {M N : Own} {v x : Value} {m q : Nat} {xs news : List Value} (hi : Inv w0 I0 L0 I (M ++ N) W)
    (hG : Grows e size v m xs M) (hx : Src P size tx x q news W) (hbytes : (2 * (m + q) + 512) * bytes ≤ 281474976710656) (h63 : m + q ≤ 4611686018427387904) :
    ∃ v' W' M', (Builtin.append_ #[ts, tx] ty #[v, x]).run P W = .ok v' W' ∧ Grows e size v' (m + q) (xs ++ news) M' ∧ Inv w0 I0 L0 I (M' ++ N) W' := by
  obtain ⟨iE, z, hinfo, hzero, rfl, rfl, hzs⟩ := hE.info
  have hlen : (xs ++ news).length = (m + q) * iE.size := by rw [List.length_append, hG.1, hx.newsLen, Nat.add_mul]
  have grow : ∀ (base : Option Addr) (cap : Nat), v = .slice base m cap → cap < m + q → (Builtin.firstCells iE.size m (.slice base m cap)).run P W.drew = .ok xs.toArray W.drew → M.length ≤ 1 →
      ∃ v' W' M', (Builtin.append_ #[ts, tx] ty #[v, x]).run P W = .ok v' W' ∧ Grows e iE.size v' (m + q) (xs ++ news) M' ∧ Inv w0 I0 L0 I (M' ++ N) W' := by
    intro base cap hv hcap hold hM
    have hr := run_append_grow_src (P := P) W ts tx ty e iE z hE.under hinfo hzero base m cap xs hold x q news hx hcap (by omega)
      (Nat.le_trans (Nat.mul_le_mul_right _ (nextcap_le _ _ hcap)) hbytes)
    subst hv
    have hge := grownCap_ge W (m + q) cap e
    refine ⟨_, _, [(W.heap.size, .cells ((xs ++ news).toArray ++ Builtin.zeroCells z.cells (grownCap W (m + q) cap e - (m + q))) e (0, 0))], hr, ⟨hlen, .inr ⟨W.heap.size, _, _, rfl, rfl, hge, ?_, ?_⟩⟩, ?_⟩
    · simp only [Array.size_append, List.size_toArray, size_zeroCells, hzs, hlen, ← Nat.add_mul]
      congr 1
      omega
    · simp only [Array.toList_append]
      rw [← hlen]
      exact List.take_left
    · have h1 : Inv w0 I0 L0 I N W := hi.weakenL (List.sublist_append_right _ _)
      have h2 := h1.drew.alloc (.cells ((xs ++ news).toArray ++ Builtin.zeroCells z.cells (grownCap W (m + q) cap e - (m + q))) e (0, 0))
      exact h2
  rcases hG.2 with ⟨rfl, rfl, rfl⟩ | ⟨b, cap, cur, rfl, rfl, hmc, hcs, htake⟩
  · have hxs : xs = [] := List.eq_nil_of_length_eq_zero (by simpa using hG.1)
    subst hxs
    by_cases hq : q = 0
    · subst hq
      have hnews : news = [] := List.eq_nil_of_length_eq_zero (by simpa using hx.newsLen)
      subst hnews
      refine ⟨.slice none 0 0, W, [], ?_, Grows.nil e _, hi⟩
      rcases hx.kind with ⟨e', hk⟩ | hk <;>
        simp [Builtin.append_, run_underlying hE.under, run_underlying hk, sizeOf, typeInfo, hinfo, hx.len, hx.cells]
    · exact grow none 0 rfl (by omega) (by simp [Builtin.firstCells]) (by simp)
  · have hW := hi.fits.own b _ (List.mem_append_left _ (List.mem_singleton.2 rfl))
    by_cases hroom : m + q ≤ cap
    · have hfit : m * iE.size + news.length ≤ cur.size := by rw [hx.newsLen, hcs, ← Nat.add_mul]; exact Nat.mul_le_mul_right _ hroom
      have hr := run_append_room_src (P := P) W ts tx ty e iE hE.under hinfo b 0 m cap x q news hx hroom
        (fun j hj => by rw [cell_blk hW]; simp; omega) (fun j hj => by simp [World.frozen?, hW])
      have hst := run_storeCells_at P b (m * iE.size) e news 0 cur W hW (by simpa using hfit) hx.one
      have hst2 := run_storeCells_cells (P := P) b (m * iE.size) news 0 W (fun j hj => by rw [cell_blk hW]; simp; omega) (fun j hj => by simp [World.frozen?, hW]) hx.one
      rw [hst] at hst2
      simp only [Nat.add_zero, Nat.zero_add] at hst2 hr
      have hw : W.setCells b (m * iE.size) news = W.setRow b (cur.toList.take (m * iE.size) ++ news ++ cur.toList.drop (m * iE.size + news.length)).toArray := by
        injection hst2 with _ h; exact h.symm
      rw [hw] at hr
      refine ⟨_, _, [(b, .cells (cur.toList.take (m * iE.size) ++ news ++ cur.toList.drop (m * iE.size + news.length)).toArray e (0, 0))], hr, ⟨hlen, .inr ⟨b, cap, _, rfl, rfl, hroom, ?_, ?_⟩⟩, ?_⟩
      · simp only [List.size_toArray, List.length_append, List.length_take, List.length_drop, Array.length_toList]
        omega
      · rw [htake, ← hlen]
        exact List.take_left
      · exact hi.upd rfl rfl rfl (by simp) (fun c _ hcb => setRow_other W b c _ hcb) (setRow_heap W b cur _ e _ hW)
    · refine grow (some ⟨b, 0, none⟩) cap rfl (by omega) ?_ (by simp)
      have hl := run_firstCells_some (P := P) W.drew iE.size m ⟨b, 0, none⟩ m cap xs hG.1 (fun j u hu => by
        rw [add_off, World.cell?_drew, cell_blk hW]
        rw [← htake, List.getElem?_take] at hu
        split at hu
        · simpa using hu
        · cases hu)
      exact hl
theorem Ops.append {s x : Operand} {ts tx e : TypeId} {size bytes : Nat} {M N : Own} {v xv : Value} {m q : Nat} {xs news : List Value} (hE : Elem P ts e size bytes) (hg : want env ops g = some true) (hd : d < n)
    (hs : opnd env s = some v) (hx : opnd env x = some xv) (hL : L.Perm (M ++ N)) (hG : Grows e size v m xs M)
    (hsrc : ∀ W, Inv C.w0 C.I0 C.L0 I L W → Src P size tx xv q news W) (hbytes : (2 * (m + q) + 512) * bytes ≤ 281474976710656) (h63 : m + q ≤ 4611686018427387904)
    (next : ∀ v' M', Grows e size v' (m + q) (xs ++ news) M' → Ops P n C ops (i + 1) l k ((d, v') :: env) (M' ++ N) I) :
    Ops P n C ops i (⟨some d, .call ⟨.builtin .append, #[s, x], #[ts, tx]⟩, ty, ps, af, g⟩ :: l) k env L I :=
  Ops.valW hg (dOk hd) fun a W he hi => by
    obtain ⟨v', W', M', hr, hG', hi'⟩ := run_append_grows (P := P) (ty := ty) hE (hi.perm hL) hG (hsrc W hi) hbytes h63
    refine ⟨v', W', M' ++ N, I, .inl ?_, hi', next v' M' hG'⟩
    simp [execOp, resolve, invoke, builtin, eval_opnd he hs, eval_opnd he hx, hr]
/-- append of one literal, whose block goes -/
theorem Ops.appendLit {s x : Operand} {ts e : TypeId} {size bytes b q c : Nat} {M N : Own} {v : Value} {m : Nat} {xs news : List Value} (hE : Elem P ts e size bytes) (hg : want env ops g = some true) (hd : d < n)
    (hs : opnd env s = some v) (hx : opnd env x = some (.slice (some ⟨b, 0, none⟩) q c)) (hL : L = (b, blk news e) :: (M ++ N)) (hG : Grows e size v m xs M) (hq : news.length = q * size) (h1 : one news = true)
    (hbytes : (2 * (m + q) + 512) * bytes ≤ 281474976710656) (h63 : m + q ≤ 4611686018427387904)
    (next : ∀ v' M', Grows e size v' (m + q) (xs ++ news) M' → Ops P n C ops (i + 1) l k ((d, v') :: env) (M' ++ N) I) :
    Ops P n C ops i (⟨some d, .call ⟨.builtin .append, #[s, x], #[ts, ts]⟩, ty, ps, af, g⟩ :: l) k env L I := by
  subst hL
  refine Ops.valW hg (dOk hd) fun a W he hi => ?_
  have hW := hi.fits.own b _ List.mem_cons_self
  have hsrc : Src P size ts (.slice (some ⟨b, 0, none⟩) q c) q news W := Src.ofSlice W hE.under ⟨b, 0, none⟩ q c news hq
    (fun j u hu => by rw [add_off, cell_blk hW]; simpa using hu) (one_spec h1)
  obtain ⟨v', W', M', hr, hG', hi'⟩ := run_append_grows (P := P) (ty := ty) hE (hi.weakenL (List.sublist_cons_self _ _)) hG hsrc hbytes h63
  refine ⟨v', W', M' ++ N, I, .inl ?_, hi', next v' M' hG'⟩
  simp [execOp, resolve, invoke, builtin, eval_opnd he hs, eval_opnd he hx, hr]
def Cells {α : Type} (t : Ty α) (I : Imm) (cs : List Value) (xs : List α) : Prop := ∃ css : List (List Value), cs = css.flatten ∧ css.length = xs.length ∧ ∀ (i : Nat) x c, xs[i]? = some x → css[i]? = some c → t.rel I c x
theorem Cells.mono {α : Type} {t : Ty α} {I J : Imm} {cs : List Value} {xs : List α} (h : Cells t I cs xs) (hle : Le I J) : Cells t J cs xs :=
  let ⟨css, h1, h2, h3⟩ := h; ⟨css, h1, h2, fun i x c hx hc => t.mono (h3 i x c hx hc) hle⟩
theorem Cells.nil {α : Type} (t : Ty α) (I : Imm) : Cells t I [] [] := ⟨[], rfl, rfl, fun i x c hx => by simp at hx⟩
theorem Cells.append {α : Type} {t : Ty α} {I : Imm} {cs ds : List Value} {xs ys : List α} (h : Cells t I cs xs) (k : Cells t I ds ys) : Cells t I (cs ++ ds) (xs ++ ys) := by
  obtain ⟨css, rfl, h2, h3⟩ := h
  obtain ⟨dss, rfl, k2, k3⟩ := k
  refine ⟨css ++ dss, by simp, by simp [h2, k2], ?_⟩
  intro i x c hx hc
  by_cases hi : i < xs.length
  · rw [List.getElem?_append_left hi] at hx
    rw [List.getElem?_append_left (by omega)] at hc
    exact h3 i x c hx hc
  · rw [List.getElem?_append_right (by omega)] at hx
    rw [List.getElem?_append_right (by omega), h2] at hc
    exact k3 _ x c hx hc
theorem Cells.one {α : Type} {t : Ty α} {I : Imm} {c : List Value} {x : α} (h : t.rel I c x) : Cells t I c [x] :=
  ⟨[c], by simp, rfl, fun i y d hy hd => by
    cases i with
    | zero => simp at hy hd; subst hy; subst hd; exact h
    | succ i => simp at hy⟩
theorem flatten_at (css : List (List Value)) (s : Nat) (hs : ∀ c ∈ css, c.length = s) : ∀ (i : Nat) c, css[i]? = some c → ∀ (j : Nat) v, c[j]? = some v → css.flatten[i * s + j]? = some v := by
  induction css with
  | nil => intro i c h; simp at h
  | cons a r ih =>
    intro i c h j v hv
    have ha := hs a List.mem_cons_self
    have hjs : j < c.length := (List.getElem?_eq_some_iff.1 hv).1
    cases i with
    | zero =>
      simp at h; subst h
      simp only [List.flatten_cons, Nat.zero_mul, Nat.zero_add]
      rw [List.getElem?_append_left hjs]; exact hv
    | succ i =>
      have hr := ih (fun c hc => hs c (List.mem_cons_of_mem _ hc)) i c (by simpa using h) j v hv
      simp only [List.flatten_cons]
      rw [List.getElem?_append_right (by rw [ha, Nat.add_mul]; omega), ha]
      have : (i + 1) * s + j - s = i * s + j := by rw [Nat.add_mul]; omega
      rw [this]; exact hr
theorem Cells.sizes {α : Type} {t : Ty α} {I : Imm} {css : List (List Value)} {xs : List α} (h2 : css.length = xs.length) (h3 : ∀ (i : Nat) x c, xs[i]? = some x → css[i]? = some c → t.rel I c x) : ∀ c ∈ css, c.length = t.size := by
  intro c hc
  obtain ⟨i, hi⟩ := List.getElem?_of_mem hc
  have hlt : i < xs.length := by rw [← h2]; exact (List.getElem?_eq_some_iff.1 hi).1
  exact t.len (h3 i _ c (List.getElem?_eq_getElem hlt) hi)
/-- a slice of the call's own, of elements -/
def Gr {α : Type} (t : Ty α) (I : Imm) (e : TypeId) (v : Value) (xs : List α) (M : Own) : Prop := ∃ cs, Grows e t.size v xs.length cs M ∧ Cells t I cs xs
theorem Gr.mono {α : Type} {t : Ty α} {I J : Imm} {e : TypeId} {v : Value} {xs : List α} {M : Own} (h : Gr t I e v xs M) (hle : Le I J) : Gr t J e v xs M := let ⟨cs, h1, h2⟩ := h; ⟨cs, h1, h2.mono hle⟩
theorem Gr.nil {α : Type} (t : Ty α) (I : Imm) (e : TypeId) : Gr t I e (.slice none 0 0) [] [] := ⟨[], Grows.nil e _, Cells.nil t I⟩
theorem Ops.appendOne {α : Type} {t : Ty α} {y : α} {s x : Operand} {ts e : TypeId} {bytes b : Nat} {M N : Own} {v : Value} {xs : List α} {news : List Value} (hE : Elem P ts e t.size bytes) (hG : Gr t I e v xs M) (hr : t.rel I news y) (hg : want env ops g = some true) (hd : d < n)
    (hs : opnd env s = some v) (hx : opnd env x = some (.slice (some ⟨b, 0, none⟩) 1 1)) (hL : L = (b, blk news e) :: (M ++ N)) (h1 : one news = true)
    (hbytes : (2 * (xs.length + 1) + 512) * bytes ≤ 281474976710656) (h63 : xs.length + 1 ≤ 4611686018427387904)
    (next : ∀ v' M', Gr t I e v' (xs ++ [y]) M' → Ops P n C ops (i + 1) l k ((d, v') :: env) (M' ++ N) I) :
    Ops P n C ops i (⟨some d, .call ⟨.builtin .append, #[s, x], #[ts, ts]⟩, ty, ps, af, g⟩ :: l) k env L I := by
  obtain ⟨cs, hG1, hC⟩ := hG
  exact Ops.appendLit hE hg hd hs hx hL hG1 (by rw [t.len hr]; simp) h1 hbytes h63 fun v' M' h => next v' M' ⟨cs ++ news, by simpa using h, hC.append (Cells.one hr)⟩
theorem At.of_block {b off : Nat} {cs : Array Value} {t : TypeId} {fr : Nat × Nat} {vs : List Value} (h : I b = some (.cells cs t fr)) (hv : ∀ j v, vs[j]? = some v → cs[off + j]? = some v) : At I b off vs := ⟨cs, t, fr, h, hv⟩
/-- what has grown is kept as it is -/
theorem Run.keepGr {α : Type} {t : Ty α} {e : TypeId} {v : Value} {xs : List α} {M N : Own} (hG : Gr t I e v xs M) (hL : L.Perm (M ++ N)) (h : ∀ J, Le I J → Sl t J v xs → Run P n C k env N J) : Run P n C k env L I := by
  refine Run.perm hL ?_
  obtain ⟨cs, ⟨hlen, hG1⟩, hC⟩ := hG
  rcases hG1 with ⟨rfl, h0, rfl⟩ | ⟨b, cap, cur, rfl, rfl, hmc, hcs, htake⟩
  · have : xs = [] := List.eq_nil_of_length_eq_zero h0
    subst this
    exact h I (Le.refl I) (Sl.nil t I)
  · refine Run.freeze fun J hle hJ => h J hle ⟨_, _, rfl, hmc, ?_⟩
    right
    refine ⟨b, 0, rfl, ?_⟩
    intro i x hx
    obtain ⟨css, rfl, h2, h3⟩ := hC
    have hi : i < css.length := by rw [h2]; exact (List.getElem?_eq_some_iff.1 hx).1
    have hc := List.getElem?_eq_getElem hi
    refine ⟨css[i], t.mono (h3 i x _ hx hc) hle, At.of_block hJ ?_⟩
    intro j u hu
    have := flatten_at css t.size (Cells.sizes h2 h3) i _ hc j u hu
    rw [← htake, List.getElem?_take] at this
    split at this
    · simpa using this
    · cases this
/-- the same, as a call's result -/
theorem Gr.sl {α : Type} {t : Ty α} {e : TypeId} {v : Value} {xs : List α} {M : Own} (hG : Gr t I e v xs M) : v = .slice none 0 0 ∧ xs = [] ∨ ∃ b cap, v = .slice (some ⟨b, 0, none⟩) xs.length cap := by
  obtain ⟨cs, ⟨hlen, hG1⟩, hC⟩ := hG
  rcases hG1 with ⟨rfl, h0, rfl⟩ | ⟨b, cap, cur, rfl, rfl, hmc, hcs, htake⟩
  · exact .inl ⟨rfl, List.eq_nil_of_length_eq_zero h0⟩
  · exact .inr ⟨b, cap, rfl⟩
end
end Go.V
