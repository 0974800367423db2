import Derived.Test.YteppnkblebknnaaDoorTM3
import Derived.Shelf.Unicode.ValidAny
import Derived.Test.YteppnkblebknnaaDoorProg
import Derived.KernelRfl
import Derived.Shelf.Unicode.DecodeAny
import Derived.Shelf.Spec.DecodeRune
/-
  Values of JSON written in one of many ways, and that they are read as what they were. Plain Lean.
-/
namespace Go.V
set_option linter.unusedVariables false
set_option linter.unusedSimpArgs false
set_option maxRecDepth 10000
/-- a value, as the document has it -/
inductive Js where
  | mk (kind : UInt8) (text : List UInt8) (kids : List Js)
def Js.kind : Js → UInt8 | mk k _ _ => k
def Js.text : Js → List UInt8 | mk _ t _ => t
def Js.kids : Js → List Js | mk _ _ k => k
def tk (n : Nat) : Bs → Nat × Bs
  | [] => (0, [])
  | b :: t => (b.toNat % n, t)
def blks : List Bs := [[], [], [32], [10, 9], [13, 10, 32]]
def blk5 (w : Bs) : Bs × Bs := (blks.getD (tk 5 w).1 [], (tk 5 w).2)
theorem blk5_bl (w : Bs) : ∀ c ∈ (blk5 w).1, isBl c = true := by
  have h : ∀ b ∈ blks, ∀ c ∈ b, isBl c = true := by decide
  unfold blk5
  rw [List.getD_eq_getElem?_getD]
  cases hk : blks[(tk 5 w).1]? with
  | none => simp
  | some b => exact h b (List.mem_of_getElem? hk)
def wrune (c n : Nat) : Bs :=
  if c = 47 ∧ n = 1 then [92, 47]
  else if n = 2 ∧ c < 65536 then [92, 117] ++ hexes c
  else if n = 2 then [92, 117] ++ hexes (55296 + (c - 65536) / 1024) ++ [92, 117] ++ hexes (56320 + (c - 65536) % 1024)
  else if c = 60 ∨ c = 62 ∨ c = 38 then encR (c : Int)
  else quo1 c
def wtext : List Nat → Bs → Bs × Bs
  | [], w => ([], w)
  | c :: rs, w => (wrune c (tk 8 w).1 ++ (wtext rs (tk 8 w).2).1, (wtext rs (tk 8 w).2).2)
/-- the runes of a text -/
def runesN : Nat → Bs → List Nat
  | 0, _ => []
  | n + 1, s => if s = [] then [] else (runeAt s 0).1 :: runesN n (s.drop (runeAt s 0).2)
def runesOf (s : Bs) : List Nat := runesN s.length s
theorem encs_ne (r : Nat) (rs : List Nat) : encs (r :: rs) ≠ [] := by
  intro e
  have := congrArg List.length e
  rw [encs_cons, List.length_append, List.length_nil] at this
  have := encR_pos r
  omega
theorem runesN_encs : ∀ (rs : List Nat) (n : Nat), (∀ r ∈ rs, goodR r) → (encs rs).length ≤ n → runesN n (encs rs) = rs := by
  intro rs
  induction rs with
  | nil => intro n _ _; cases n <;> rfl
  | cons r rs ih =>
    intro n h hn
    have hp := encR_pos r
    rw [encs_cons, List.length_append] at hn
    obtain ⟨m, rfl⟩ : ∃ m, n = m + 1 := ⟨n - 1, by omega⟩
    rw [runesN, if_neg (encs_ne r rs), encs_cons, runeAt_enc (h r (by simp)), List.drop_left, ih m (fun x hx => h x (by simp [hx])) (by omega)]
theorem runesOf_encs {rs : List Nat} (h : ∀ r ∈ rs, goodR r) : runesOf (encs rs) = rs := runesN_encs rs _ h (Nat.le_refl _)
def wquo (s w : Bs) : Bs × Bs := ([34] ++ (wtext (runesOf s) w).1 ++ [34], (wtext (runesOf s) w).2)
theorem wrune_piece {c : Nat} (g : goodR c) (n : Nat) : Piece (wrune c n) c := by
  unfold wrune
  split
  · rename_i h
    obtain ⟨rfl, _⟩ := h
    exact Piece.named (d := 47) (x := 47) (fun t => by simp [escR]) (by decide)
  split
  · rename_i h; exact Piece.u g h.2
  split
  · rename_i h1 h2
    exact Piece.pair g (fun h3 => h1 ⟨h2, h3⟩)
  split
  · rename_i h; exact Piece.raw g (by omega) (by omega) (by omega)
  · exact quo1_piece g
theorem wtext_pieces : ∀ {rs : List Nat} (w : Bs), (∀ r ∈ rs, goodR r) → ∃ ps, Pieces ps rs ∧ (wtext rs w).1 = ps.flatten
  | [], w, _ => ⟨[], .nil, rfl⟩
  | r :: rs, w, h => by
    obtain ⟨ps, h1, h2⟩ := wtext_pieces (rs := rs) (tk 8 w).2 fun x hx => h x (by simp [hx])
    exact ⟨_ :: ps, .cons (wrune_piece (h r (by simp)) (tk 8 w).1) h1, by simp [wtext, h2]⟩
def GoodT (s : Bs) : Prop := ∃ rs, Runes s rs
theorem wquo_read {s : Bs} (hs : GoodT s) (w t : Bs) : ∃ q, (wquo s w).1 = 34 :: q ++ [34] ∧ strR (q ++ 34 :: t) = some (s, t) := by
  obtain ⟨rs, rfl, hg⟩ := hs
  unfold wquo
  rw [runesOf_encs hg]
  obtain ⟨ps, h1, h2⟩ := wtext_pieces w hg
  refine ⟨ps.flatten, by rw [h2]; simp, ?_⟩
  rw [strR_TR, h1.read]; simp
theorem skip_bl {b : Bs} (hb : ∀ c ∈ b, isBl c = true) (s : Bs) : skipB (b ++ s) = skipB s := by
  induction b with
  | nil => rfl
  | cons c b ih =>
    have := hb c (by simp)
    simp only [skipB, List.cons_append, List.dropWhile_cons, this, if_true]
    exact ih fun x hx => hb x (by simp [hx])
theorem skip_no {c : UInt8} (h : isBl c = false) (s : Bs) : skipB (c :: s) = c :: s := by simp [skipB, h]
theorem step_bl (sub : Option (Bs → Option (JV × Bs))) {b : Bs} (hb : ∀ c ∈ b, isBl c = true) (s : Bs) : stepR sub (b ++ s) = stepR sub s := by
  unfold stepR; rw [skip_bl hb]
theorem rdV_bl (f : Nat) {b : Bs} (hb : ∀ c ∈ b, isBl c = true) (s : Bs) : rdV f (b ++ s) = rdV f s := by
  cases f with
  | zero => exact step_bl _ hb s
  | succ f => exact step_bl _ hb s
/-- where a number may end -/
def Stop (r : Bs) : Prop := match r with
  | [] => False
  | c :: _ => c = 44 ∨ c = 93 ∨ c = 125 ∨ isBl c = true
theorem Stop.bl {b r : Bs} (hb : ∀ c ∈ b, isBl c = true) (h : Stop r) : Stop (b ++ r) := by
  cases b with
  | nil => exact h
  | cons c b => exact .inr (.inr (.inr (hb c (by simp))))
theorem Stop.comma (r : Bs) : Stop (44 :: r) := .inl rfl
theorem Stop.brk (r : Bs) : Stop (93 :: r) := .inr (.inl rfl)
theorem Stop.brc (r : Bs) : Stop (125 :: r) := .inr (.inr (.inl rfl))
/-- a text is read as a value, blanks that follow it are left; S: what may follow -/
def Reads (S : Bs → Prop) (f : Nat) (t : Bs) (v : JV) : Prop := ∃ a b, (∀ c ∈ b, isBl c = true) ∧ t = a ++ b ∧ ∀ r, S (b ++ r) → rdV f (t ++ r) = some (v, b ++ r)
theorem rdV_eq (f : Nat) (s : Bs) : ∃ sub, rdV f s = stepR sub s ∧ (∀ g, f = g + 1 → sub = some (rdV g)) := by
  cases f with
  | zero => exact ⟨none, rfl, fun g h => by omega⟩
  | succ f =>
    refine ⟨some (rdV f), rfl, fun g h => ?_⟩
    have : f = g := by omega
    rw [this]
theorem rdV_str (f : Nat) {s q t : Bs} (h : strR (q ++ 34 :: t) = some (s, t)) : rdV f (34 :: q ++ 34 :: t) = some (.mk 34 ((34 :: q ++ [34]).all fun b => !(b == 92)) s [] [], t) := by
  obtain ⟨sub, e, _⟩ := rdV_eq f (34 :: q ++ 34 :: t)
  rw [e]
  unfold stepR
  rw [List.cons_append, skip_no (by decide)]
  have he : eaten (34 :: (q ++ 34 :: t)) t = 34 :: q ++ [34] := by
    unfold eaten
    have : (34 :: (q ++ 34 :: t) : Bs) = (34 :: q ++ [34]) ++ t := by simp
    rw [this, List.length_append, Nat.add_sub_cancel, List.take_left]
  simp [h, he]
theorem Reads.mono {S S' : Bs → Prop} {f : Nat} {t : Bs} {v : JV} (h : Reads S f t v) (k : ∀ r, S' r → S r) : Reads S' f t v := by
  obtain ⟨a, b, h1, h2, h3⟩ := h
  exact ⟨a, b, h1, h2, fun r hr => h3 r (k _ hr)⟩
theorem Reads.pre {S : Bs → Prop} {f : Nat} {t : Bs} {v : JV} (h : Reads S f t v) {x : Bs} (hx : ∀ c ∈ x, isBl c = true) : Reads S f (x ++ t) v := by
  obtain ⟨a, b, h1, rfl, h3⟩ := h
  exact ⟨x ++ a, b, h1, by simp, fun r hr => by rw [List.append_assoc, rdV_bl f hx]; exact h3 r hr⟩
theorem Reads.post {S : Bs → Prop} {f : Nat} {a : Bs} {v : JV} (h : ∀ r, S r → rdV f (a ++ r) = some (v, r)) {b : Bs} (hb : ∀ c ∈ b, isBl c = true) : Reads S f (a ++ b) v :=
  ⟨a, b, hb, rfl, fun r hr => by rw [List.append_assoc]; exact h _ hr⟩
theorem Reads.str (f : Nat) {s : Bs} (hs : GoodT s) (w : Bs) {x b : Bs} (hx : ∀ c ∈ x, isBl c = true) (hb : ∀ c ∈ b, isBl c = true) : ∃ p, Reads (fun _ => True) f (x ++ ((wquo s w).1 ++ b)) (.mk 34 p s [] []) := by
  have hq : ∀ t, ∃ q, (wquo s w).1 = 34 :: q ++ [34] ∧ strR (q ++ 34 :: t) = some (s, t) := wquo_read hs w
  obtain ⟨q, e, _⟩ := hq []
  have hr : ∀ t, strR (q ++ 34 :: t) = some (s, t) := fun t => by
    obtain ⟨q', e', h⟩ := hq t
    have : q' = q := by rw [e] at e'; simpa using e'.symm
    rw [this] at h; exact h
  refine ⟨((34 :: q ++ [34]).all fun b => !(b == 92)), (Reads.post (fun r _ => ?_) hb).pre hx⟩
  rw [e]
  have := rdV_str f (hr r)
  simpa using this
/-- one behind the other, commas between them -/
def joinC : List Bs → Bs
  | [] => []
  | [t] => t
  | t :: u :: r => t ++ 44 :: joinC (u :: r)
theorem joinC_cons (t : Bs) (r : List Bs) : joinC (t :: r) = if r = [] then t else t ++ 44 :: joinC r := by
  cases r with
  | nil => rfl
  | cons u r => simp [joinC]
theorem joinC_snoc : ∀ (r : List Bs) (t : Bs), joinC (r ++ [t]) = if r = [] then t else joinC r ++ 44 :: t
  | [], t => rfl
  | [u], t => by simp [joinC]
  | u :: v :: r, t => by
    have := joinC_snoc (v :: r) t
    rw [List.cons_append, joinC_cons, if_neg (by simp), this, if_neg (by simp), if_neg (by simp), joinC_cons u, if_neg (by simp)]
    simp
theorem joinC_len : ∀ r : List Bs, r.length ≤ (joinC r).length + 1
  | [] => by simp
  | [t] => by simp
  | t :: u :: r => by
    have := joinC_len (u :: r)
    simp only [joinC, List.length_append, List.length_cons] at *; omega
/-- pairwise -/
inductive All2 {α β : Type} (R : α → β → Prop) : List α → List β → Prop
  | nil : All2 R [] []
  | cons {a b l m} : R a b → All2 R l m → All2 R (a :: l) (b :: m)
theorem All2.length {α β : Type} {R : α → β → Prop} {l : List α} {m : List β} (h : All2 R l m) : l.length = m.length := by
  induction h with
  | nil => rfl
  | cons _ _ ih => simp [ih]
theorem All2.append {α β : Type} {R : α → β → Prop} {l l' : List α} {m m' : List β} (h : All2 R l m) (k : All2 R l' m') : All2 R (l ++ l') (m ++ m') := by
  induction h with
  | nil => exact k
  | cons a _ ih => exact .cons a ih
theorem All2.perm {α β : Type} {R : α → β → Prop} {l l' : List α} (hp : l.Perm l') : ∀ {m : List β}, All2 R l m → ∃ m', m.Perm m' ∧ All2 R l' m' := by
  induction hp with
  | nil => intro m h; exact ⟨m, .refl _, h⟩
  | cons x _ ih =>
    intro m h
    cases h with
    | cons a h => obtain ⟨m', k1, k2⟩ := ih h; exact ⟨_ :: m', k1.cons _, .cons a k2⟩
  | swap x y l =>
    intro m h
    cases h with
    | cons a h => cases h with
      | cons b h => exact ⟨_, .swap _ _ _, .cons b (.cons a h)⟩
  | trans _ _ ih1 ih2 =>
    intro m h
    obtain ⟨m1, k1, k2⟩ := ih1 h
    obtain ⟨m2, k3, k4⟩ := ih2 k2
    exact ⟨m2, k1.trans k3, k4⟩
theorem elems_read {f : Nat} {ts : List Bs} {vs : List JV} (h : All2 (Reads Stop f) ts vs) (hne : ts ≠ []) {b : Bs} (hb : ∀ c ∈ b, isBl c = true) : ∀ (n : Nat) (acc : List JV) (r : Bs), ts.length ≤ n →
    elemsR (rdV f) n (joinC ts ++ (b ++ 93 :: r)) acc = some (acc ++ vs, r) := by
  induction h with
  | nil => exact absurd rfl hne
  | @cons t v ts vs ht hts ih =>
    intro n acc r hn
    obtain ⟨m, rfl⟩ : ∃ m, n = m + 1 := ⟨n - 1, by simp only [List.length_cons] at hn; omega⟩
    obtain ⟨a, b', h1, rfl, h3⟩ := ht
    cases hts with
    | nil =>
      rw [joinC, elemsR, h3 _ (Stop.bl h1 (Stop.bl hb (Stop.brk r)))]
      simp only
      rw [skip_bl h1, skip_bl hb, skip_no (by decide)]
      simp
    | @cons t2 v2 ts2 vs2 ht2 hts2 =>
      rw [joinC, elemsR]
      rw [List.append_assoc (a ++ b'), h3 (44 :: joinC (t2 :: ts2) ++ (b ++ 93 :: r)) (Stop.bl h1 (Stop.comma _))]
      simp only
      rw [skip_bl h1, List.cons_append, skip_no (by decide)]
      simp only [show ¬ ((44 : UInt8) = 93) by decide, if_false, if_true]
      have := ih (by simp) m (acc ++ [v]) r (by simpa using hn)
      rw [this]; simp
/-- a member's text -/
def MReads (f : Nat) (t : Bs) (m : Bs × JV) : Prop := ∃ b, (∀ c ∈ b, isBl c = true) ∧ ∀ r, Stop r → ∃ s1, keyR (t ++ r) = some (m.1, s1) ∧ rdV f s1 = some (m.2, b ++ r)
theorem membs_read {f : Nat} {ts : List Bs} {ms : List (Bs × JV)} (h : All2 (MReads f) ts ms) (hne : ts ≠ []) {b : Bs} (hb : ∀ c ∈ b, isBl c = true) : ∀ (n : Nat) (ks : List Bs) (vs : List JV) (r : Bs), ts.length ≤ n →
    membsR (rdV f) n (joinC ts ++ (b ++ 125 :: r)) ks vs = some (ks ++ ms.map Prod.fst, vs ++ ms.map Prod.snd, r) := by
  induction h with
  | nil => exact absurd rfl hne
  | @cons t m ts ms ht hts ih =>
    intro n ks vs r hn
    obtain ⟨q, rfl⟩ : ∃ q, n = q + 1 := ⟨n - 1, by simp only [List.length_cons] at hn; omega⟩
    obtain ⟨b', h1, h3⟩ := ht
    cases hts with
    | nil =>
      obtain ⟨s1, e1, e2⟩ := h3 (b ++ 125 :: r) (Stop.bl hb (Stop.brc r))
      rw [joinC, membsR, e1]
      simp only [e2]
      rw [skip_bl h1, skip_bl hb, skip_no (by decide)]
      simp
    | @cons t2 m2 ts2 ms2 ht2 hts2 =>
      obtain ⟨s1, e1, e2⟩ := h3 (44 :: joinC (t2 :: ts2) ++ (b ++ 125 :: r)) (Stop.comma _)
      rw [joinC, membsR, List.append_assoc t, e1]
      simp only [e2]
      rw [skip_bl h1, List.cons_append, skip_no (by decide)]
      simp only [show ¬ ((44 : UInt8) = 125) by decide, if_false, if_true]
      have := ih (by simp) q (ks ++ [m.1]) (vs ++ [m.2]) r (by simpa using hn)
      rw [this]; simp
theorem word_no {c d : UInt8} (h : c ≠ d) (t : Bs) : wordR [d] (c :: t) = none := by
  unfold wordR
  rw [if_neg]
  simp [h]
theorem list_read {f : Nat} {ts : List Bs} {vs : List JV} (h : All2 (Reads Stop f) ts vs) {b : Bs} (hb : ∀ c ∈ b, isBl c = true) (r : Bs) :
    rdV (f + 1) (91 :: joinC ts ++ (b ++ 93 :: r)) = some (.mk 91 false [] vs [], r) := by
  show stepR (some (rdV f)) _ = _
  unfold stepR
  rw [List.cons_append, skip_no (by decide)]
  simp only [show ¬ ((91 : UInt8) = 123) by decide, if_false, if_true, Option.bind_some]
  cases h with
  | nil =>
    unfold listR
    simp only [joinC, List.nil_append]
    rw [skip_bl hb, skip_no (by decide), show (93 :: r : Bs) = [93] ++ r from rfl, word_app]
  | @cons t v ts vs ht hts =>
    have hall : All2 (Reads Stop f) (t :: ts) (v :: vs) := .cons ht hts
    unfold listR
    have hel := elems_read hall (by simp) hb ((joinC (t :: ts) ++ (b ++ 93 :: r)).length + 1) [] r (by have := joinC_len (t :: ts); rw [List.length_append]; omega)
    have hel' : elemsR (rdV f) ((joinC (t :: ts) ++ (b ++ 93 :: r)).length + 1) (skipB (joinC (t :: ts) ++ (b ++ 93 :: r))) [] = some (v :: vs, r) := by
      have e : ∀ n s, elemsR (rdV f) (n + 1) (skipB s) [] = elemsR (rdV f) (n + 1) s [] := by
        intro n s
        simp only [elemsR]
        have : rdV f (skipB s) = rdV f s := by
          have hs : s = s.takeWhile isBl ++ skipB s := List.takeWhile_append_dropWhile.symm
          conv => rhs; rw [hs]
          rw [rdV_bl]
          intro c hc
          exact List.all_eq_true.1 (List.all_takeWhile) c hc
        rw [this]
      rw [e]; simpa using hel
    cases hw : wordR [93] (skipB (joinC (t :: ts) ++ (b ++ 93 :: r))) with
    | some q =>
      exfalso
      obtain ⟨_, hq⟩ := word_sfx hw
      rw [hq, elemsR] at hel'
      have : rdV f ([93] ++ q) = none := by
        obtain ⟨sub, e, _⟩ := rdV_eq f ([93] ++ q)
        rw [e]
        unfold stepR
        rw [List.singleton_append, skip_no (by decide)]
        simp [wordR, numR, numR1, numR2, digsR, isDg]
      rw [this] at hel'
      cases hel'
    | none => simp only [hel', Option.map_some]
theorem obj_read {f : Nat} {ts : List Bs} {ms : List (Bs × JV)} (h : All2 (MReads f) ts ms) {b : Bs} (hb : ∀ c ∈ b, isBl c = true) (r : Bs) :
    rdV (f + 1) (123 :: joinC ts ++ (b ++ 125 :: r)) = some (.mk 123 false [] (ms.map Prod.snd) (ms.map Prod.fst), r) := by
  show stepR (some (rdV f)) _ = _
  unfold stepR
  rw [List.cons_append, skip_no (by decide)]
  simp only [if_true, Option.bind_some]
  cases h with
  | nil =>
    unfold objR
    simp only [joinC, List.nil_append]
    rw [skip_bl hb, skip_no (by decide), show (125 :: r : Bs) = [125] ++ r from rfl, word_app]
    rfl
  | @cons t m ts ms ht hts =>
    have hall : All2 (MReads f) (t :: ts) (m :: ms) := .cons ht hts
    unfold objR
    have hel := membs_read hall (by simp) hb ((joinC (t :: ts) ++ (b ++ 125 :: r)).length + 1) [] [] r (by have := joinC_len (t :: ts); rw [List.length_append]; omega)
    have hel' : membsR (rdV f) ((joinC (t :: ts) ++ (b ++ 125 :: r)).length + 1) (skipB (joinC (t :: ts) ++ (b ++ 125 :: r))) [] [] = some ((m :: ms).map Prod.fst, (m :: ms).map Prod.snd, r) := by
      have e : ∀ n s, membsR (rdV f) (n + 1) (skipB s) [] [] = membsR (rdV f) (n + 1) s [] [] := by
        intro n s
        simp only [membsR]
        have : keyR (skipB s) = keyR s := by
          unfold keyR
          have : skipB (skipB s) = skipB s := by
            have hs : s = s.takeWhile isBl ++ skipB s := List.takeWhile_append_dropWhile.symm
            have : skipB s = skipB (skipB s) := by
              conv => lhs; rw [hs]
              rw [skip_bl]
              intro c hc
              exact List.all_eq_true.1 (List.all_takeWhile) c hc
            exact this.symm
          rw [this]
        rw [this]
      rw [e]; simpa using hel
    cases hw : wordR [125] (skipB (joinC (t :: ts) ++ (b ++ 125 :: r))) with
    | some q =>
      exfalso
      obtain ⟨_, hq⟩ := word_sfx hw
      rw [hq, membsR] at hel'
      have : keyR ([125] ++ q) = none := by
        unfold keyR
        rw [List.singleton_append, skip_no (by decide)]
        simp
      rw [this] at hel'
      cases hel'
    | none => simp only [hel', Option.map_some]
end Go.V
/-
  Whole values of JSON in one of many ways: what they are read as. Plain Lean.
-/
namespace Go.V
set_option linter.unusedVariables false
set_option linter.unusedSimpArgs false
set_option maxRecDepth 10000
/-- names whose members are free -/
def freeN (s : Bs) : Bool := s == [97, 110, 110, 111, 116, 97, 116, 105, 111, 110, 115] || s == [76, 97, 98, 101, 108, 115] || s == [86, 111, 108, 117, 109, 101, 115] || s == [69, 120, 112, 111, 115, 101, 100, 80, 111, 114, 116, 115]
def swapL {α : Type} (l : List α) (i k : Nat) : List α := match l[i]?, l[k]? with
  | some a, some b => (l.set i b).set k a
  | _, _ => l
/-- shuffled, from place i down -/
def shuf {α : Type} : Nat → List α → Bs → List α × Bs
  | 0, l, w => (l, w)
  | i + 1, l, w => shuf i (swapL l (i + 1) (tk (i + 2) w).1) (tk (i + 2) w).2
theorem swapL_perm {α : Type} (l : List α) (i k : Nat) : l.Perm (swapL l i k) := by
  unfold swapL
  split
  · rename_i a b ha hb
    obtain ⟨hi, rfl⟩ := List.getElem?_eq_some_iff.1 ha
    obtain ⟨hk, rfl⟩ := List.getElem?_eq_some_iff.1 hb
    exact (List.set_set_perm hi hk).symm
  · exact .refl _
theorem shuf_perm {α : Type} : ∀ (i : Nat) (l : List α) (w : Bs), l.Perm (shuf i l w).1
  | 0, l, w => .refl _
  | i + 1, l, w => (swapL_perm l _ _).trans (shuf_perm i _ _)
def unkT : Bs := [34, 120, 45, 117, 110, 107, 110, 111, 119, 110, 34, 32, 58, 32, 91, 49, 46, 53, 101, 51, 44, 32, 123, 34, 97, 34, 58, 110, 117, 108, 108, 125, 44, 32, 116, 114, 117, 101, 93]
/-- some texts one behind the other -/
def wlist (val : Js → Bs → Bs × Bs) : List Js → Bs → List Bs × Bs
  | [], w => ([], w)
  | j :: js, w => ((val j w).1 :: (wlist val js (val j w).2).1, (wlist val js (val j w).2).2)
def wmem (val : Js → Bool → Bs → Bs × Bs) (fixed : Bool) (name v : Js) (w : Bs) : Bs × Bs :=
  let b1 := blk5 w
  let t := wquo name.text b1.2
  let b2 := blk5 t.2
  let x := val v (fixed && !(fixed && freeN name.text)) b2.2
  (b1.1 ++ t.1 ++ b2.1 ++ [58] ++ x.1, x.2)
def wpairs (val : Js → Bool → Bs → Bs × Bs) (fixed : Bool) : List Js → Bs → List Bs × Bs
  | name :: v :: r, w => ((wmem val fixed name v w).1 :: (wpairs val fixed r (wmem val fixed name v w).2).1, (wpairs val fixed r (wmem val fixed name v w).2).2)
  | _, w => ([], w)
def wfix (fixed : Bool) (parts : List Bs) (w : Bs) : List Bs × Bs :=
  if fixed then
    let u := tk 4 w
    let p := if u.1 = 1 then parts ++ [unkT] else parts
    shuf (p.length - 1) p u.2
  else (parts, w)
def wval : Nat → Js → Bool → Bs → Bs × Bs
  | 0, _, _, w => ([], w)
  | d + 1, j, fixed, w =>
    let b1 := blk5 w
    if j.kind = 115 then
      let t := wquo j.text b1.2
      let b2 := blk5 t.2
      (b1.1 ++ t.1 ++ b2.1, b2.2)
    else if j.kind = 108 then
      let l := wlist (fun x w => wval d x fixed w) j.kids b1.2
      let b2 := blk5 l.2
      let b3 := blk5 b2.2
      (b1.1 ++ [91] ++ joinC l.1 ++ b2.1 ++ [93] ++ b3.1, b3.2)
    else if j.kind = 111 then
      let p := wpairs (wval d) fixed j.kids b1.2
      let q := wfix fixed p.1 p.2
      let b2 := blk5 q.2
      let b3 := blk5 b2.2
      (b1.1 ++ [123] ++ joinC q.1 ++ b2.1 ++ [125] ++ b3.1, b3.2)
    else
      let b2 := blk5 b1.2
      (b1.1 ++ j.text ++ b2.1, b2.2)
/-- what a literal is read as -/
def LitR (t : Bs) (v : JV) : Prop := ∀ f r, Stop r → rdV f (t ++ r) = some (v, r)
/-- names and values by turns -/
def Membs (R : Bool → Js → JV → Prop) (fixed : Bool) : List Js → List (Bs × JV) → Prop
  | name :: v :: r, m :: ms => name.text = m.1 ∧ R (fixed && !(fixed && freeN name.text)) v m.2 ∧ Membs R fixed r ms
  | [], [] => True
  | _, _ => False
def unkM : Bs × JV := ([120, 45, 117, 110, 107, 110, 111, 119, 110], .mk 91 false [] [.mk 48 false [49, 46, 53, 101, 51] [] [], .mk 123 false [] [.mk 110 false [] [] []] [[97]], .mk 116 false [] [] []] [])
/-- a value stands for what was written -/
def Rep : Nat → Bool → Js → JV → Prop
  | 0, _, _, _ => False
  | d + 1, fixed, j, v =>
    if j.kind = 115 then ∃ p, v = .mk 34 p j.text [] []
    else if j.kind = 108 then ∃ vs, v = .mk 91 false [] vs [] ∧ All2 (Rep d fixed) j.kids vs
    else if j.kind = 111 then ∃ base ms, v = .mk 123 false [] (ms.map Prod.snd) (ms.map Prod.fst) ∧ Membs (Rep d) fixed j.kids base ∧
      if fixed then base.Perm ms ∨ (base ++ [unkM]).Perm ms else ms = base
    else LitR j.text v
/-- names and what R says of values, by turns -/
def FineM (R : Js → Prop) : List Js → Prop
  | name :: v :: r => GoodT name.text ∧ R v ∧ FineM R r
  | [] => True
  | _ => False
/-- what can be written so that it is read -/
def Fine : Nat → Js → Prop
  | 0, _ => False
  | d + 1, j =>
    if j.kind = 115 then GoodT j.text
    else if j.kind = 108 then ∀ x ∈ j.kids, Fine d x
    else if j.kind = 111 then FineM (Fine d) j.kids
    else ∃ v, LitR j.text v
theorem stop_dg {r : Bs} (hr : Stop r) : r.dropWhile isDg = r := by
  cases r with
  | nil => exact hr.elim
  | cons c r =>
    have : isDg c = false := by
      rcases hr with rfl | rfl | rfl | h
      · decide
      · decide
      · decide
      · have hb : ∀ k : Fin 256, isBl (UInt8.ofNat k.val) = true → isDg (UInt8.ofNat k.val) = false := by decide
        have := hb ⟨c.toNat, c.toNat_lt⟩ (by simpa using h)
        simpa using this
    rw [List.dropWhile_cons, if_neg (by rw [this]; decide)]
theorem digs_one {c : UInt8} {t : Bs} (h : isDg c = true) : digsR (c :: t) = some (t.dropWhile isDg) := by rw [digsR, if_pos h]
theorem num_lit15 (r : Bs) (hr : Stop r) : numR ([49, 46, 53, 101, 51] ++ r) = some r := by
  show numR (49 :: 46 :: 53 :: 101 :: 51 :: r) = some r
  have e1 : numR1 (49 :: 46 :: 53 :: 101 :: 51 :: r) = 49 :: 46 :: 53 :: 101 :: 51 :: r := by rw [numR1, word_no (by decide)]; rfl
  have e2 : numR2 (49 :: 46 :: 53 :: 101 :: 51 :: r) = some (46 :: 53 :: 101 :: 51 :: r) := by
    rw [numR2, word_no (by decide)]
    simp only
    rw [digs_one (by decide), List.dropWhile_cons, if_neg (by decide)]
  have e3 : numR3 (46 :: 53 :: 101 :: 51 :: r) = some (101 :: 51 :: r) := by
    rw [numR3, word1]
    simp only
    rw [digs_one (by decide), List.dropWhile_cons, if_neg (by decide)]
  have e4 : numR4 (101 :: 51 :: r) = some r := by
    rw [numR4, word1]
    simp only
    rw [word_no (by decide), Option.getD_none, numR1, word_no (by decide), Option.getD_none, digs_one (by decide), stop_dg hr]
  rw [numR, e1, e2, Option.bind_some, e3, Option.bind_some, e4]
theorem rdV_num {t r : Bs} {c : UInt8} {u : Bs} (f : Nat) (ht : t = c :: u) (hc : (48 ≤ c.toNat ∧ c.toNat ≤ 57) ∨ c = 45) (h : numR (t ++ r) = some r) : rdV f (t ++ r) = some (.mk 48 false t [] [], r) := by
  obtain ⟨sub, e, _⟩ := rdV_eq f (t ++ r)
  rw [e]
  subst ht
  have hn : ∀ k : UInt8, (k.toNat < 45 ∨ (45 < k.toNat ∧ k.toNat < 48) ∨ 57 < k.toNat) → c ≠ k := by
    intro k hk e
    subst e
    rcases hc with hc | hc
    · omega
    · rw [hc] at hk; simp at hk
  have hbl : isBl c = false := by
    simp only [isBl, Bool.or_eq_false_iff, beq_eq_false_iff_ne]
    exact ⟨⟨⟨hn 32 (by decide), hn 9 (by decide)⟩, hn 10 (by decide)⟩, hn 13 (by decide)⟩
  unfold stepR
  rw [List.cons_append, skip_no hbl]
  simp only [if_neg (hn 123 (by decide)), if_neg (hn 91 (by decide)), if_neg (hn 34 (by decide)), if_neg (hn 116 (by decide)), if_neg (hn 102 (by decide)), if_neg (hn 110 (by decide))]
  rw [← List.cons_append, h]
  have : eaten (c :: u ++ r) r = c :: u := by unfold eaten; rw [List.length_append, Nat.add_sub_cancel, List.take_left]
  simp only [Option.map_some, this]
theorem lit_null : LitR [110, 117, 108, 108] (.mk 110 false [] [] []) := by
  intro f r _
  obtain ⟨sub, e, _⟩ := rdV_eq f ([110, 117, 108, 108] ++ r)
  rw [e]
  unfold stepR
  rw [show ([110, 117, 108, 108] ++ r : Bs) = 110 :: ([117, 108, 108] ++ r) from rfl, skip_no (by decide)]
  have := word_app [110, 117, 108, 108] r
  simp only [List.cons_append, List.nil_append] at this
  simp [this]
theorem lit_true : LitR [116, 114, 117, 101] (.mk 116 false [] [] []) := by
  intro f r _
  obtain ⟨sub, e, _⟩ := rdV_eq f ([116, 114, 117, 101] ++ r)
  rw [e]
  unfold stepR
  rw [show ([116, 114, 117, 101] ++ r : Bs) = 116 :: ([114, 117, 101] ++ r) from rfl, skip_no (by decide)]
  have := word_app [116, 114, 117, 101] r
  simp only [List.cons_append, List.nil_append] at this
  simp [this]
theorem goodT_asc {s : Bs} (h : ∀ c ∈ s, c.toNat < 128) : GoodT s := by
  refine ⟨s.map UInt8.toNat, ?_, ?_⟩
  · induction s with
    | nil => rfl
    | cons c s ih =>
      have hc := h c (by simp)
      rw [List.map_cons, encs_cons, encR_ascii _ (by omega) (by omega), ← ih fun x hx => h x (by simp [hx])]
      simp
  · intro r hr
    obtain ⟨c, hc, rfl⟩ := List.mem_map.1 hr
    have := h c hc
    exact .inl (by omega)
theorem GoodT.append {a b : Bs} (h : GoodT a) (k : GoodT b) : GoodT (a ++ b) := by
  obtain ⟨x, rfl, hx⟩ := h
  obtain ⟨y, rfl, hy⟩ := k
  exact ⟨x ++ y, (encs_append x y).symm, fun r hr => (List.mem_append.1 hr).elim (hx r) (hy r)⟩
/-- a plain string in quotes, as it stands -/
theorem strR_plain {s : Bs} (h : ∀ c ∈ s, 32 ≤ c.toNat ∧ c.toNat < 128 ∧ c ≠ 34 ∧ c ≠ 92) (t : Bs) : strR (s ++ 34 :: t) = some (s, t) := by
  rw [strR_TR]
  have : ∀ (s out : Bs), (∀ c ∈ s, 32 ≤ c.toNat ∧ c.toNat < 128 ∧ c ≠ 34 ∧ c ≠ 92) → TR (s ++ 34 :: t) out = some (out ++ s, t) := by
    intro s
    induction s with
    | nil => intro out _; rw [List.nil_append, TR_end, List.append_nil]
    | cons c s ih =>
      intro out h
      obtain ⟨h1, h2, h3, h4⟩ := h c (by simp)
      rw [List.cons_append, TR_raw out h3 (by omega) h4]
      have hr : runeAt (c :: (s ++ 34 :: t)) 0 = (c.toNat, 1) := runeAt_ascii _ 0 h2
      rw [hr]
      simp only [List.drop_succ_cons, List.drop_zero]
      rw [ih _ fun x hx => h x (by simp [hx]), encR_ascii _ (by omega) (by omega)]
      simp
  simpa using this s [] h
theorem unk_reads (f : Nat) : MReads (f + 2) unkT unkM := by
  refine ⟨[], by simp, fun r hr => ?_⟩
  refine ⟨[32, 91, 49, 46, 53, 101, 51, 44, 32, 123, 34, 97, 34, 58, 110, 117, 108, 108, 125, 44, 32, 116, 114, 117, 101, 93] ++ r, ?_, ?_⟩
  · show keyR (34 :: ([120, 45, 117, 110, 107, 110, 111, 119, 110] ++ 34 :: ([32, 58, 32, 91, 49, 46, 53, 101, 51, 44, 32, 123, 34, 97, 34, 58, 110, 117, 108, 108, 125, 44, 32, 116, 114, 117, 101, 93] ++ r))) = _
    unfold keyR
    rw [skip_no (by decide)]
    simp only [if_true]
    rw [strR_plain (by decide)]
    simp only
    rw [show ([32, 58, 32, 91, 49, 46, 53, 101, 51, 44, 32, 123, 34, 97, 34, 58, 110, 117, 108, 108, 125, 44, 32, 116, 114, 117, 101, 93] ++ r : Bs) = [32] ++ (58 :: ([32, 91, 49, 46, 53, 101, 51, 44, 32, 123, 34, 97, 34, 58, 110, 117, 108, 108, 125, 44, 32, 116, 114, 117, 101, 93] ++ r)) from rfl, skip_bl (by decide), skip_no (by decide)]
    rfl
  · have e1 : Reads Stop (f + 1) [49, 46, 53, 101, 51] (.mk 48 false [49, 46, 53, 101, 51] [] []) := ⟨[49, 46, 53, 101, 51], [], by simp, rfl, fun r hr => rdV_num _ rfl (.inl (by decide)) (num_lit15 _ hr)⟩
    have e2 : Reads Stop (f + 1) [32, 123, 34, 97, 34, 58, 110, 117, 108, 108, 125] (.mk 123 false [] [.mk 110 false [] [] []] [[97]]) := by
      refine ⟨[32, 123, 34, 97, 34, 58, 110, 117, 108, 108, 125], [], by simp, rfl, fun r hr => ?_⟩
      rw [List.nil_append]
      have hm : MReads f [34, 97, 34, 58, 110, 117, 108, 108] ([97], .mk 110 false [] [] []) := by
        refine ⟨[], by simp, fun r hr => ⟨[110, 117, 108, 108] ++ r, ?_, lit_null f r hr⟩⟩
        show keyR (34 :: ([97] ++ 34 :: (58 :: ([110, 117, 108, 108] ++ r)))) = _
        unfold keyR
        rw [skip_no (by decide)]
        simp only [if_true]
        rw [strR_plain (by decide)]
        simp only
        rw [skip_no (by decide)]
        rfl
      have := obj_read (All2.cons hm .nil) (b := []) (by simp) r
      have e : ([32, 123, 34, 97, 34, 58, 110, 117, 108, 108, 125] ++ r : Bs) = [32] ++ (123 :: joinC [[34, 97, 34, 58, 110, 117, 108, 108]] ++ ([] ++ 125 :: r)) := rfl
      rw [e, rdV_bl _ (by decide)]
      exact this
    have e3 : Reads Stop (f + 1) [32, 116, 114, 117, 101] (.mk 116 false [] [] []) := by
      refine ⟨[32, 116, 114, 117, 101], [], by simp, rfl, fun r hr => ?_⟩
      rw [show ([32, 116, 114, 117, 101] ++ r : Bs) = [32] ++ ([116, 114, 117, 101] ++ r) from rfl, rdV_bl _ (by decide)]
      exact lit_true _ r hr
    have := list_read (All2.cons e1 (.cons e2 (.cons e3 .nil))) (b := []) (by simp) r
    have e : ([32, 91, 49, 46, 53, 101, 51, 44, 32, 123, 34, 97, 34, 58, 110, 117, 108, 108, 125, 44, 32, 116, 114, 117, 101, 93] ++ r : Bs) = [32] ++ (91 :: joinC [[49, 46, 53, 101, 51], [32, 123, 34, 97, 34, 58, 110, 117, 108, 108, 125], [32, 116, 114, 117, 101]] ++ ([] ++ 93 :: r)) := rfl
    rw [e, rdV_bl _ (by decide)]
    exact this
/-- depth of what is read within so many levels -/
theorem wval_reads : ∀ (d : Nat) (j : Js) (fixed : Bool) (w : Bs) (f : Nat), Fine d j → d + 2 ≤ f → ∃ v, Rep d fixed j v ∧ Reads (fun r => j.kind = 115 ∨ j.kind = 108 ∨ j.kind = 111 ∨ Stop r) f (wval d j fixed w).1 v
  | 0, j, fixed, w, f, h, _ => h.elim
  | d + 1, j, fixed, w, f, h, hf => by
    obtain ⟨g, rfl⟩ : ∃ g, f = g + 1 := ⟨f - 1, by omega⟩
    have hb1 := blk5_bl w
    have sub : ∀ (x : Js) (fx : Bool) (w : Bs), Fine d x → ∃ v, Rep d fx x v ∧ Reads Stop g (wval d x fx w).1 v := fun x fx w hx => by
      obtain ⟨v, h1, h2⟩ := wval_reads d x fx w g hx (by omega)
      exact ⟨v, h1, h2.mono fun r hr => .inr (.inr (.inr hr))⟩
    unfold Fine at h
    unfold wval Rep
    simp only
    by_cases hs : j.kind = 115
    · rw [if_pos hs] at h
      simp only [if_pos hs]
      obtain ⟨p, hr⟩ := Reads.str (g + 1) h (blk5 w).2 hb1 (blk5_bl (wquo j.text (blk5 w).2).2)
      exact ⟨_, ⟨p, rfl⟩, by rw [List.append_assoc]; exact hr.mono fun _ _ => trivial⟩
    rw [if_neg hs] at h
    simp only [if_neg hs]
    by_cases hl : j.kind = 108
    · rw [if_pos hl] at h
      simp only [if_pos hl]
      have key : ∀ (js : List Js) (w : Bs), (∀ x ∈ js, Fine d x) → ∃ vs, All2 (Rep d fixed) js vs ∧ All2 (Reads Stop g) (wlist (fun x w => wval d x fixed w) js w).1 vs := by
        intro js
        induction js with
        | nil => intro w _; exact ⟨[], .nil, .nil⟩
        | cons x js ih =>
          intro w hx
          obtain ⟨v, h1, h2⟩ := sub x fixed w (hx x (by simp))
          obtain ⟨vs, h3, h4⟩ := ih (wval d x fixed w).2 fun y hy => hx y (by simp [hy])
          exact ⟨v :: vs, .cons h1 h3, .cons h2 h4⟩
      obtain ⟨vs, h1, h2⟩ := key j.kids (blk5 w).2 h
      refine ⟨_, ⟨vs, rfl, h1⟩, ?_⟩
      generalize hL : wlist (fun x w => wval d x fixed w) j.kids (blk5 w).2 = l at h2 ⊢
      have hr := fun r => list_read h2 (blk5_bl l.2) r
      have := (Reads.post (S := fun r => j.kind = 115 ∨ j.kind = 108 ∨ j.kind = 111 ∨ Stop r) (f := g + 1) (a := 91 :: joinC l.1 ++ ((blk5 l.2).1 ++ [93])) (b := (blk5 (blk5 l.2).2).1) (fun r _ => by
        have := hr r
        rw [← this]; simp) (blk5_bl _)).pre hb1
      simpa [List.append_assoc] using this
    rw [if_neg hl] at h
    simp only [if_neg hl]
    by_cases ho : j.kind = 111
    · rw [if_pos ho] at h
      simp only [if_pos ho]
      have key : ∀ (n : Nat) (js : List Js) (w : Bs), js.length ≤ n → FineM (Fine d) js → ∃ ms, Membs (Rep d) fixed js ms ∧ All2 (MReads g) (wpairs (wval d) fixed js w).1 ms := by
        intro n
        induction n with
        | zero =>
          intro js w hn _
          have : js = [] := List.eq_nil_of_length_eq_zero (by omega)
          subst this
          exact ⟨[], trivial, .nil⟩
        | succ n ih =>
          intro js w hn hx
          match js, hx with
          | [], _ => exact ⟨[], trivial, .nil⟩
          | name :: x :: r, hx =>
            obtain ⟨k1, k2, k3⟩ := hx
            have hm : ∃ v, Rep d (fixed && !(fixed && freeN name.text)) x v ∧ MReads g (wmem (wval d) fixed name x w).1 (name.text, v) := by
              obtain ⟨v, e1, b, _, hb, rfl', hr⟩ : ∃ v, Rep d (fixed && !(fixed && freeN name.text)) x v ∧ Reads Stop g (wval d x (fixed && !(fixed && freeN name.text)) (blk5 (wquo name.text (blk5 w).2).2).2).1 v := sub _ _ _ k2
              refine ⟨v, e1, _, hb, fun r hS => ?_⟩
              have hS' := Stop.bl hb hS
              refine ⟨_, ?_, hr r hS'⟩
              obtain ⟨q, q1, q2⟩ := wquo_read k1 (blk5 w).2 ((blk5 (wquo name.text (blk5 w).2).2).1 ++ 58 :: ((wval d x (fixed && !(fixed && freeN name.text)) (blk5 (wquo name.text (blk5 w).2).2).2).1 ++ r))
              unfold wmem
              simp only
              unfold keyR
              rw [show (blk5 w).1 ++ (wquo name.text (blk5 w).2).1 ++ (blk5 (wquo name.text (blk5 w).2).2).1 ++ [58] ++ (wval d x (fixed && !(fixed && freeN name.text)) (blk5 (wquo name.text (blk5 w).2).2).2).1 ++ r =
                (blk5 w).1 ++ (34 :: (q ++ 34 :: ((blk5 (wquo name.text (blk5 w).2).2).1 ++ 58 :: ((wval d x (fixed && !(fixed && freeN name.text)) (blk5 (wquo name.text (blk5 w).2).2).2).1 ++ r)))) from by rw [q1]; simp]
              rw [skip_bl (blk5_bl _), skip_no (by decide)]
              simp only [if_true, q2]
              rw [skip_bl (blk5_bl _), skip_no (by decide)]
              rfl
            obtain ⟨v, m1, m2⟩ := hm
            obtain ⟨ms, i1, i2⟩ := ih r (wmem (wval d) fixed name x w).2 (by simp only [List.length_cons] at hn; omega) k3
            exact ⟨(name.text, v) :: ms, ⟨rfl, m1, i1⟩, .cons m2 i2⟩
          | [_], hx => exact hx.elim
      obtain ⟨base, h1, h2⟩ := key _ j.kids (blk5 w).2 (Nat.le_refl _) h
      generalize hP : wpairs (wval d) fixed j.kids (blk5 w).2 = p at h2 ⊢
      have hq : ∃ ms, (if fixed then base.Perm ms ∨ (base ++ [unkM]).Perm ms else ms = base) ∧ All2 (MReads g) (wfix fixed p.1 p.2).1 ms := by
        unfold wfix
        cases fixed with
        | false => exact ⟨base, rfl, h2⟩
        | true =>
          simp only [if_true]
          split
          · have hu : MReads g unkT unkM := by
              obtain ⟨g', rfl⟩ : ∃ g', g = g' + 2 := ⟨g - 2, by omega⟩
              exact unk_reads g'
            obtain ⟨ms, k1, k2⟩ := All2.perm (shuf_perm _ _ _) (h2.append (All2.cons hu .nil))
            exact ⟨ms, .inr k1, k2⟩
          · obtain ⟨ms, k1, k2⟩ := All2.perm (shuf_perm _ _ _) h2
            exact ⟨ms, .inl k1, k2⟩
      obtain ⟨ms, m1, m2⟩ := hq
      refine ⟨_, ⟨base, ms, rfl, h1, m1⟩, ?_⟩
      generalize wfix fixed p.1 p.2 = q at m2 ⊢
      have hr := fun r => obj_read m2 (blk5_bl q.2) r
      have := (Reads.post (S := fun r => j.kind = 115 ∨ j.kind = 108 ∨ j.kind = 111 ∨ Stop r) (f := g + 1) (a := 123 :: joinC q.1 ++ ((blk5 q.2).1 ++ [125])) (b := (blk5 (blk5 q.2).2).1) (fun r _ => by
        have := hr r
        rw [← this]; simp) (blk5_bl _)).pre hb1
      simpa [List.append_assoc] using this
    rw [if_neg ho] at h
    simp only [if_neg ho]
    obtain ⟨v, hv⟩ := h
    refine ⟨v, hv, ?_⟩
    have := (Reads.post (S := fun r => j.kind = 115 ∨ j.kind = 108 ∨ j.kind = 111 ∨ Stop r) (f := g + 1) (a := j.text) (b := (blk5 (blk5 w).2).1) (fun r hr => hv _ _ (by
      rcases hr with h | h | h | h
      · exact absurd h hs
      · exact absurd h hl
      · exact absurd h ho
      · exact h)) (blk5_bl _)).pre hb1
    simpa [List.append_assoc] using this
end Go.V
/-
  Base 64, there and back. Plain Lean.
-/
namespace Go.V
set_option linter.unusedVariables false
set_option linter.unusedSimpArgs false
set_option maxRecDepth 10000
def b64A : Bs := [65, 66, 67, 68, 69, 70, 71, 72, 73, 74, 75, 76, 77, 78, 79, 80, 81, 82, 83, 84, 85, 86, 87, 88, 89, 90, 97, 98, 99, 100, 101, 102, 103, 104, 105, 106, 107, 108, 109, 110, 111, 112, 113, 114, 115, 116, 117, 118, 119, 120, 121, 122, 48, 49, 50, 51, 52, 53, 54, 55, 56, 57, 43, 47]
def b64c (n : Nat) : UInt8 := b64A.getD (n % 64) 0
def b64 : Bs → Bs
  | [] => []
  | [a] => [b64c (a.toNat / 4), b64c (a.toNat % 4 * 16), 61, 61]
  | [a, b] => [b64c (a.toNat / 4), b64c (a.toNat % 4 * 16 + b.toNat / 16), b64c (b.toNat % 16 * 4), 61]
  | a :: b :: c :: t => b64c (a.toNat / 4) :: b64c (a.toNat % 4 * 16 + b.toNat / 16) :: b64c (b.toNat % 16 * 4 + c.toNat / 64) :: b64c (c.toNat % 64) :: b64 t
theorem b64_len : ∀ s : Bs, (b64 s).length = (s.length + 2) / 3 * 4
  | [] => rfl
  | [a] => by simp only [b64, List.length_cons, List.length_nil]
  | [a, b] => by simp only [b64, List.length_cons, List.length_nil]
  | a :: b :: c :: t => by
    simp only [b64, List.length_cons, b64_len t]; omega
theorem b64c_asc_fin : ∀ k : Fin 64, 43 ≤ (b64A.getD k.val 0).toNat ∧ (b64A.getD k.val 0).toNat < 123 ∧ b64A.getD k.val 0 ≠ 61 ∧ b64A.getD k.val 0 ≠ 92 ∧ b64A.getD k.val 0 ≠ 58 := by decide
theorem b64c_asc (n : Nat) : 43 ≤ (b64c n).toNat ∧ (b64c n).toNat < 123 ∧ b64c n ≠ 61 ∧ b64c n ≠ 92 ∧ b64c n ≠ 58 := b64c_asc_fin ⟨n % 64, Nat.mod_lt _ (by decide)⟩
theorem b64_asc : ∀ s : Bs, ∀ c ∈ b64 s, 43 ≤ c.toNat ∧ c.toNat < 123 ∧ c ≠ 92
  | [], c, h => by simp [b64] at h
  | [a], c, h => by
    simp only [b64, List.mem_cons, List.not_mem_nil, or_false] at h
    rcases h with rfl | rfl | rfl | rfl
    · exact ⟨(b64c_asc _).1, (b64c_asc _).2.1, (b64c_asc _).2.2.2.1⟩
    · exact ⟨(b64c_asc _).1, (b64c_asc _).2.1, (b64c_asc _).2.2.2.1⟩
    · decide
    · decide
  | [a, b], c, h => by
    simp only [b64, List.mem_cons, List.not_mem_nil, or_false] at h
    rcases h with rfl | rfl | rfl | rfl
    · exact ⟨(b64c_asc _).1, (b64c_asc _).2.1, (b64c_asc _).2.2.2.1⟩
    · exact ⟨(b64c_asc _).1, (b64c_asc _).2.1, (b64c_asc _).2.2.2.1⟩
    · exact ⟨(b64c_asc _).1, (b64c_asc _).2.1, (b64c_asc _).2.2.2.1⟩
    · decide
  | a :: b :: d :: t, c, h => by
    simp only [b64, List.mem_cons] at h
    rcases h with rfl | rfl | rfl | rfl | h
    · exact ⟨(b64c_asc _).1, (b64c_asc _).2.1, (b64c_asc _).2.2.2.1⟩
    · exact ⟨(b64c_asc _).1, (b64c_asc _).2.1, (b64c_asc _).2.2.2.1⟩
    · exact ⟨(b64c_asc _).1, (b64c_asc _).2.1, (b64c_asc _).2.2.2.1⟩
    · exact ⟨(b64c_asc _).1, (b64c_asc _).2.1, (b64c_asc _).2.2.2.1⟩
    · exact b64_asc t c h
end Go.V
/-
  A summary of the library, at this program: which number stands where.
-/
namespace Go.V
open Go.Shelf Go.Proofs
set_option linter.unusedVariables false
set_option maxRecDepth 100000
def ren196 : Go.Shelf.Ren := ⟨fun | 196 => 13 | 259 => 22 | n => n, fun | 0 => 0 | 3 => 3 | 4 => 4 | 5 => 5 | 9 => 9 | 12 => 12 | 46 => 62 | 53 => 79 | 119 => 58 | 138 => 60 | 139 => 61 | n => n, fun | 3 => 0 | 4 => 1 | n => n⟩
theorem lays196 : Lays.n196 Proofs.Tryd.prog ren196 := {
  mixed := by kernel_rfl
  f196 := Proofs.Tryd.func13.trans (congrArg some (by kernel_rfl))
  f259 := Proofs.Tryd.func22.trans (congrArg some (by kernel_rfl))
  t0 := Proofs.Tryd.underlying0
  a0 := Proofs.Tryd.isAgg0
  z0 := Proofs.Tryd.sizeOf0
  v0 := Proofs.Tryd.zeroValue0
  t3 := Proofs.Tryd.underlying3
  a3 := Proofs.Tryd.isAgg3
  z3 := Proofs.Tryd.sizeOf3
  v3 := Proofs.Tryd.zeroValue3
  t4 := Proofs.Tryd.underlying4
  a4 := Proofs.Tryd.isAgg4
  z4 := Proofs.Tryd.sizeOf4
  v4 := Proofs.Tryd.zeroValue4
  t5 := Proofs.Tryd.underlying5
  a5 := Proofs.Tryd.isAgg5
  z5 := Proofs.Tryd.sizeOf5
  v5 := Proofs.Tryd.zeroValue5
  t9 := Proofs.Tryd.underlying9
  a9 := Proofs.Tryd.isAgg9
  z9 := Proofs.Tryd.sizeOf9
  v9 := Proofs.Tryd.zeroValue9
  t12 := Proofs.Tryd.underlying12
  a12 := Proofs.Tryd.isAgg12
  z12 := Proofs.Tryd.sizeOf12
  v12 := Proofs.Tryd.zeroValue12
  t46 := Proofs.Tryd.underlying62
  a46 := Proofs.Tryd.isAgg62
  z46 := Proofs.Tryd.sizeOf62
  v46 := Proofs.Tryd.zeroValue62
  t53 := Proofs.Tryd.underlying79
  a53 := Proofs.Tryd.isAgg79
  z53 := Proofs.Tryd.sizeOf79
  v53 := Proofs.Tryd.zeroValue79
  t119 := Proofs.Tryd.underlying58
  a119 := Proofs.Tryd.isAgg58
  z119 := Proofs.Tryd.sizeOf58
  t138 := Proofs.Tryd.underlying60
  a138 := Proofs.Tryd.isAgg60
  z138 := Proofs.Tryd.sizeOf60
  v138 := Proofs.Tryd.zeroValue60
  t139 := Proofs.Tryd.underlying61
  a139 := Proofs.Tryd.isAgg61
  z139 := Proofs.Tryd.sizeOf61
  v139 := Proofs.Tryd.zeroValue61
  g3 := by kernel_rfl
  g4 := by kernel_rfl }
end Go.V
/-
  A summary of the library, at this program: which number stands where.
-/
namespace Go.V
open Go.Shelf Go.Proofs
set_option linter.unusedVariables false
set_option maxRecDepth 100000
def ren197 : Go.Shelf.Ren := ⟨fun | 197 => 81 | 260 => 82 | n => n, fun | 0 => 0 | 3 => 3 | 4 => 4 | 5 => 5 | 9 => 9 | 21 => 21 | 46 => 62 | 105 => 116 | 119 => 58 | 138 => 60 | 139 => 61 | n => n, fun | 3 => 0 | 4 => 1 | n => n⟩
theorem lays197 : Lays.n197 Proofs.Tryd.prog ren197 := {
  mixed := by kernel_rfl
  f197 := Proofs.Tryd.func81.trans (congrArg some (by kernel_rfl))
  f260 := Proofs.Tryd.func82.trans (congrArg some (by kernel_rfl))
  t0 := Proofs.Tryd.underlying0
  a0 := Proofs.Tryd.isAgg0
  z0 := Proofs.Tryd.sizeOf0
  v0 := Proofs.Tryd.zeroValue0
  t3 := Proofs.Tryd.underlying3
  a3 := Proofs.Tryd.isAgg3
  z3 := Proofs.Tryd.sizeOf3
  v3 := Proofs.Tryd.zeroValue3
  t4 := Proofs.Tryd.underlying4
  a4 := Proofs.Tryd.isAgg4
  z4 := Proofs.Tryd.sizeOf4
  v4 := Proofs.Tryd.zeroValue4
  t5 := Proofs.Tryd.underlying5
  a5 := Proofs.Tryd.isAgg5
  z5 := Proofs.Tryd.sizeOf5
  v5 := Proofs.Tryd.zeroValue5
  t9 := Proofs.Tryd.underlying9
  a9 := Proofs.Tryd.isAgg9
  z9 := Proofs.Tryd.sizeOf9
  v9 := Proofs.Tryd.zeroValue9
  t21 := Proofs.Tryd.underlying21
  a21 := Proofs.Tryd.isAgg21
  z21 := Proofs.Tryd.sizeOf21
  v21 := Proofs.Tryd.zeroValue21
  t46 := Proofs.Tryd.underlying62
  a46 := Proofs.Tryd.isAgg62
  z46 := Proofs.Tryd.sizeOf62
  v46 := Proofs.Tryd.zeroValue62
  t105 := Proofs.Tryd.underlying116
  a105 := Proofs.Tryd.isAgg116
  z105 := Proofs.Tryd.sizeOf116
  v105 := Proofs.Tryd.zeroValue116
  t119 := Proofs.Tryd.underlying58
  a119 := Proofs.Tryd.isAgg58
  z119 := Proofs.Tryd.sizeOf58
  t138 := Proofs.Tryd.underlying60
  a138 := Proofs.Tryd.isAgg60
  z138 := Proofs.Tryd.sizeOf60
  v138 := Proofs.Tryd.zeroValue60
  t139 := Proofs.Tryd.underlying61
  a139 := Proofs.Tryd.isAgg61
  z139 := Proofs.Tryd.sizeOf61
  v139 := Proofs.Tryd.zeroValue61
  g3 := by kernel_rfl
  g4 := by kernel_rfl }
end Go.V
/-
  A summary of the library, at this program: which number stands where.
-/
namespace Go.V
open Go.Shelf Go.Proofs
set_option linter.unusedVariables false
set_option maxRecDepth 100000
def ren32 : Go.Shelf.Ren := ⟨fun | 32 => 49 | 49 => 53 | n => n, fun | 0 => 0 | 3 => 3 | 4 => 4 | 5 => 5 | 21 => 21 | 25 => 62 | 30 => 22 | 33 => 116 | 66 => 58 | 68 => 60 | 69 => 61 | n => n, fun | 2 => 0 | 3 => 1 | n => n⟩
theorem lays32 : Lays7.n32 Proofs.Tryd.prog ren32 := {
  mixed := by kernel_rfl
  f32 := Proofs.Tryd.func49.trans (congrArg some (by kernel_rfl))
  f49 := Proofs.Tryd.func53.trans (congrArg some (by kernel_rfl))
  t0 := Proofs.Tryd.underlying0
  a0 := Proofs.Tryd.isAgg0
  z0 := Proofs.Tryd.sizeOf0
  v0 := Proofs.Tryd.zeroValue0
  i0 := by kernel_rfl
  t3 := Proofs.Tryd.underlying3
  a3 := Proofs.Tryd.isAgg3
  z3 := Proofs.Tryd.sizeOf3
  v3 := Proofs.Tryd.zeroValue3
  i3 := by kernel_rfl
  t4 := Proofs.Tryd.underlying4
  a4 := Proofs.Tryd.isAgg4
  z4 := Proofs.Tryd.sizeOf4
  v4 := Proofs.Tryd.zeroValue4
  i4 := by kernel_rfl
  t5 := Proofs.Tryd.underlying5
  a5 := Proofs.Tryd.isAgg5
  z5 := Proofs.Tryd.sizeOf5
  v5 := Proofs.Tryd.zeroValue5
  i5 := by kernel_rfl
  t21 := Proofs.Tryd.underlying21
  a21 := Proofs.Tryd.isAgg21
  z21 := Proofs.Tryd.sizeOf21
  v21 := Proofs.Tryd.zeroValue21
  i21 := by kernel_rfl
  t25 := Proofs.Tryd.underlying62
  a25 := Proofs.Tryd.isAgg62
  z25 := Proofs.Tryd.sizeOf62
  v25 := Proofs.Tryd.zeroValue62
  i25 := by kernel_rfl
  t30 := Proofs.Tryd.underlying22
  a30 := Proofs.Tryd.isAgg22
  z30 := Proofs.Tryd.sizeOf22
  v30 := Proofs.Tryd.zeroValue22
  i30 := by kernel_rfl
  t33 := Proofs.Tryd.underlying116
  a33 := Proofs.Tryd.isAgg116
  z33 := Proofs.Tryd.sizeOf116
  v33 := Proofs.Tryd.zeroValue116
  i33 := by kernel_rfl
  t66 := Proofs.Tryd.underlying58
  a66 := Proofs.Tryd.isAgg58
  z66 := Proofs.Tryd.sizeOf58
  t68 := Proofs.Tryd.underlying60
  a68 := Proofs.Tryd.isAgg60
  z68 := Proofs.Tryd.sizeOf60
  v68 := Proofs.Tryd.zeroValue60
  i68 := by kernel_rfl
  t69 := Proofs.Tryd.underlying61
  a69 := Proofs.Tryd.isAgg61
  z69 := Proofs.Tryd.sizeOf61
  v69 := Proofs.Tryd.zeroValue61
  i69 := by kernel_rfl
  g2 := by kernel_rfl
  g3 := by kernel_rfl }
end Go.V
/-
  UTF-8 in the library: texts asked whether they are valid, runes read and written.
-/
namespace Go.V
open Go.RowKit
set_option linter.unusedVariables false
set_option linter.unusedSimpArgs false
set_option maxRecDepth 10000
attribute [local irreducible] Run Ops QD
/-- the two tables of unicode/utf8 -/
def UT (I : Imm) : Prop := (∀ c, c < 256 → At I 0 c [.int .u8 (Lib.firstT c)]) ∧ ∀ i, i < 16 → At I 1 (2 * i) [.int .u8 (Lib.accLo i)] ∧ At I 1 (2 * i + 1) [.int .u8 (Lib.accHi i)]
theorem UT.mono {I J : Imm} (h : UT I) (hle : Le I J) : UT J := ⟨fun c hc => (h.1 c hc).mono hle, fun i hi => ⟨(h.2 i hi).1.mono hle, (h.2 i hi).2.mono hle⟩⟩
theorem At.cellF {I : Imm} {L : Own} {W : World} (h : Fits I L W) {b off : Nat} {v : Value} (hA : At I b off [v]) : W.cell? ⟨b, off, none⟩ = some v := by
  have := (show Holds I L W from ⟨h.imm, h.own⟩).cell hA 0 v rfl
  simpa using this
theorem UT.tabs {I : Imm} {L : Own} {W : World} (h : UT I) (hf : Fits I L W) : Lib.Utf8Tabs 0 1 W :=
  ⟨fun c hc => (h.1 c hc).cellF hf, fun i hi => ⟨(h.2 i hi).1.cellF hf, (h.2 i hi).2.cellF hf⟩⟩
theorem utf8_ValidString (I : Imm) (hU : UT I) (s : List UInt8) (hs : s.length ≤ 1099511627776) : Pure Proofs.Tryd.prog 13 [str s] I fun w J => w = .bool (Lib.validD s) ∧ J = I :=
  Pure.ofBelow fun W hf => by
    have := Proofs.Any.utf8_ValidString lays196 ⟨s.toArray⟩ W (by rw [str_size]; omega) (hU.tabs hf)
    exact this
theorem decGo (s : List UInt8) (hs : s ≠ []) : Lib.decodeGo ⟨s.toArray⟩ = runeAt s 0 := by
  have : (⟨s.toArray⟩ : ByteArray).size ≠ 0 := by rw [str_size]; have := List.length_pos_iff.2 hs; omega
  unfold Lib.decodeGo
  rw [if_neg this]; rfl
theorem utf8_DecodeStr (I : Imm) (hU : UT I) (s : List UInt8) (hs : s ≠ []) : Pure Proofs.Tryd.prog 81 [str s] I fun w J => w = .tuple #[.int .i32 ((runeAt s 0).1 : Int), .int .i64 ((runeAt s 0).2 : Int)] ∧ J = I :=
  Pure.ofBelow fun W hf => by
    have := Proofs.Any.utf8_DecodeRuneInString lays197 ⟨s.toArray⟩ W (hU.tabs hf)
    rw [decGo s hs] at this
    exact this
theorem utf8_Decode (I : Imm) (hU : UT I) (s : List UInt8) (v : Value) (db off c : Nat) (hR : Rd I v s db off c) (hs : s ≠ []) : Pure Proofs.Tryd.prog 49 [v] I fun w J => w = .tuple #[.int .i32 ((runeAt s 0).1 : Int), .int .i64 ((runeAt s 0).2 : Int)] ∧ J = I :=
  Pure.ofBelow fun W hf => by
    obtain rfl := hR.eq
    have := Proofs.Any7.utf8_DecodeRune lays32 ⟨s.toArray⟩ db off c W (hU.tabs hf) (fun j hj => by
      rw [str_size] at hj
      have := (hR.at' j hj).cellF hf
      have e : (⟨s.toArray⟩ : ByteArray).get! j = s.getD j 0 := ba_get s j
      rw [e, ← this]
      congr 2; omega)
    rw [decGo s hs, str_size] at this
    exact this
theorem w8_nat {k : Nat} (h : k < 256) : Value.int .u8 (k : Int) = w8 (UInt8.ofNat k) := by unfold w8; rw [ofNat_nat h]
theorem shrL (a k : Nat) : (a : Int).fdiv (2 ^ k) = ((a / 2 ^ k : Nat) : Int) := by
  rw [Int.fdiv_eq_ediv_of_nonneg _ (Int.pow_nonneg (by decide))]
  simp
theorem and63 (a : Nat) : a &&& 63 = a % 64 := Nat.and_two_pow_sub_one_eq_mod a 6
theorem btB : Bt Proofs.Tryd.prog 22 5 := ⟨el22, Proofs.Tryd.t5, by kernel_rfl, rfl⟩
theorem wrapU32 {k : Nat} (h : k < 4294967296) : IntKind.u32.wrap (k : Int) = (k : Int) := by rw [wrap32]; omega
theorem wrapM8 (k : Nat) : IntKind.u8.wrap (k : Int) = ((k % 256 : Nat) : Int) := by rw [wrap8]; omega
/-- a byte that follows: 128 and six bits -/
theorem or128 (a : Nat) : 128 ||| a % 64 = 128 + a % 64 := orSh (a := 2) 6 (Nat.mod_lt _ (by decide))
set_option maxHeartbeats 1000000 in
theorem utf8_appendNon (I : Imm) (v : Value) (xs : List UInt8) (r : Nat) (M : Own) (hB : Buf 5 v xs M) (hx : xs.length ≤ 1099511627776) (h0 : 128 ≤ r) (h1 : r ≤ 1114111) :
    Spec Proofs.Tryd.prog 54 [v, .int .i32 (r : Int)] I M fun w J M' => Buf 5 w (xs ++ encR (r : Int)) M' ∧ J = I := by
  refine Spec.enter 78 [(0, _), (1, _)] Proofs.Tryd.func54 rfl Proofs.Tryd.ntmps54 (by simp) rfl ?_
  intro C hCf hR hCI
  refine Run.seq ?_
  refine Run.regionO (D := [some 4]) [true] rfl rfl rfl (fun Z hZ => ?_)
  refine q1 dc rfl rfl ?_
  refine QD.nil (hZ _ ?_)
  clear hZ Z
  refine Run.seq ?_
  refine Run.regionO (D := [some 6, some 7, some 5]) [true, true, true] rfl rfl rfl (fun Z hZ => ?_)
  refine q1 dc rfl rfl ?_
  refine QD.e (Ev.conv (a := (r : Int)) (r := (r : Int)) T rfl rfl rfl (wrapU32 (by omega))) dc rfl ?_
  refine q1 dc rfl rfl ?_
  refine QD.nil (hZ _ ?_)
  clear hZ Z
  repeat (first | refine Run.seq ?_ | refine Run.block ?_)
  refine Run.regionO (D := [some 12, some 13, some 11]) [true, true, true] rfl rfl rfl (fun Z hZ => ?_)
  refine q1 dc rfl rfl ?_
  refine QD.e (Ev.leq rfl rfl) dc rfl ?_
  refine q1 dc rfl rfl ?_
  refine QD.nil (hZ _ ?_)
  clear hZ Z
  by_cases c1 : r ≤ 2047
  · rw [decide_eq_true (show (r : Int) ≤ 2047 by omega)]
    have g : goodR r := .inl (by omega)
    have e : encR (r : Int) = [UInt8.ofNat (192 + r / 64), UInt8.ofNat (128 + r % 64)] := by rw [encR_good g, if_neg (by omega), if_pos (by omega)]
    repeat (first | refine Run.seq ?_ | refine Run.cond_t rfl ?_)
    refine Run.regionP (D := [some 14, some 15, some 16, some 17, some 18, some 19, some 20, some 21, some 22, some 23, some 24, some 4]) [true, true, true, true, true, true, true, true, true] 9 rfl rfl rfl (by simp only [List.drop_succ_cons, List.drop_zero]; rfl) (fun Z hZ => ?_)
    iterate 2 refine q1 dc rfl rfl ?_
    refine QD.e (Ev.shrK rfl rfl dc dc (shrL r 6)) dc rfl ?_
    refine QD.e (Ev.conv (r := ((r / 64 : Nat) : Int)) T rfl rfl rfl (wrapN8 (by omega))) dc rfl ?_
    refine QD.e ((Ev.orK (a := 192) (c := 192 + r / 64) rfl rfl dc (by show _ < 256; omega) (orSh (a := 3) 6 (by omega)) (wrapN8 (by omega))).as (w8_nat (by omega))) dc rfl ?_
    refine q1 dc rfl rfl ?_
    refine QD.e (Ev.conv (r := ((r % 256 : Nat) : Int)) T rfl rfl rfl (wrapM8 r)) dc rfl ?_
    refine QD.e (Ev.andK (b := 63) (c := r % 64) rfl rfl (by show _ < 256; omega) dc (by rw [and63]; omega) (wrapN8 (by omega))) dc rfl ?_
    refine QD.e ((Ev.orK (a := 128) (c := 128 + r % 64) rfl rfl dc (by show _ < 256; omega) (or128 r) (wrapN8 (by omega))).as (w8_nat (by omega))) dc rfl ?_
    refine QD.nil (hZ _ ?_)
    clear hZ Z
    refine Ops.lit T rfl rfl rfl dc rfl dc dc rfl rfl rfl rfl rfl (fun bq => ?_)
    refine Ops.appLit [UInt8.ofNat (192 + r / 64), UInt8.ofNat (128 + r % 64)] (N := []) btB hB rfl dc rfl rfl rfl rfl rfl (by simp; omega) fun v1 M1 hB1 => ?_
    refine Ops.pure T rfl dc rfl ?_
    refine Ops.nil ?_
    skip
    refine Run.ret1 (by rw [hCf]; exact Proofs.Tryd.func54) Proofs.Tryd.results54 rfl (hR _ _ _ ?_)
    rw [e]
    exact ⟨hB1, rfl⟩
  rw [decide_eq_false (show ¬ (r : Int) ≤ 2047 by omega)]
  repeat (first | refine Run.seq ?_ | refine Run.cond_f rfl ?_)
  refine Run.regionO (D := [some 26, some 27, some 25]) [true, true, true] rfl rfl rfl (fun Z hZ => ?_)
  refine q1 dc rfl rfl ?_
  refine QD.e (Ev.lss rfl rfl) dc rfl ?_
  refine q1 dc rfl rfl ?_
  refine QD.nil (hZ _ ?_)
  clear hZ Z
  by_cases c2 : r < 55296
  · rw [decide_eq_true (show (r : Int) < 55296 by omega)]
    have e : encR (r : Int) = [UInt8.ofNat (224 + r / 4096), UInt8.ofNat (128 + r / 64 % 64), UInt8.ofNat (128 + r % 64)] := by rw [encR_good (.inl c2), if_neg (by omega), if_neg (by omega), if_pos (by omega)]
    repeat (first | refine Run.seq ?_ | refine Run.skip ?_ | refine Run.cond_t rfl ?_)
    refine Run.regionP (D := [some 34, some 35, some 36, some 37, some 38, some 39, some 40, some 41, some 42, some 43, some 44, some 45, some 46, some 47, some 48, some 49, some 4]) [true, true, true, true, true, true, true, true, true, true, true, true, true, true] 14 rfl rfl rfl (by simp only [List.drop_succ_cons, List.drop_zero]; rfl) (fun Z hZ => ?_)
    iterate 2 refine q1 dc rfl rfl ?_
    refine QD.e (Ev.shrK rfl rfl dc dc (shrL r 12)) dc rfl ?_
    refine QD.e (Ev.conv (r := ((r / 4096 : Nat) : Int)) T rfl rfl rfl (wrapN8 (by omega))) dc rfl ?_
    refine QD.e ((Ev.orK (a := 224) (c := 224 + r / 4096) rfl rfl dc (by show _ < 256; omega) (orSh (a := 14) 4 (by omega)) (wrapN8 (by omega))).as (w8_nat (by omega))) dc rfl ?_
    refine q1 dc rfl rfl ?_
    refine QD.e (Ev.shrK rfl rfl dc dc (shrL r 6)) dc rfl ?_
    refine QD.e (Ev.conv (r := (((r / 64) % 256 : Nat) : Int)) T rfl rfl rfl (wrapM8 (r / 64))) dc rfl ?_
    refine QD.e (Ev.andK (b := 63) (c := (r / 64) % 64) rfl rfl (by show _ < 256; omega) dc (by rw [and63]; omega) (wrapN8 (by omega))) dc rfl ?_
    refine QD.e ((Ev.orK (a := 128) (c := 128 + (r / 64) % 64) rfl rfl dc (by show _ < 256; omega) (or128 (r / 64)) (wrapN8 (by omega))).as (w8_nat (by omega))) dc rfl ?_
    refine q1 dc rfl rfl ?_
    refine QD.e (Ev.conv (r := (((r) % 256 : Nat) : Int)) T rfl rfl rfl (wrapM8 (r))) dc rfl ?_
    refine QD.e (Ev.andK (b := 63) (c := (r) % 64) rfl rfl (by show _ < 256; omega) dc (by rw [and63]; omega) (wrapN8 (by omega))) dc rfl ?_
    refine QD.e ((Ev.orK (a := 128) (c := 128 + (r) % 64) rfl rfl dc (by show _ < 256; omega) (or128 (r)) (wrapN8 (by omega))).as (w8_nat (by omega))) dc rfl ?_
    refine QD.nil (hZ _ ?_)
    clear hZ Z
    refine Ops.lit T rfl rfl rfl dc rfl dc dc rfl rfl rfl rfl rfl (fun bq => ?_)
    refine Ops.appLit [UInt8.ofNat (224 + r / 4096), UInt8.ofNat (128 + r / 64 % 64), UInt8.ofNat (128 + r % 64)] (N := []) btB hB rfl dc rfl rfl rfl rfl rfl (by simp; omega) fun v1 M1 hB1 => ?_
    refine Ops.pure T rfl dc rfl ?_
    refine Ops.nil ?_
    skip
    refine Run.ret1 (by rw [hCf]; exact Proofs.Tryd.func54) Proofs.Tryd.results54 rfl (hR _ _ _ ?_)
    rw [e]
    exact ⟨hB1, rfl⟩
  rw [decide_eq_false (show ¬ (r : Int) < 55296 by omega)]
  refine Run.cond_f rfl ?_
  by_cases c3 : r ≤ 57343
  · have e : encR (r : Int) = [239, 191, 189] := encR_bad (by
      cases h : Utf8.valid (r : Int) with
      | false => rfl
      | true => have := of_valid h; unfold goodR at this; omega)
    refine Run.regionO (D := [some 28, some 29, some 30, some 31, some 32, some 33, some 25]) [true, true, true, true, true, true, true] rfl rfl rfl (fun Z hZ => ?_)
    refine q1 dc rfl rfl ?_
    refine qf (Ev.lss rfl rfl) (by omega) dc rfl ?_
    refine q1 dc rfl rfl ?_
    iterate 2 refine QD.off dc rfl ?_
    iterate 2 refine q1 dc rfl rfl ?_
    refine QD.nil (hZ _ ?_)
    clear hZ Z
    repeat (first | refine Run.seq ?_ | refine Run.cond_f rfl ?_)
    refine Run.regionO (D := [some 51, some 52, some 53, some 54, some 55, some 56, some 50]) [true, true, true, true, true, true, true] rfl rfl rfl (fun Z hZ => ?_)
    refine q1 dc rfl rfl ?_
    refine qf (Ev.gtr rfl rfl) (by omega) dc rfl ?_
    refine q1 dc rfl rfl ?_
    iterate 2 refine QD.off dc rfl ?_
    iterate 2 refine q1 dc rfl rfl ?_
    refine QD.nil (hZ _ ?_)
    clear hZ Z
    repeat (first | refine Run.seq ?_ | refine Run.cond_f rfl ?_)
    refine Run.regionP (D := [some 8, some 9, some 10, some 4]) [true] 1 rfl rfl rfl (by simp only [List.drop_succ_cons, List.drop_zero]; rfl) (fun Z hZ => ?_)
    refine q1 dc rfl rfl ?_
    refine QD.nil (hZ _ ?_)
    clear hZ Z
    refine Ops.lit T rfl rfl rfl dc rfl dc dc rfl rfl rfl rfl rfl (fun bq => ?_)
    refine Ops.appLit [239, 191, 189] (N := []) btB hB rfl dc rfl rfl rfl rfl rfl (by simp; omega) fun v1 M1 hB1 => ?_
    refine Ops.pure T rfl dc rfl ?_
    refine Ops.nil ?_
    skip
    refine Run.ret1 (by rw [hCf]; exact Proofs.Tryd.func54) Proofs.Tryd.results54 rfl (hR _ _ _ ?_)
    rw [e]
    exact ⟨hB1, rfl⟩
  by_cases c4 : r ≤ 65535
  · have e : encR (r : Int) = [UInt8.ofNat (224 + r / 4096), UInt8.ofNat (128 + r / 64 % 64), UInt8.ofNat (128 + r % 64)] := by rw [encR_good (.inr (by omega)), if_neg (by omega), if_neg (by omega), if_pos (by omega)]
    refine Run.regionO (D := [some 28, some 29, some 30, some 31, some 32, some 33, some 25]) [true, true, true, true, true, true, true] rfl rfl rfl (fun Z hZ => ?_)
    refine q1 dc rfl rfl ?_
    refine qt (Ev.lss rfl rfl) (by omega) dc rfl ?_
    iterate 2 refine q1 dc rfl rfl ?_
    refine qt (Ev.leq rfl rfl) (by omega) dc rfl ?_
    iterate 2 refine q1 dc rfl rfl ?_
    refine QD.nil (hZ _ ?_)
    clear hZ Z
    repeat (first | refine Run.seq ?_ | refine Run.cond_t rfl ?_)
    refine Run.regionP (D := [some 34, some 35, some 36, some 37, some 38, some 39, some 40, some 41, some 42, some 43, some 44, some 45, some 46, some 47, some 48, some 49, some 4]) [true, true, true, true, true, true, true, true, true, true, true, true, true, true] 14 rfl rfl rfl (by simp only [List.drop_succ_cons, List.drop_zero]; rfl) (fun Z hZ => ?_)
    iterate 2 refine q1 dc rfl rfl ?_
    refine QD.e (Ev.shrK rfl rfl dc dc (shrL r 12)) dc rfl ?_
    refine QD.e (Ev.conv (r := ((r / 4096 : Nat) : Int)) T rfl rfl rfl (wrapN8 (by omega))) dc rfl ?_
    refine QD.e ((Ev.orK (a := 224) (c := 224 + r / 4096) rfl rfl dc (by show _ < 256; omega) (orSh (a := 14) 4 (by omega)) (wrapN8 (by omega))).as (w8_nat (by omega))) dc rfl ?_
    refine q1 dc rfl rfl ?_
    refine QD.e (Ev.shrK rfl rfl dc dc (shrL r 6)) dc rfl ?_
    refine QD.e (Ev.conv (r := (((r / 64) % 256 : Nat) : Int)) T rfl rfl rfl (wrapM8 (r / 64))) dc rfl ?_
    refine QD.e (Ev.andK (b := 63) (c := (r / 64) % 64) rfl rfl (by show _ < 256; omega) dc (by rw [and63]; omega) (wrapN8 (by omega))) dc rfl ?_
    refine QD.e ((Ev.orK (a := 128) (c := 128 + (r / 64) % 64) rfl rfl dc (by show _ < 256; omega) (or128 (r / 64)) (wrapN8 (by omega))).as (w8_nat (by omega))) dc rfl ?_
    refine q1 dc rfl rfl ?_
    refine QD.e (Ev.conv (r := (((r) % 256 : Nat) : Int)) T rfl rfl rfl (wrapM8 (r))) dc rfl ?_
    refine QD.e (Ev.andK (b := 63) (c := (r) % 64) rfl rfl (by show _ < 256; omega) dc (by rw [and63]; omega) (wrapN8 (by omega))) dc rfl ?_
    refine QD.e ((Ev.orK (a := 128) (c := 128 + (r) % 64) rfl rfl dc (by show _ < 256; omega) (or128 (r)) (wrapN8 (by omega))).as (w8_nat (by omega))) dc rfl ?_
    refine QD.nil (hZ _ ?_)
    clear hZ Z
    refine Ops.lit T rfl rfl rfl dc rfl dc dc rfl rfl rfl rfl rfl (fun bq => ?_)
    refine Ops.appLit [UInt8.ofNat (224 + r / 4096), UInt8.ofNat (128 + r / 64 % 64), UInt8.ofNat (128 + r % 64)] (N := []) btB hB rfl dc rfl rfl rfl rfl rfl (by simp; omega) fun v1 M1 hB1 => ?_
    refine Ops.pure T rfl dc rfl ?_
    refine Ops.nil ?_
    skip
    refine Run.ret1 (by rw [hCf]; exact Proofs.Tryd.func54) Proofs.Tryd.results54 rfl (hR _ _ _ ?_)
    rw [e]
    exact ⟨hB1, rfl⟩
  · have e : encR (r : Int) = [UInt8.ofNat (240 + r / 262144), UInt8.ofNat (128 + r / 4096 % 64), UInt8.ofNat (128 + r / 64 % 64), UInt8.ofNat (128 + r % 64)] := by rw [encR_good (.inr (by omega)), if_neg (by omega), if_neg (by omega), if_neg (by omega)]
    refine Run.regionO (D := [some 28, some 29, some 30, some 31, some 32, some 33, some 25]) [true, true, true, true, true, true, true] rfl rfl rfl (fun Z hZ => ?_)
    refine q1 dc rfl rfl ?_
    refine qt (Ev.lss rfl rfl) (by omega) dc rfl ?_
    iterate 2 refine q1 dc rfl rfl ?_
    refine qf (Ev.leq rfl rfl) (by omega) dc rfl ?_
    iterate 2 refine q1 dc rfl rfl ?_
    refine QD.nil (hZ _ ?_)
    clear hZ Z
    repeat (first | refine Run.seq ?_ | refine Run.cond_f rfl ?_)
    refine Run.regionO (D := [some 51, some 52, some 53, some 54, some 55, some 56, some 50]) [true, true, true, true, true, true, true] rfl rfl rfl (fun Z hZ => ?_)
    refine q1 dc rfl rfl ?_
    refine qt (Ev.gtr rfl rfl) (by omega) dc rfl ?_
    iterate 2 refine q1 dc rfl rfl ?_
    refine qt (Ev.leq rfl rfl) (by omega) dc rfl ?_
    iterate 2 refine q1 dc rfl rfl ?_
    refine QD.nil (hZ _ ?_)
    clear hZ Z
    repeat (first | refine Run.seq ?_ | refine Run.cond_t rfl ?_)
    refine Run.regionP (D := [some 57, some 58, some 59, some 60, some 61, some 62, some 63, some 64, some 65, some 66, some 67, some 68, some 69, some 70, some 71, some 72, some 73, some 74, some 75, some 76, some 77, some 4]) [true, true, true, true, true, true, true, true, true, true, true, true, true, true, true, true, true, true, true] 19 rfl rfl rfl (by simp only [List.drop_succ_cons, List.drop_zero]; rfl) (fun Z hZ => ?_)
    iterate 2 refine q1 dc rfl rfl ?_
    refine QD.e (Ev.shrK rfl rfl dc dc (shrL r 18)) dc rfl ?_
    refine QD.e (Ev.conv (r := ((r / 262144 : Nat) : Int)) T rfl rfl rfl (wrapN8 (by omega))) dc rfl ?_
    refine QD.e ((Ev.orK (a := 240) (c := 240 + r / 262144) rfl rfl dc (by show _ < 256; omega) (orSh (a := 30) 3 (by omega)) (wrapN8 (by omega))).as (w8_nat (by omega))) dc rfl ?_
    refine q1 dc rfl rfl ?_
    refine QD.e (Ev.shrK rfl rfl dc dc (shrL r 12)) dc rfl ?_
    refine QD.e (Ev.conv (r := (((r / 4096) % 256 : Nat) : Int)) T rfl rfl rfl (wrapM8 (r / 4096))) dc rfl ?_
    refine QD.e (Ev.andK (b := 63) (c := (r / 4096) % 64) rfl rfl (by show _ < 256; omega) dc (by rw [and63]; omega) (wrapN8 (by omega))) dc rfl ?_
    refine QD.e ((Ev.orK (a := 128) (c := 128 + (r / 4096) % 64) rfl rfl dc (by show _ < 256; omega) (or128 (r / 4096)) (wrapN8 (by omega))).as (w8_nat (by omega))) dc rfl ?_
    refine q1 dc rfl rfl ?_
    refine QD.e (Ev.shrK rfl rfl dc dc (shrL r 6)) dc rfl ?_
    refine QD.e (Ev.conv (r := (((r / 64) % 256 : Nat) : Int)) T rfl rfl rfl (wrapM8 (r / 64))) dc rfl ?_
    refine QD.e (Ev.andK (b := 63) (c := (r / 64) % 64) rfl rfl (by show _ < 256; omega) dc (by rw [and63]; omega) (wrapN8 (by omega))) dc rfl ?_
    refine QD.e ((Ev.orK (a := 128) (c := 128 + (r / 64) % 64) rfl rfl dc (by show _ < 256; omega) (or128 (r / 64)) (wrapN8 (by omega))).as (w8_nat (by omega))) dc rfl ?_
    refine q1 dc rfl rfl ?_
    refine QD.e (Ev.conv (r := (((r) % 256 : Nat) : Int)) T rfl rfl rfl (wrapM8 (r))) dc rfl ?_
    refine QD.e (Ev.andK (b := 63) (c := (r) % 64) rfl rfl (by show _ < 256; omega) dc (by rw [and63]; omega) (wrapN8 (by omega))) dc rfl ?_
    refine QD.e ((Ev.orK (a := 128) (c := 128 + (r) % 64) rfl rfl dc (by show _ < 256; omega) (or128 (r)) (wrapN8 (by omega))).as (w8_nat (by omega))) dc rfl ?_
    refine QD.nil (hZ _ ?_)
    clear hZ Z
    refine Ops.lit T rfl rfl rfl dc rfl dc dc rfl rfl rfl rfl rfl (fun bq => ?_)
    refine Ops.appLit [UInt8.ofNat (240 + r / 262144), UInt8.ofNat (128 + r / 4096 % 64), UInt8.ofNat (128 + r / 64 % 64), UInt8.ofNat (128 + r % 64)] (N := []) btB hB rfl dc rfl rfl rfl rfl rfl (by simp; omega) fun v1 M1 hB1 => ?_
    refine Ops.pure T rfl dc rfl ?_
    refine Ops.nil ?_
    skip
    refine Run.ret1 (by rw [hCf]; exact Proofs.Tryd.func54) Proofs.Tryd.results54 rfl (hR _ _ _ ?_)
    rw [e]
    exact ⟨hB1, rfl⟩
theorem utf8_Append (I : Imm) (v : Value) (xs : List UInt8) (r : Nat) (M : Own) (hB : Buf 5 v xs M) (hx : xs.length ≤ 1099511627776) (h1 : r ≤ 1114111) :
    Spec Proofs.Tryd.prog 50 [v, .int .i32 (r : Int)] I M fun w J M' => Buf 5 w (xs ++ encR (r : Int)) M' ∧ J = I := by
  refine Spec.enter 16 [(0, _), (1, _)] Proofs.Tryd.func50 rfl Proofs.Tryd.ntmps50 (by simp) rfl ?_
  intro C hCf hR hCI
  refine Run.seq ?_
  refine Run.regionO (D := [some 4]) [true] rfl rfl rfl (fun Z hZ => ?_)
  refine q1 dc rfl rfl ?_
  refine QD.nil (hZ _ ?_)
  clear hZ Z
  repeat refine Run.seq ?_
  refine Run.regionO (D := [some 5, some 6, some 7]) [true, true, true] rfl rfl rfl (fun Z hZ => ?_)
  refine q1 dc rfl rfl ?_
  refine QD.e (Ev.conv (a := (r : Int)) (r := (r : Int)) T rfl rfl rfl (wrapU32 (by omega))) dc rfl ?_
  refine QD.e (Ev.leq rfl rfl) dc rfl ?_
  refine QD.nil (hZ _ ?_)
  clear hZ Z
  by_cases h : r ≤ 127
  · rw [decide_eq_true (show (r : Int) ≤ 127 by omega)]
    have e : encR (r : Int) = [UInt8.ofNat r] := by rw [encR_ascii _ (by omega) (by omega)]; simp
    repeat (first | refine Run.seq ?_ | refine Run.cond_t rfl ?_)
    refine Run.regionP (D := [some 8, some 9, some 10, some 11, some 12, some 4]) [true, true, true] 3 rfl rfl rfl (by simp only [List.drop_succ_cons, List.drop_zero]; rfl) (fun Z hZ => ?_)
    iterate 2 refine q1 dc rfl rfl ?_
    refine QD.e ((Ev.conv (a := (r : Int)) (r := (r : Int)) T rfl rfl rfl (wrapN8 (by omega))).as (w8_nat (by omega))) dc rfl ?_
    refine QD.nil (hZ _ ?_)
    clear hZ Z
    refine Ops.lit T rfl rfl rfl dc rfl dc dc rfl rfl rfl rfl rfl (fun bq => ?_)
    refine Ops.appLit [UInt8.ofNat r] (N := []) btB hB rfl dc rfl rfl rfl rfl rfl (by simp; omega) fun v1 M1 hB1 => ?_
    refine Ops.pure T rfl dc rfl ?_
    refine Ops.nil ?_
    skip
    refine Run.ret1 (by rw [hCf]; exact Proofs.Tryd.func50) Proofs.Tryd.results50 rfl (hR _ _ _ ?_)
    rw [e]
    exact ⟨hB1, rfl⟩
  · rw [decide_eq_false (show ¬ (r : Int) ≤ 127 by omega)]
    repeat (first | refine Run.seq ?_ | refine Run.skip ?_ | refine Run.cond_f rfl ?_)
    refine Run.regionP (D := [some 13, some 14, some 15, some 4]) [true, true] 2 rfl rfl rfl (by simp only [List.drop_succ_cons, List.drop_zero]; rfl) (fun Z hZ => ?_)
    iterate 2 refine q1 dc rfl rfl ?_
    refine QD.nil (hZ _ ?_)
    clear hZ Z
    refine Ops.callP (N := []) ((utf8_appendNon I v xs r M hB hx (by omega) h1)) (.refl _) rfl dc Proofs.Tryd.call54 rfl ?_
    rintro v1 J1 M1 l1 ⟨hB1, rfl⟩
    refine Ops.pure T rfl dc rfl ?_
    refine Ops.nil ?_
    skip
    refine Run.ret1 (by rw [hCf]; exact Proofs.Tryd.func50) Proofs.Tryd.results50 rfl (hR _ _ _ ?_)
    exact ⟨hB1, rfl⟩
end Go.V
/-
  An element appended, in statements whose order is drawn; structs that a call writes in a part of a block.
-/
namespace Go.V
open Go.RowKit
set_option linter.unusedVariables false
set_option linter.unusedSimpArgs false
section
variable {P : Program} {n : Nat} {C : Cx} {k : List Item} {env : Env} {L : Own} {I : Imm} {ops : Array Oper} {i : Nat} {l : List Oper} {S : World → Prop}
variable {ty : TypeId} {ps : String} {af : Array Edge} {g : Option (Nat × Bool)} {d : Nat}
theorem Eff.appOneP {α : Type} {t : Ty α} {y : α} {s x : Operand} {ts e : TypeId} {bytes b : Nat} {M N : Own} {v : Value} {xs : List α} {news : List Value} {K : Value → Own → Imm → Prop} (hE : Elem P ts e t.size bytes) (hG : Gr t I e v xs M) (hr : t.rel I news y)
    (hs : opnd env s = some v) (hx : opnd env x = some (.slice (some ⟨b, 0, none⟩) 1 1)) (hL : L.Perm (M ++ N)) (hb : (b, blk news e) ∈ L) (h1 : one news = true)
    (hbytes : (2 * (xs.length + 1) + 512) * bytes ≤ 281474976710656) (h63 : xs.length + 1 ≤ 4611686018427387904)
    (next : ∀ v' M', Gr t I e v' (xs ++ [y]) M' → K v' (M' ++ N) I) :
    Eff P n C env L I ⟨some d, .call ⟨.builtin .append, #[s, x], #[ts, ts]⟩, ty, ps, af, g⟩ K := by
  obtain ⟨cs, hG1, hC⟩ := hG
  refine Eff.append hE hs hx hL hG1 (q := 1) (news := news) (fun W hi => ?_) hbytes h63 fun v' M' h => next v' M' ⟨cs ++ news, by simpa using h, hC.append (Cells.one hr)⟩
  have hW := hi.fits.own b _ hb
  exact Src.ofSlice W hE.under ⟨b, 0, none⟩ 1 1 news (by rw [t.len hr]; simp) (fun j u hu => by rw [add_off, cell_blk hW]; simpa using hu) (one_spec h1)
/-- a struct in variable t, and another result; other blocks are handed back -/
theorem Run.retCTK (T : Tab P) (j : Nat) {fn : Func} {t u b m : Nat} {x : Value} {vs cs : List Value} {rt t' : TypeId} {todo : List Item} {L' : Own} (hfn : P.funcs[C.f]? = some fn) (hres : fn.results = #[.cell t rt, .tmp u]) (hp : look env t = some (.pointer (some ⟨b, 0, none⟩)))
    (hL : L[j]? = some (b, blk cs t')) (ha : T.agg rt = some true) (hs : T.size rt = some m) (hv : (cs.drop 0).take m = vs) (hm : vs.length = m) (hu : look env u = some x) (hsub : L'.Sublist L) (h : C.R (.tuple #[.agg vs.toArray, x]) I L') : Run P n C (.code .ret :: todo) env L I := by
  intro bb a cs' W hb hk he hi
  have hr : (results fn a.tmps).run P W = .ok (.tuple #[.agg vs.toArray, x]) W := by
    have h1 := run_cellN T hi hL ha hs hv hm
    have hp' : a.tmps.getD t undef = .pointer (some ⟨b, 0, none⟩) := he.getD hp
    rw [results_cell_tmp hres, hp', he.getD hu]
    simp [asAddr, h1]
  exact ⟨.returned (.tuple #[.agg vs.toArray, x]), W, _, ⟨_, I, L', rfl, h, hi.weakenL hsub⟩, Steps.one step_ret, hb, rfl, he.defers, hk, fn, by simpa [Frame.at, hb] using hfn, hr⟩
end
end Go.V
/-
  Statements whose order is drawn, whose last operations write what the first ones read: what is read may be read first.
-/
namespace Go.V
open Go.RowKit
set_option linter.unusedVariables false
set_option linter.unusedSimpArgs false
section
variable {P : Program} {md : Region.Mode} {ops : Array Oper} {Q : Exit → Act → World → Prop} {S : Array Bool → World → Prop} {T : World → Prop}
/-- whatever order; S holds behind each operation, by those that are done -/
def wpAnyL (P : Program) (md : Region.Mode) (ops : Array Oper) (Q : Exit → Act → World → Prop) (S : Array Bool → World → Prop) : Nat → Array Bool → Act → World → Prop
  | 0, done, a, w => Region.ready md ops done = [] ∧ Q .normal a w
  | n + 1, done, a, w => (Region.ready md ops done = [] → Q .normal a w) ∧
    ∀ i ∈ Region.ready md ops done, wpOp P ops Q i (fun a' w' => S (done.setIfInBounds i true) w' ∧ wpAnyL P md ops Q S n (done.setIfInBounds i true) a' w') a w
theorem wpAny_of_L : ∀ (n : Nat) (done : Array Bool) (a : Act) (w : World), wpAnyL P md ops Q S n done a w → wpAny P md ops Q n done a w
  | 0, _, _, _, h => h
  | n + 1, _, _, _, h => ⟨h.1, fun i hi => wpOp_mono (fun a' w' h' => wpAny_of_L n _ a' w' h'.2) (h.2 i hi)⟩
theorem wpAnyL_first {i : Nat} {oi : Oper} {v : Value} (hi : ops[i]? = some oi) (hsel : ∀ (j : Nat) (o : Oper) cs b, ops[j]? = some o → o.op ≠ .select cs b)
    (hQ : ∀ c a w, Q (.panic c) (a.put oi.dst v) w → Q (.panic c) a w) (hS : ∀ l w, S l w ↔ S (l.setIfInBounds i true) w) (hT : ∀ l w, Cl md ops l → l.getD i true = false → S l w → T w) :
    ∀ (n : Nat) (done : Array Bool) (a : Act) (w : World), Cl md ops done →
      (∀ j oj, ops[j]? = some oj → j ≠ i → done.getD j true = false → (∀ e ∈ oj.after, Region.binds md e = true → e.on ≠ i) → oi.apart ops oj = true) →
      i ∈ Region.ready md ops done → YieldsIf P ops T oi v a → S done w →
      wpAnyL P md ops Q S n (done.setIfInBounds i true) (a.put oi.dst v) w → wpAnyL P md ops Q S (n + 1) done a w := by
  intro n
  induction n with
  | zero =>
    intro done a w inv _ hr hy hSw H
    refine ⟨fun h => (by rw [h] at hr; cases hr), fun j hj => ?_⟩
    by_cases hji : j = i
    · subst hji; exact hy.wpOp hi (hT done w inv (mem_ready.1 hr).1 hSw) ⟨(hS _ _).1 hSw, H⟩
    · have := ready_mono hj hji
      rw [H.1] at this
      cases this
  | succ n ih =>
    intro done a w inv hfree hr hy hSw H
    refine ⟨fun h => (by rw [h] at hr; cases hr), fun j hj => ?_⟩
    by_cases hji : j = i
    · subst hji; exact hy.wpOp hi (hT done w inv (mem_ready.1 hr).1 hSw) ⟨(hS _ _).1 hSw, H⟩
    · have h1 := H.2 j (ready_mono hj hji)
      obtain ⟨hjun, oj, hoj, hall⟩ := mem_ready.1 hj
      have hnot : ∀ e ∈ oj.after, Region.binds md e = true → e.on ≠ i := fun e he hb heq => by
        have h1 := hall e he hb
        rw [heq, getD_both (mem_ready.1 hr).1] at h1
        cases h1
      have h2 := wpOp_putIf hoj (hfree j oj hoj hji hjun hnot) (fun cs b => hsel i oi cs b hi) (fun cs b => hsel j oj cs b hoj) hQ hy h1
      have hfree' : ∀ k ok, ops[k]? = some ok → k ≠ i → (done.setIfInBounds j true).getD k true = false →
          (∀ e ∈ ok.after, Region.binds md e = true → e.on ≠ i) → oi.apart ops ok = true := fun k ok hk hki hun hno => by
        refine hfree k ok hk hki ?_ hno
        by_cases hjk : j = k
        · subst hjk; exact hjun
        · rw [getD_set_ne true hjk] at hun; exact hun
      refine wpOp_mono (fun a' w' h3 => ?_) h2
      have h4 : S (done.setIfInBounds j true) w' := (hS _ _).2 (by rw [Array.setIfInBounds_comm _ _ hji]; exact h3.2.1)
      refine ⟨h4, ih (done.setIfInBounds j true) a' w' (inv.set hj) hfree' (ready_mono hr (Ne.symm hji)) h3.1 h4 ?_⟩
      rw [Array.setIfInBounds_comm _ _ hji]
      exact h3.2.2
theorem wpAnyL_done {done : Array Bool} {a : Act} {w : World} (hr : Region.ready md ops done = []) (h : Q .normal a w) : ∀ n, wpAnyL P md ops Q S n done a w
  | 0 => ⟨hr, h⟩
  | _ + 1 => ⟨fun _ => h, by rw [hr]; simp⟩
end
theorem mr {M X L : Own} {a b : Nat × Obj} (h : L = a :: b :: (M ++ X)) : ∀ x, x ∈ M → x ∈ L := fun x hx => h ▸ List.mem_cons_of_mem _ (List.mem_cons_of_mem _ (List.mem_append_left _ hx))
/-- S0, till one of the late ones is done -/
def SL (late : List Nat) (S1 S0 : World → Prop) (l : Array Bool) (w : World) : Prop := S1 w ∧ ((∀ j ∈ late, l.getD j false = false) → S0 w)
theorem SL.set {late : List Nat} {S1 S0 : World → Prop} {i : Nat} (hi : i ∉ late) (l : Array Bool) (w : World) : SL late S1 S0 l w ↔ SL late S1 S0 (l.setIfInBounds i true) w := by
  have e : ∀ j ∈ late, (l.setIfInBounds i true).getD j false = l.getD j false := fun j hj => getD_set_ne false (fun h => hi (h ▸ hj))
  unfold SL
  constructor
  · intro h; exact ⟨h.1, fun h2 => h.2 fun j hj => by rw [← e j hj]; exact h2 j hj⟩
  · intro h; exact ⟨h.1, fun h2 => h.2 fun j hj => by rw [e j hj]; exact h2 j hj⟩
/-- all late ones wait for i -/
def lateOk (ops : Array Oper) (late : List Nat) (i : Nat) : Bool := late.all fun j => match ops[j]? with
  | none => false
  | some o => o.after.toList.any fun e => Region.binds .any e && Nat.beq e.on i
theorem SL.at {ops : Array Oper} {late : List Nat} {S1 S0 : World → Prop} {i : Nat} (h : lateOk ops late i = true) (l : Array Bool) (w : World) (hc : Cl .any ops l) (hu : l.getD i true = false) (hS : SL late S1 S0 l w) : S0 w := by
  refine hS.2 fun j hj => ?_
  cases hl : l.getD j false with
  | false => rfl
  | true =>
    exfalso
    have := List.all_eq_true.1 h j hj
    split at this
    · cases this
    · rename_i o ho
      obtain ⟨e, he, hb⟩ := List.any_eq_true.1 this
      simp only [Bool.and_eq_true] at hb
      have h2 := hc.closed j o ho hl e (by simpa using he) hb.1
      rw [Nat.eq_of_beq_eq_true hb.2, getD_both hu] at h2
      cases h2
section
variable {P : Program} {n : Nat} {C : Cx} {k : List Item} {env : Env} {L : Own} {I : Imm} {ops : Array Oper} {late : List Nat} {S1 S : World → Prop}
variable {ty : TypeId} {ps : String} {af : Array Edge} {g : Option (Nat × Bool)} {d : Nat}
def RAnyL (P : Program) (n : Nat) (C : Cx) (ops : Array Oper) (late : List Nat) (S1 S : World → Prop) (k : List Item) (fuel : Nat) (listed : List Bool) (env : Env) (L : Own) (I : Imm) : Prop :=
  ∀ a W, EnvOk n env a → Inv C.w0 C.I0 C.L0 I L W → Cl .any ops listed.toArray → SL late S1 S listed.toArray W → wpAnyL P .any ops (Qk P n C k) (SL late S1 S) fuel listed.toArray a W
theorem Run.regionL {id : Nat} (late : List Nat) (S1 S : World → Prop) (listed : List Bool) (hm : P.follows .mixedOrders = true) (hl : (Array.replicate ops.size false) = listed.toArray) (hS : ∀ W, Inv C.w0 C.I0 C.L0 I L W → S1 W ∧ S W)
    (h : RAnyL P n C ops late S1 S k ops.size listed env L I) : Run P n C (.code (.region id ops true) :: k) env L I := by
  intro b a cs W hb hk he hi
  have hcl : Cl .any ops listed.toArray := by
    rw [← hl]
    exact ⟨by simp, fun j oj hj hlj => by
      exfalso
      simp only [Array.getD_eq_getD_getElem?, Array.getElem?_replicate] at hlj
      split at hlj <;> simp at hlj⟩
  have hw : (Code.region id ops true).wp P (Qk P n C k) a W := wp_region_any hm (wpAny_of_L _ _ _ _ (by
    rw [hl]
    exact h a _ he hi.drew hcl ⟨(hS _ hi.drew).1, fun _ => (hS _ hi.drew).2⟩))
  obtain ⟨e, a', W', hq, harr⟩ := hw b k cs
  cases e with
  | normal =>
    obtain ⟨env', L', I', he', hi', hrun⟩ := hq
    obtain ⟨e, W2, fr, h1, h2, h3⟩ := hrun b a' cs W' hb hk he' hi'
    exact ⟨e, W2, fr, h1, Comes.of_steps harr h2, h3⟩
  | _ => exact hq.elim
theorem RAnyL.done {listed : List Bool} (fuel : Nat) (hr : Region.ready .any ops listed.toArray = []) (h : Run P n C k env L I) : RAnyL P n C ops late S1 S k fuel listed env L I :=
  fun a W he hi _ _ => wpAnyL_done hr ⟨env, L, I, he, hi, h⟩ fuel
theorem RAnyL.perm {listed : List Bool} {fuel : Nat} {L' : Own} (hp : L.Perm L') (h : RAnyL P n C ops late S1 S k fuel listed env L' I) : RAnyL P n C ops late S1 S k fuel listed env L I := fun a W he hi hc hs => h a W he (hi.perm hp) hc hs
theorem RAnyL.dropL {listed : List Bool} {fuel : Nat} {L' : Own} (hp : L'.Sublist L) (h : RAnyL P n C ops late S1 S k fuel listed env L' I) : RAnyL P n C ops late S1 S k fuel listed env L I := fun a W he hi hc hs => h a W he (hi.weakenL hp) hc hs
/-- plain, or read where it may be read first -/
theorem RAnyL.tk {listed : List Bool} {fuel : Nat} (j : Nat) {d : Nat} {op : Op} {v : Value} (listed' : List Bool) (hi : ops[j]? = some ⟨some d, op, ty, ps, af, g⟩) (ok : tkOk ops listed j listed' = true) (hd : d < n) (hlate : late.contains j = false) {T : World → Prop} (hT : (∀ W, S1 W → T W) ∨ (lateOk ops late j = true ∧ ∀ W, S W → T W)) (hy : Yld P n env ops T ⟨some d, op, ty, ps, af, g⟩ v)
    (h : RAnyL P n C ops late S1 S k fuel listed' ((d, v) :: env) L I) : RAnyL P n C ops late S1 S k (fuel + 1) listed env L I := by
  obtain ⟨h1, h2, h3, h4⟩ := tk_spec ok
  intro a W he hinv hc hs
  have hni : j ∉ late := fun hm => by
    have : late.contains j = true := List.contains_iff_mem.2 hm
    rw [this] at hlate; cases hlate
  have hr : j ∈ Region.ready .any ops listed.toArray := by simpa using h3
  refine wpAnyL_first (T := T) (v := v) hi (Region.noSelect_spec h1) (by intro c a w h; exact h.elim) (SL.set hni) (fun l w hcl hu hS => ?_) fuel listed.toArray a W hc (Region.free_spec hi h2) hr ?_ hs ?_
  · rcases hT with hT | ⟨hT, hST⟩
    · exact hT w hS.1
    · exact hST w (SL.at hT l w hcl hu hS)
  · rcases hy with ⟨hw, hv⟩ | ⟨hw, hv⟩
    · exact .inl ⟨want_spec he hw, fun w hSw => hv a w he hSw⟩
    · exact .inr ⟨want_spec he hw, hv⟩
  · rw [h4]
    exact h _ W (he.put (dOk hd)) hinv (by rw [← h4]; exact hc.set hr) (by rw [← h4]; exact (SL.set hni _ _).1 hs)
/-- what may come next -/
theorem RAnyL.all {listed : List Bool} {fuel : Nat} (rs : List Nat) (hr : Region.ready .any ops listed.toArray = rs) (hne : rs ≠ [])
    (h : ∀ j ∈ rs, ∃ o, ops[j]? = some o ∧ want env ops o.guard = some true ∧ (∀ t, o.dst = some t → t < n) ∧
      Eff P n C env L I o fun v L1 I1 => ((∀ W, Inv C.w0 C.I0 C.L0 I1 L1 W → S1 W) ∧ (late.contains j = true ∨ ∀ W, Inv C.w0 C.I0 C.L0 I1 L1 W → S W)) ∧ ∃ listed', listed.toArray.setIfInBounds j true = listed'.toArray ∧ RAnyL P n C ops late S1 S k fuel listed' (V.put env o.dst v) L1 I1) :
    RAnyL P n C ops late S1 S k (fuel + 1) listed env L I := by
  intro a W he hi hc hs
  refine ⟨fun h0 => absurd (hr ▸ h0) hne, ?_⟩
  rw [hr]
  intro j hj
  obtain ⟨o, ho, hw, hd, hE⟩ := h j hj
  have hjr : j ∈ Region.ready .any ops listed.toArray := hr ▸ hj
  have hsz : j < listed.toArray.size := by rw [hc.size]; exact (Array.getElem?_eq_some_iff.1 ho).1
  have key : ∀ v W1 L1 I1, Inv C.w0 C.I0 C.L0 I1 L1 W1 → ((∀ W, Inv C.w0 C.I0 C.L0 I1 L1 W → S1 W) ∧ (late.contains j = true ∨ ∀ W, Inv C.w0 C.I0 C.L0 I1 L1 W → S W)) → (∃ listed', listed.toArray.setIfInBounds j true = listed'.toArray ∧ RAnyL P n C ops late S1 S k fuel listed' (V.put env o.dst v) L1 I1) →
      SL late S1 S (listed.toArray.setIfInBounds j true) W1 ∧ wpAnyL P .any ops (Qk P n C k) (SL late S1 S) fuel (listed.toArray.setIfInBounds j true) (a.put o.dst v) W1 := by
    intro v W1 L1 I1 hi1 hS ⟨listed', hl, hR⟩
    have hSL : SL late S1 S (listed.toArray.setIfInBounds j true) W1 := by
      refine ⟨hS.1 W1 hi1, ?_⟩
      rcases hS.2 with hS | hS
      · intro hno
        have := hno j (List.contains_iff_mem.1 hS)
        simp only [Array.getD_eq_getD_getElem?, Array.getElem?_setIfInBounds_self_of_lt hsz, Option.getD_some] at this
        cases this
      · exact fun _ => hS W1 hi1
    exact ⟨hSL, by rw [hl]; exact hR _ W1 (he.put hd) hi1 (by rw [← hl]; exact hc.set hjr) (by rw [← hl]; exact hSL)⟩
  unfold wpOp
  simp only [ho, want_spec he hw, if_true]
  refine .inl ?_
  unfold Oper.wp
  rcases hE a W he hi with ⟨v, W1, L1, I1, hr, hi1, hS, hR⟩ | ⟨f, args, hr, hcall⟩
  · have hfin := key v W1 L1 I1 hi1 hS hR
    rcases hr with hr | ⟨hr, rfl⟩
    · rw [hr]; exact hfin
    · rw [hr]; exact hfin
  · rw [hr]
    refine hcall.mono ?_
    rintro e W1 ⟨v, L1, I1, rfl, hi1, hS, hR⟩
    exact key v W1 L1 I1 hi1 hS hR
theorem RAnyL.on {listed : List Bool} {fuel : Nat} (j : Nat) {d : Nat} {op : Op} (listed' : List Bool) (hi : ops[j]? = some ⟨some d, op, ty, ps, af, g⟩) (ok : oneOk ops listed j listed' = true) (hw : want env ops g = some true) (hd : d < n)
    (h : Eff P n C env L I ⟨some d, op, ty, ps, af, g⟩ fun v L1 I1 => ((∀ W, Inv C.w0 C.I0 C.L0 I1 L1 W → S1 W) ∧ (late.contains j = true ∨ ∀ W, Inv C.w0 C.I0 C.L0 I1 L1 W → S W)) ∧ RAnyL P n C ops late S1 S k fuel listed' ((d, v) :: env) L1 I1) : RAnyL P n C ops late S1 S k (fuel + 1) listed env L I := by
  obtain ⟨hr, hl⟩ := one_spec' ok
  refine RAnyL.all [j] hr (by simp) fun j' hj => ?_
  obtain rfl : j' = j := by simpa using hj
  refine ⟨_, hi, hw, dOk hd, fun a W he hin => ?_⟩
  rcases h a W he hin with ⟨v, W1, L1, I1, h1, h2, h3, h4⟩ | ⟨f, args, h1, h2⟩
  · exact .inl ⟨v, W1, L1, I1, h1, h2, h3, listed', hl, h4⟩
  · exact .inr ⟨f, args, h1, h2.mono fun e W' ⟨v, L1, I1, q1, q2, q3, q4⟩ => ⟨v, L1, I1, q1, q2, q3, listed', hl, q4⟩⟩
theorem RAnyL.os {listed : List Bool} {fuel : Nat} (j : Nat) {op : Op} (listed' : List Bool) (hi : ops[j]? = some ⟨none, op, ty, ps, af, g⟩) (ok : oneOk ops listed j listed' = true) (hw : want env ops g = some true)
    (h : Eff P n C env L I ⟨none, op, ty, ps, af, g⟩ fun v L1 I1 => ((∀ W, Inv C.w0 C.I0 C.L0 I1 L1 W → S1 W) ∧ (late.contains j = true ∨ ∀ W, Inv C.w0 C.I0 C.L0 I1 L1 W → S W)) ∧ RAnyL P n C ops late S1 S k fuel listed' env L1 I1) : RAnyL P n C ops late S1 S k (fuel + 1) listed env L I := by
  obtain ⟨hr, hl⟩ := one_spec' ok
  refine RAnyL.all [j] hr (by simp) fun j' hj => ?_
  obtain rfl : j' = j := by simpa using hj
  refine ⟨_, hi, hw, dNo, fun a W he hin => ?_⟩
  rcases h a W he hin with ⟨v, W1, L1, I1, h1, h2, h3, h4⟩ | ⟨f, args, h1, h2⟩
  · exact .inl ⟨v, W1, L1, I1, h1, h2, h3, listed', hl, h4⟩
  · exact .inr ⟨f, args, h1, h2.mono fun e W' ⟨v, L1, I1, q1, q2, q3, q4⟩ => ⟨v, L1, I1, q1, q2, q3, listed', hl, q4⟩⟩
theorem RAnyL.two {listed : List Bool} {fuel : Nat} (i j : Nat) {d1 d2 : Nat} {op1 op2 : Op} {ty1 ty2 : TypeId} {ps1 ps2 : String} {af1 af2 : Array Edge} {g1 g2 : Option (Nat × Bool)} (l1 l2 : List Bool)
    (h1 : ops[i]? = some ⟨some d1, op1, ty1, ps1, af1, g1⟩) (h2 : ops[j]? = some ⟨some d2, op2, ty2, ps2, af2, g2⟩) (ok : twoOk ops listed i j l1 l2 = true) (w1 : want env ops g1 = some true) (w2 : want env ops g2 = some true) (hd1 : d1 < n) (hd2 : d2 < n)
    (e1 : Eff P n C env L I ⟨some d1, op1, ty1, ps1, af1, g1⟩ fun v L1 I1 => ((∀ W, Inv C.w0 C.I0 C.L0 I1 L1 W → S1 W) ∧ (late.contains i = true ∨ ∀ W, Inv C.w0 C.I0 C.L0 I1 L1 W → S W)) ∧ RAnyL P n C ops late S1 S k fuel l1 ((d1, v) :: env) L1 I1)
    (e2 : Eff P n C env L I ⟨some d2, op2, ty2, ps2, af2, g2⟩ fun v L1 I1 => ((∀ W, Inv C.w0 C.I0 C.L0 I1 L1 W → S1 W) ∧ (late.contains j = true ∨ ∀ W, Inv C.w0 C.I0 C.L0 I1 L1 W → S W)) ∧ RAnyL P n C ops late S1 S k fuel l2 ((d2, v) :: env) L1 I1) : RAnyL P n C ops late S1 S k (fuel + 1) listed env L I := by
  simp only [twoOk, Bool.and_eq_true, beq_iff_eq] at ok
  obtain ⟨⟨hr, hs1⟩, hs2⟩ := ok
  refine RAnyL.all [i, j] hr (by simp) fun q hq => ?_
  have hq' : q = i ∨ q = j := by simpa using hq
  rcases hq' with rfl | rfl
  · refine ⟨_, h1, w1, dOk hd1, fun a W he hin => ?_⟩
    rcases e1 a W he hin with ⟨v, W1, L1, I1, q1, q2, q3, q4⟩ | ⟨f, args, q1, q2⟩
    · exact .inl ⟨v, W1, L1, I1, q1, q2, q3, l1, by rw [← hs1]; simp, q4⟩
    · exact .inr ⟨f, args, q1, q2.mono fun e W' ⟨v, L1, I1, p1, p2, p3, p4⟩ => ⟨v, L1, I1, p1, p2, p3, l1, by rw [← hs1]; simp, p4⟩⟩
  · refine ⟨_, h2, w2, dOk hd2, fun a W he hin => ?_⟩
    rcases e2 a W he hin with ⟨v, W1, L1, I1, q1, q2, q3, q4⟩ | ⟨f, args, q1, q2⟩
    · exact .inl ⟨v, W1, L1, I1, q1, q2, q3, l2, by rw [← hs2]; simp, q4⟩
    · exact .inr ⟨f, args, q1, q2.mono fun e W' ⟨v, L1, I1, p1, p2, p3, p4⟩ => ⟨v, L1, I1, p1, p2, p3, l2, by rw [← hs2]; simp, p4⟩⟩
end
end Go.V
/-
  Elements copied into a block that a call owns; arrays cut.
-/
namespace Go.V
open Go.RowKit
set_option linter.unusedVariables false
set_option linter.unusedSimpArgs false
section
variable {P : Program} {n : Nat} {C : Cx} {k : List Item} {env : Env} {L : Own} {I : Imm} {ops : Array Oper} {i : Nat} {l : List Oper} {S : World → Prop}
variable {ty : TypeId} {ps : String} {af : Array Edge} {g : Option (Nat × Bool)} {d : Nat}
/-- what the first elements of a value are -/
def First (P : Program) (size q : Nat) (v : Value) (news : List Value) (W : World) : Prop := (Builtin.firstCells size q v).run P W = .ok news.toArray W
theorem First.sl {α : Type} {t : Ty α} {v : Value} {xs : List α} {q : Nat} (h : Sl t I v xs) (hq : q ≤ xs.length) : ∃ news, Cells t I news (xs.take q) ∧ ∀ W w0 I0 L0 L, Inv w0 I0 L0 I L W → First P t.size q v news W := by
  obtain ⟨A, c, rfl, hc, hrow⟩ := h
  rcases hrow with rfl | ⟨b, off, rfl, hrow⟩
  · simp at hq
    subst hq
    refine ⟨[], Cells.nil t I, fun W w0 I0 L0 L hi => ?_⟩
    cases A with
    | none => rfl
    | some a =>
      have := run_loadCells_list (P := P) W a [] (fun j v h => by simp at h)
      unfold First
      simp only [Builtin.firstCells, Nat.zero_mul]
      exact this
  · have hr2 : RowAt t I b off (xs.take q) := by
      have := hrow.cut 0 q
      simpa using this
    obtain ⟨news, hC, hA⟩ := hr2.cells
    refine ⟨news, hC, fun W w0 I0 L0 L hi => ?_⟩
    have hl : news.length = q * t.size := by rw [hC.flat_len, List.length_take, Nat.min_eq_left hq]
    have := run_loadCells_list (P := P) W ⟨b, off, none⟩ news (fun j v hv => by
      rw [add_off]
      rcases hA with h0 | hA
      · have : q = 0 := by
          have := congrArg List.length h0
          rw [List.length_take, Nat.min_eq_left hq] at this; simpa using this
        rw [this, Nat.zero_mul] at hl
        rw [List.eq_nil_of_length_eq_zero hl] at hv; simp at hv
      · exact hA.cell hi j v hv)
    unfold First
    simp only [Builtin.firstCells]
    rw [← hl]; exact this
theorem Eff.copyOwn {s x : Operand} {ts tx e : TypeId} {size b off dl dc sl q : Nat} {sv : Value} {cs news cs' : List Value} {t' : TypeId} {K : Value → Own → Imm → Prop} (j : Nat) (T : Tab P) (hu : T.und ts = some (.slice e)) (hz : T.size e = some size)
    (hs : opnd env s = some (.slice (some ⟨b, off, none⟩) dl dc)) (hx : opnd env x = some sv) (hlen : ∀ W, (Builtin.lenOf sv).run P W = .ok sl W) (hq : Nat.min sl dl = q) (hL : L[j]? = some (b, blk cs t'))
    (hsrc : ∀ W, Inv C.w0 C.I0 C.L0 I L W → First P size q sv news W) (hle : off + news.length ≤ cs.length) (h1 : one news = true) (hcs : setAt cs off news = cs')
    (next : K (.int .i64 (q : Int)) (upL L j (blk cs' t')) I) : Eff P n C env L I ⟨some d, .call ⟨.builtin .copy, #[s, x], #[ts, tx]⟩, ty, ps, af, g⟩ K :=
  Eff.valW fun a W he hi => by
    obtain ⟨R, hp, hp'⟩ := upL_perm L j b (blk cs t') (blk cs' t') hL
    have hW := hi.fits.own b _ (List.mem_of_getElem? hL)
    have hr := run_storeCells_at P b off t' news 0 cs.toArray W hW (by simp; omega) (one_spec h1)
    simp only [Nat.add_zero] at hr
    have hcs' : (cs.toArray.toList.take off ++ news ++ cs.toArray.toList.drop (off + news.length)).toArray = cs'.toArray := by rw [← hcs]; rfl
    rw [hcs'] at hr
    have hf := hsrc W hi
    unfold First at hf
    refine ⟨.int .i64 (q : Int), W.setRow b cs'.toArray, upL L j (blk cs' t'), I, .inl ?_, ?_, next⟩
    · subst hq
      simp only [execOp, resolve, invoke, builtin, eval_opnd he hs, eval_opnd he hx, List.map_toArray, List.map_cons, List.map_nil]
      simp only [Builtin.copy_, Sem.run_bind, T.undOk hu, Result.andThen_ok, hlen, T.sizeOk hz, hf, hr, goInt, Sem.run_pure]
      simp [T.undOk hu, hlen, T.sizeOk hz, hf, hr]
    · exact ((hi.perm hp).upd (W' := W.setRow b cs'.toArray) rfl rfl rfl (by simp) (fun c _ hcb => setRow_other W b c _ hcb) (setRow_heap W b cs.toArray cs'.toArray t' _ hW)).perm hp'.symm
theorem Ops.copyOwn {s x : Operand} {ts tx e : TypeId} {size b off dl dc sl q : Nat} {sv : Value} {cs news cs' : List Value} {t' : TypeId} (j : Nat) (T : Tab P) (hg : want env ops g = some true) (hd : d < n) (hu : T.und ts = some (.slice e)) (hz : T.size e = some size)
    (hs : opnd env s = some (.slice (some ⟨b, off, none⟩) dl dc)) (hx : opnd env x = some sv) (hlen : ∀ W, (Builtin.lenOf sv).run P W = .ok sl W) (hq : Nat.min sl dl = q) (hL : L[j]? = some (b, blk cs t'))
    (hsrc : ∀ W, Inv C.w0 C.I0 C.L0 I L W → First P size q sv news W) (hle : off + news.length ≤ cs.length) (h1 : one news = true) (hcs : setAt cs off news = cs')
    (next : Ops P n C ops (i + 1) l k ((d, .int .i64 (q : Int)) :: env) (upL L j (blk cs' t')) I) : Ops P n C ops i (⟨some d, .call ⟨.builtin .copy, #[s, x], #[ts, tx]⟩, ty, ps, af, g⟩ :: l) k env L I :=
  Ops.eff hg (dOk hd) (Eff.copyOwn j T hu hz hs hx hlen hq hL hsrc hle h1 hcs next)
/-- a piece of code that puts v into d; these slots are kept -/
theorem Run.pieceV {x : Code} (ks : List Nat) (vs : List Value) (d : Nat) (v : Value) (hv : ks.map (look env) = vs.map some) (h : ∀ k', Run P n C k' ((d, v) :: ks.zip vs) L I → Run P n C (.code x :: k') env L I)
    (next : Run P n C k ((d, v) :: ks.zip vs) L I) : Run P n C (.code x :: k) env L I := h k next
/-- an array, whole, as a slice -/
theorem Ev.sliceArr {ts e : TypeId} {x : Operand} {b off m size : Nat} (T : Tab P) (hu : T.und ts = some (.array m e)) (hz : T.size e = some size) (hx : opnd env x = some (.pointer (some ⟨b, off, none⟩))) :
    Ev P n env (.slice ts x none none none) (.slice (some ⟨b, off, none⟩) m m) :=
  fun a W he _ _ _ _ _ => by
    have h0 : (if m = 0 then (⟨b, off, none⟩ : Addr) else (⟨b, off, none⟩ : Addr).add (0 * size)) = ⟨b, off, none⟩ := by
      split <;> simp [Addr.add]
    simp only [Nat.zero_mul] at h0
    simp [execOp, Instr.sliceAt, Instr.sureAddr, Instr.sliceBounds, eval_opnd he hx, T.undOk hu, T.sizeOk hz, h0]
end
end Go.V
