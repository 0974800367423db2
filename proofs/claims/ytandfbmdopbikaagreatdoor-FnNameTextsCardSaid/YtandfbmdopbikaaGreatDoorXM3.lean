import Derived.Test.YtandfbmdopbikaaGreatDoorXM2
import Derived.Deep.Quiet
import Derived.StillTail
namespace Go.V
set_option linter.unusedVariables false
set_option linter.unusedSimpArgs false
set_option maxRecDepth 10000
def octGo : Tx → Nat → Option Nat
  | [], n => some n
  | b :: r, n => if b.toNat < 48 ∨ 57 < b.toNat then none else octGo r (n * 10 + (b.toNat - 48))
def oct (p : Tx) : Option Nat :=
  if p = [] ∨ 3 < p.length ∨ (1 < p.length ∧ p.getD 0 0 = 48) then none else match octGo p 0 with
    | some n => if 255 < n then none else some n
    | none => none
def octs : List Tx → Option (List Nat)
  | [] => some []
  | p :: r => match oct p with
    | some n => (octs r).map (n :: ·)
    | none => none
def ip4 (s : Tx) : Option (List Nat) := if (spl 46 s).length = 4 then octs (spl 46 s) else none
def portGo (s : Tx) : Nat → Tx
  | 0 => s
  | k + 1 => let n := 5 - k
    if n < s.length then (let c := s.getD (s.length - n) 0
      if c.toNat < 48 ∨ 57 < c.toNat then s else if s.getD (s.length - n - 1) 0 = 58 then s.take (s.length - n - 1) else portGo s k) else s
def portF (s : Tx) : Tx := portGo s 5
def starts (t s : Tx) : Bool := decide (t.length ≤ s.length) && decide (s.take t.length = t)
def priv' : List Nat → Bool
  | [a, b, _, _] => decide (a = 10) || (decide (a = 172) && decide (b / 16 = 1)) || (decide (a = 192) && decide (b = 168))
  | _ => false
def privO' : Option (List Nat) → Bool
  | some l => priv' l
  | none => false
def pHttp (s : Tx) : Bool := privO' (ip4 ((spl 58 s).headD [])) || starts [108, 111, 99, 97, 108, 104, 111, 115, 116, 58] s || endsT [46, 108, 111, 99, 97, 108, 104, 111, 115, 116] (portF s) || decide (portF s = [49, 50, 55, 46, 48, 46, 48, 46, 49]) || (decide (s = [58, 58, 49]) || decide (portF s = [91, 58, 58, 49, 93]))
theorem priv_eq : ∀ l, priv' l = priv l
  | [] => rfl
  | [_] => rfl
  | [_, _] => rfl
  | [_, _, _] => rfl
  | [a, b, _, _] => by
    simp only [priv', priv]
    rw [Bool.eq_iff_iff]
    simp only [Bool.or_eq_true, Bool.and_eq_true, decide_eq_true_eq]
    omega
  | _ :: _ :: _ :: _ :: _ :: _ => rfl
theorem privO_eq (o : Option (List Nat)) : privO' o = privO o := by cases o <;> simp [privO, privO', priv_eq]
theorem octGo_app : ∀ (x y : Tx) (n : Nat), octGo (x ++ y) n = (octGo x n).bind (octGo y)
  | [], y, n => rfl
  | b :: r, y, n => by
    simp only [List.cons_append, octGo]
    split
    · rfl
    · exact octGo_app r y _
theorem octGo_zero : ∀ (x : Tx) (n : Nat), octGo x n = some 0 → n = 0 ∧ (x ≠ [] → x.getD 0 0 = 48)
  | [], n, h => by simp [octGo] at h; exact ⟨h, by simp⟩
  | b :: r, n, h => by
    simp only [octGo] at h
    split at h
    · cases h
    · rename_i hb
      obtain ⟨h1, _⟩ := octGo_zero r _ h
      refine ⟨by omega, fun _ => ?_⟩
      have : b.toNat = 48 := by omega
      simp only [List.getD_cons_zero]
      exact UInt8.toNat_inj.1 this
def glue (cur : Tx) : List Tx → List Tx
  | [] => []
  | q :: r => (cur ++ q) :: r
theorem glue_nil (l : List Tx) : glue [] l = l := by cases l <;> rfl
theorem oct_bad {cur y : Tx} {b : UInt8} (hb : b.toNat < 48 ∨ 57 < b.toNat) : oct (cur ++ b :: y) = none := by
  unfold oct
  split
  · rfl
  · rw [octGo_app]
    cases octGo cur 0 with
    | none => rfl
    | some n => simp only [Option.bind_some, octGo, if_pos hb]
theorem oct_long {p : Tx} (h : 3 < p.length) : oct p = none := by unfold oct; rw [if_pos (.inr (.inl h))]
theorem oct_lead {p : Tx} (h : 1 < p.length) (h0 : p.getD 0 0 = 48) : oct p = none := by unfold oct; rw [if_pos (.inr (.inr ⟨h, h0⟩))]
theorem spl_cons_ne {c b : UInt8} {r : Tx} (h : ¬ b = c) : ∃ y ys, spl c r = y :: ys ∧ spl c (b :: r) = (b :: y) :: ys := by
  simp only [spl, if_neg h]
  cases hs : spl c r with
  | nil => exact absurd hs (spl_pos c r)
  | cons y ys => exact ⟨y, ys, rfl, rfl⟩
theorem quadGo_eq : ∀ (s : Tx) (out : List Nat) (cur : Tx) (n : Nat), octGo cur 0 = some n → cur.length ≤ 3 → (1 < cur.length → cur.getD 0 0 ≠ 48) →
    quadGo s out n cur.length = if out.length + (spl 46 s).length = 4 then (octs (glue cur (spl 46 s))).map (out ++ ·) else none
  | [], out, cur, n, h1, h2, h3 => by
    simp only [quadGo, spl, glue, List.append_nil, octs, List.length_cons, List.length_nil]
    have ho : oct cur = if cur = [] then none else if 255 < n then none else some n := by
      unfold oct
      by_cases hc : cur = []
      · simp [hc]
      · rw [if_neg hc, if_neg (by rintro (h | h | ⟨h, h'⟩); exact hc h; omega; exact h3 h h'), h1]
    rw [ho]
    by_cases hc : cur = []
    · subst hc; simp
    · have hl : ¬ cur.length = 0 := by simpa using hc
      rw [if_neg hc]
      by_cases h255 : 255 < n
      · simp [h255]
      · simp only [h255, or_false, hl, false_or, if_false]
        by_cases h4 : out.length = 3
        · simp [h4]
        · have : ¬ out.length + (0 + 1) = 4 := by omega
          simp [h4, this]
  | b :: r, out, cur, n, h1, h2, h3 => by
    by_cases hb : b = 46
    · subst hb
      simp only [quadGo, if_true, spl, glue, List.append_nil, octs, List.length_cons]
      have ho : oct cur = if cur = [] then none else if 255 < n then none else some n := by
        unfold oct
        by_cases hc : cur = []
        · simp [hc]
        · rw [if_neg hc, if_neg (by rintro (h | h | ⟨h, h'⟩); exact hc h; omega; exact h3 h h'), h1]
      have ih := quadGo_eq r (out ++ [n]) [] 0 rfl (by simp) (by simp)
      simp only [List.length_nil, glue_nil, List.length_append, List.length_cons] at ih
      rw [ho]
      by_cases hc : cur = []
      · subst hc; simp
      · have hl : ¬ cur.length = 0 := by simpa using hc
        rw [if_neg hc]
        by_cases h255 : 255 < n
        · simp [h255]
        · simp only [h255, or_false, hl, false_or, if_false]
          have hp := spl_pos 46 r
          have hp' : 0 < (spl 46 r).length := List.length_pos_iff.2 hp
          by_cases h4 : 3 < out.length
          · rw [if_pos h4, if_neg (by omega)]
          · rw [if_neg h4, ih]
            by_cases h5 : out.length + ((spl 46 r).length + 1) = 4
            · rw [if_pos h5, if_pos (by omega)]
              cases octs (spl 46 r) <;> simp
            · rw [if_neg h5, if_neg (by omega)]
    · obtain ⟨y, ys, e1, e2⟩ := spl_cons_ne (r := r) hb
      rw [e2]
      simp only [quadGo, if_neg hb, glue, octs, List.length_cons]
      by_cases hd : b.toNat < 48 ∨ 57 < b.toNat
      · rw [if_pos (by omega), oct_bad hd]; simp
      · by_cases hz : 0 < cur.length ∧ n = 0
        · rw [if_pos (by omega)]
          obtain ⟨hz1, rfl⟩ := hz
          obtain ⟨_, hh⟩ := octGo_zero cur 0 h1
          have hne : cur ≠ [] := fun e => by subst e; simp at hz1
          rw [oct_lead (p := cur ++ b :: y) (by simp; omega) (by rw [← hh hne]; cases cur with
            | nil => simp at hz1
            | cons a t => simp)]
          simp
        · rw [if_neg (by omega)]
          by_cases h5 : 3 < cur.length + 1
          · rw [if_pos h5, oct_long (p := cur ++ b :: y) (by simp; omega)]; simp
          · rw [if_neg h5]
            have ih := quadGo_eq r out (cur ++ [b]) (n * 10 + (b.toNat - 48)) (by rw [octGo_app, h1]; simp [octGo, hd]) (by simp; omega) (by
              intro hl hh
              cases cur with
              | nil => simp at hl
              | cons a t =>
                simp only [List.cons_append, List.getD_cons_zero] at hh
                cases t with
                | nil =>
                  subst hh
                  simp [octGo] at h1
                  exact hz ⟨by simp, by rw [← h1]⟩
                | cons a' t' => exact h3 (by simp) (by simpa using hh))
            simp only [List.length_append, List.length_cons, List.length_nil] at ih
            rw [show cur.length + 1 = cur.length + (0 + 1) by omega, ih, e1]
            simp [glue, octs]
theorem quad_ip4 (s : Tx) : quadF s = ip4 s := by
  unfold quadF ip4
  have := quadGo_eq s [] [] 0 rfl (by simp) (by simp)
  simp only [List.length_nil, glue_nil, Nat.zero_add, List.nil_append, Option.map_id'] at this
  exact this
theorem digit_of {c : UInt8} (h : c ∈ digT) : ¬ (c.toNat < 48 ∨ 57 < c.toNat) ∧ c ≠ 58 := by revert c; decide
theorem port_none {s : Tx} (h : hasB 58 s = false) : ∀ k, portGo s k = s
  | 0 => rfl
  | k + 1 => by
    simp only [portGo]
    split
    · split
      · rfl
      · split
        · rename_i hn _ h58
          exfalso
          have hm : s.getD (s.length - (5 - k) - 1) 0 ∈ s := by
            rw [List.getD_eq_getElem?_getD, List.getElem?_eq_getElem (by omega)]; simp
          exact hasB_false.1 h _ hm h58
        · exact port_none h k
    · rfl
theorem port_some {h d : Tx} (hd : allIn digT d = true) (h5 : d.length ≤ 5) : ∀ (m i : Nat), m + i = d.length → 0 < m → portGo (h ++ 58 :: d) (5 - i) = h
  | 0, i, _, h0 => absurd h0 (by omega)
  | m + 1, i, hm, _ => by
    have e : 5 - i = (4 - i) + 1 := by omega
    rw [e]
    simp only [portGo]
    have en : 5 - (4 - i) = i + 1 := by omega
    rw [en]
    have hlen : (h ++ 58 :: d).length = h.length + 1 + d.length := by simp; omega
    rw [if_pos (by omega)]
    have hg : ∀ j, j < d.length → (h ++ 58 :: d).getD (h.length + 1 + j) 0 = d.getD j 0 := by
      intro j hj
      simp only [List.getD_eq_getElem?_getD]
      rw [List.getElem?_append_right (by omega), show h.length + 1 + j - h.length = j + 1 by omega, List.getElem?_cons_succ]
    have hin : ∀ j, j < d.length → d.getD j 0 ∈ digT := by
      intro j hj
      have : d.getD j 0 ∈ d := by rw [List.getD_eq_getElem?_getD, List.getElem?_eq_getElem hj]; simp
      exact allIn_mem.1 hd _ this
    have e1 : (h ++ 58 :: d).length - (i + 1) = h.length + 1 + m := by omega
    rw [e1, hg m (by omega)]
    rw [if_neg (digit_of (hin m (by omega))).1]
    cases m with
    | zero =>
      have e2 : h.length + 1 + 0 - 1 = h.length := by omega
      rw [e2]
      simp [List.getD_eq_getElem?_getD]
    | succ m =>
      have e2 : h.length + 1 + (m + 1) - 1 = h.length + 1 + m := by omega
      rw [e2, hg m (by omega), if_neg (digit_of (hin m (by omega))).2]
      have := port_some (h := h) hd h5 (m + 1) (i + 1) (by omega) (by omega)
      rw [show 5 - (i + 1) = 4 - i by omega] at this
      exact this
theorem http_eq {s : Tx} (h : hostPlain s = true) (hl : loose s = false) : pHttp s = localF s := by
  simp only [loose, Bool.or_eq_false_iff] at hl
  have hnl : s ≠ localhostT := of_decide_eq_false hl.1
  unfold hostPlain at h
  cases hk : ix 58 s with
  | none =>
    have hb := ix_none.1 hk
    have ho : hostOf s = s := by simp [hostOf, hk]
    have hp : portF s = s := port_none hb 5
    unfold pHttp localF
    simp only [ho, hp, spl_none hk, List.headD_cons, quad_ip4, privO_eq]
    have e1 : starts [108, 111, 99, 97, 108, 104, 111, 115, 116, 58] s = false := by
      cases hs : starts [108, 111, 99, 97, 108, 104, 111, 115, 116, 58] s with
      | false => rfl
      | true =>
        exfalso
        simp only [starts, Bool.and_eq_true, decide_eq_true_eq] at hs
        refine hasB_false.1 hb 58 ?_ rfl
        have : (58 : UInt8) ∈ s.take 10 := by
          have := hs.2
          simp only [List.length_cons, List.length_nil] at this
          rw [this]; decide
        exact List.mem_of_mem_take this
    have e2 : decide (s = [58, 58, 49]) = false := decide_eq_false fun e => by subst e; revert hb; decide
    have e3 : decide (s = [91, 58, 58, 49, 93]) = false := decide_eq_false fun e => by subst e; revert hb; decide
    have e4 : decide (s = localhostT) = false := decide_eq_false hnl
    rw [e1, e2, e3, e4]
    cases privO (ip4 s) <;> cases endsT [46, 108, 111, 99, 97, 108, 104, 111, 115, 116] s <;> simp
  | some k =>
    rw [hk] at h
    simp only [Bool.and_eq_true] at h
    obtain ⟨h1, h2⟩ := h
    obtain ⟨d1, d2, d3⟩ := sWithin_all h1
    obtain ⟨e, hb⟩ := ix_split hk
    have ho : hostOf s = s.take k := by simp [hostOf, hk]
    have hp : portF s = s.take k := by
      have := port_some (h := s.take k) (d := s.drop (k + 1)) d1 d3 (s.drop (k + 1)).length 0 (by simp) (by omega)
      rw [← e] at this
      exact this
    unfold pHttp localF
    simp only [ho, hp, spl_some hk, List.headD_cons, quad_ip4, privO_eq]
    have e1 : starts [108, 111, 99, 97, 108, 104, 111, 115, 116, 58] s = decide (s.take k = localhostT) := by
      rw [Bool.eq_iff_iff]
      simp only [starts, Bool.and_eq_true, decide_eq_true_eq, List.length_cons, List.length_nil]
      constructor
      · rintro ⟨g1, g2⟩
        have g3 : s = localhostT ++ 58 :: s.drop 10 := by
          conv => lhs; rw [← List.take_append_drop 10 s]
          simp only [Nat.reduceAdd] at g2
          rw [g2]; rfl
        have g4 : ix 58 s = some 9 := by
          rw [g3]; exact ix_app (by decide)
        rw [hk] at g4
        cases g4
        rw [g3]; rfl
      · intro g
        have gk : k = 9 := by
          have hlt := ix_lt hk
          have : (s.take k).length = 9 := by rw [g]; rfl
          simp at this; omega
        subst gk
        have hlt := ix_lt hk
        refine ⟨by omega, ?_⟩
        rw [e, g]
        rfl
    have e2 : decide (s = [58, 58, 49]) = false := decide_eq_false fun e => by
      subst e
      have : k = 0 := by simpa [ix] using hk.symm
      subst this
      revert d1; decide
    have e3 : decide (s.take k = [91, 58, 58, 49, 93]) = false := decide_eq_false fun e => by rw [e] at hb; revert hb; decide
    rw [e1, e2, e3]
    cases privO (ip4 (s.take k)) <;> cases endsT [46, 108, 111, 99, 97, 108, 104, 111, 115, 116] (s.take k) <;> cases decide (s.take k = localhostT) <;> simp
end Go.V
namespace Go.V
set_option linter.unusedVariables false
set_option linter.unusedSimpArgs false
set_option maxRecDepth 10000
def RegAns (b : Bool) (reg s : Tx) (a : Option Tx) : Prop := ∀ r ok, sReg b reg s = (r, ok, false) → a = if ok then some r else none
def RepoAns (b : Bool) (reg s : Tx) (a : Option (Tx × Tx)) : Prop := ∀ r p ok, sRepo b reg s = (r, p, ok, false) → match a with
  | some x => ok = true ∧ x.1 = r ∧ fullP r x.2 = p
  | none => ok = false
def TagAns (o : NOpt) (s : Tx) (a : Option (Tx × Tx × Tx)) : Prop := ∀ r p t ok, sTag o s = (r, p, t, ok, false) → match a with
  | some x => ok = true ∧ x.1 = r ∧ fullP r x.2.1 = p ∧ x.2.2 = t
  | none => ok = false
def DigAns (o : NOpt) (s : Tx) (a : Option (Tx × Tx × Tx)) : Prop := ∀ r p t ok, sDig o s = (r, p, t, ok, false) → match a with
  | some x => ok = true ∧ x.1 = r ∧ fullP r x.2.1 = p ∧ x.2.2 = t
  | none => ok = false
theorem RepoAns.of {b : Bool} {reg s : Tx} {a : Option Tx} (h1 : RegAns b reg (hostCut s).1 a) : RepoAns b reg s (if pathGood (hostCut s).2 then (match a with
    | some r => if implNs r (hostCut s).2 && b then none else some (r, (hostCut s).2)
    | none => none) else none) := by
  intro r p ok h
  unfold sRepo at h
  simp only at h
  cases hp : pathGood (hostCut s).2 with
  | false => rw [hp] at h; simp at h; simp; exact h.2.2.1
  | true =>
    rw [hp] at h
    simp only [Bool.not_true, Bool.false_or] at h
    rw [if_pos rfl]
    by_cases hb : b = true ∧ (hostCut s).1 = []
    · obtain ⟨hb1, hb2⟩ := hb
      subst hb1
      rw [hb2] at h h1
      have ha : a = none := by
        have := h1 [] false (by simp [sReg])
        simpa using this
      subst ha
      simp [sReg, show hostBad [] = false by decide] at h
      simpa using h.2.2.1
    · have hbf : (b && decide ((hostCut s).1 = [])) = false := by
        cases b with
        | false => rfl
        | true => simp at hb; simp [hb]
      have he : sReg b reg (hostCut s).1 = sReg false reg (hostCut s).1 := by unfold sReg; rw [hbf]; simp
      rw [hbf] at h
      rw [RegAns, he] at h1
      cases hs : sReg false reg (hostCut s).1 with
      | mk r1 x =>
        obtain ⟨ok1, op1⟩ := x
        rw [hs] at h
        simp only [Bool.or_false] at h
        cases ok1 with
        | false =>
          simp only [Bool.not_false, if_true, Prod.mk.injEq] at h
          obtain ⟨_, _, rfl, rfl⟩ := h
          have := h1 r1 false hs
          simp only [Bool.false_eq_true, if_false] at this
          subst this
          rfl
        | true =>
          simp only [Bool.not_true, Bool.false_eq_true, if_false] at h
          by_cases hi : (implNs r1 (hostCut s).2 && b) = true
          · rw [if_pos hi] at h
            simp only [Prod.mk.injEq] at h
            obtain ⟨_, _, rfl, rfl⟩ := h
            have := h1 r1 true hs
            rw [if_pos rfl] at this
            subst this
            simp only [hi, if_true]
          · rw [if_neg hi] at h
            simp only [Prod.mk.injEq] at h
            obtain ⟨rfl, rfl, rfl, rfl⟩ := h
            have := h1 r1 true hs
            rw [if_pos rfl] at this
            subst this
            simp only [hi]
            exact ⟨trivial, rfl, rfl⟩
theorem TagAns.of {o : NOpt} {s : Tx} {a : Option (Tx × Tx)} {rest t : Tx} (hc : cutTag s = some (rest, t)) (ht : tagGood t = true) (h : RepoAns o.strict o.reg rest a) : TagAns o s (a.map fun x => (x.1, x.2, t)) := by
  intro r p t' ok hs
  unfold sTag at hs
  rw [hc] at hs
  simp only [ht, if_true, Prod.mk.injEq] at hs
  obtain ⟨h1, h2, h3, h4, h5⟩ := hs
  have := h r p ok (Prod.ext h1 (Prod.ext h2 (Prod.ext h4 h5)))
  cases a with
  | none => exact this
  | some x => exact ⟨this.1, this.2.1, this.2.2, h3⟩
theorem TagAns.no {o : NOpt} {s : Tx} {rest t : Tx} (hc : cutTag s = some (rest, t)) (ht : tagGood t = false) : TagAns o s none := by
  intro r p t' ok hs
  unfold sTag at hs
  rw [hc] at hs
  simp [ht] at hs
  exact hs.2.2.2
theorem TagAns.strict {o : NOpt} {s : Tx} (hc : cutTag s = none) (ht : o.strict = true) : TagAns o s none := by
  intro r p t' ok hs
  unfold sTag at hs
  rw [hc] at hs
  simp [ht] at hs
  exact hs.2.2.2
theorem TagAns.weak {o : NOpt} {s : Tx} {a : Option (Tx × Tx)} (hc : cutTag s = none) (ht : o.strict = false) (h : RepoAns false o.reg s a) : TagAns o s (a.map fun x => (x.1, x.2, tagOr o.tag)) := by
  intro r p t' ok hs
  unfold sTag at hs
  rw [hc] at hs
  simp only [ht, Bool.false_eq_true, if_false, Prod.mk.injEq] at hs
  obtain ⟨h1, h2, h3, h4, h5⟩ := hs
  have := h r p ok (Prod.ext h1 (Prod.ext h2 (Prod.ext h4 h5)))
  cases a with
  | none => exact this
  | some x => exact ⟨this.1, this.2.1, this.2.2, h3⟩
theorem pathBad {p : Tx} (h : hasB 58 p = true) : pathGood p = false := by
  cases hp : pathGood p with
  | false => rfl
  | true => rw [(path_no (pathGood_all hp).1).1] at h; cases h
theorem hostCut_more {x t : Tx} (h : hasB 47 t = false) : (hostCut (x ++ 58 :: t)).1 = (hostCut x).1 ∧ (hostCut (x ++ 58 :: t)).2 = (hostCut x).2 ++ 58 :: t := by
  unfold hostCut
  cases hk : ix 47 x with
  | some k =>
    have hlt := ix_lt hk
    rw [ix_app2 hk]
    simp only
    rw [List.take_append_of_le_length (by omega)]
    by_cases hh : hosted (x.take k) = true
    · rw [if_pos hh, if_pos hh, List.drop_append_of_le_length (by omega)]
      exact ⟨rfl, rfl⟩
    · rw [if_neg hh, if_neg hh]
      exact ⟨rfl, rfl⟩
  | none =>
    have : ix 47 (x ++ 58 :: t) = none := ix_none.2 (by rw [hasB_app, hasB_cons, ix_none.1 hk, h]; rfl)
    rw [this]
    exact ⟨rfl, rfl⟩
theorem sRepo_bad {b : Bool} {reg x t : Tx} (h : hasB 47 t = false) {r p : Tx} {ok : Bool} (hs : sRepo b reg x = (r, p, ok, false)) : sRepo b reg (x ++ 58 :: t) = ([], [], false, false) := by
  obtain ⟨h1, h2⟩ := hostCut_more (x := x) h
  have hop : (sReg false reg (hostCut x).1).2.2 = false := by
    unfold sRepo at hs
    simp only at hs
    split at hs
    · simp at hs; exact hs.2.2.2
    · split at hs
      · simp at hs; exact hs.2.2.2
      · simp at hs; exact hs.2.2.2
  unfold sRepo
  simp only [h1, h2]
  rw [pathBad (by rw [hasB_app, hasB_cons]; simp)]
  simp [hop]
theorem DigAns.of {o : NOpt} {s : Tx} {k : Nat} {at_ : Option (Tx × Tx × Tx)} {ar : Option (Tx × Tx)} (hr : regOk o.reg) (h1 : ix 64 s = some k) (h2 : lx 64 s = some k) (hd : digGood (s.drop (k + 1)) = true)
    (ht : TagAns o (s.take k) at_) (ha : RepoAns o.strict o.reg (match at_ with
      | some x => repoT x.1 (fullP x.1 x.2.1)
      | none => s.take k) ar) : DigAns o s (ar.map fun x => (x.1, x.2, s.drop (k + 1))) := by
  intro r p t ok hs
  unfold sDig at hs
  rw [h1] at hs
  simp only [h2, if_true, hd, Prod.mk.injEq, Bool.or_eq_false_iff, decide_eq_false_iff_not, Nat.not_lt] at hs
  obtain ⟨e1, e2, e3, e4, e5, e6⟩ := hs
  have hS : sRepo o.strict o.reg (offTag (s.take k)) = (r, p, ok, false) := Prod.ext e1 (Prod.ext e2 (Prod.ext e4 e5))
  rw [e2] at e6
  subst e3
  -- what is said of the tag
  have key : ∀ x, sTag o (s.take k) = (r, p, x, ok, false) → (match (generalizing := false) at_ with
      | some y => ok = true ∧ y.1 = r ∧ fullP r y.2.1 = p
      | none => ok = false) := by
    intro x hx
    have := ht r p x ok hx
    cases at_ with
    | none => exact this
    | some y => exact ⟨this.1, this.2.1, this.2.2.1⟩
  have fin : (∃ x, sTag o (s.take k) = (r, p, x, ok, false)) → ok = true → (match (ar.map fun x => (x.1, x.2, s.drop (k + 1))) with
      | some x => ok = true ∧ x.1 = r ∧ fullP r x.2.1 = p ∧ x.2.2 = s.drop (k + 1)
      | none => ok = false) := by
    rintro ⟨x, hx⟩ rfl
    have := key x hx
    cases at_ with
    | none => cases this
    | some y =>
      obtain ⟨_, y1, y2⟩ := this
      simp only [y1, y2] at ha
      obtain ⟨g1, g2, _⟩ := sRepo_ok hr hS
      have := ha r p true (sRepo_again g1 g2 e6)
      cases ar with
      | none => cases this
      | some z => exact ⟨rfl, this.2.1, this.2.2, rfl⟩
  have fin2 : at_ = none → (∃ r' p', sRepo o.strict o.reg (s.take k) = (r', p', false, false)) → ok = false → (match (ar.map fun x => (x.1, x.2, s.drop (k + 1))) with
      | some x => ok = true ∧ x.1 = r ∧ fullP r x.2.1 = p ∧ x.2.2 = s.drop (k + 1)
      | none => ok = false) := by
    rintro rfl ⟨r', p', h⟩ rfl
    have := ha r' p' false h
    cases ar with
    | none => rfl
    | some z => exact absurd this.1 (by decide)
  cases hc : cutTag (s.take k) with
  | some y =>
    obtain ⟨rest, tg⟩ := y
    cases htg : tagGood tg with
    | true =>
      have ho : offTag (s.take k) = rest := by simp [offTag, hc, htg]
      rw [ho] at hS
      have hT : sTag o (s.take k) = (r, p, tg, ok, false) := by simp [sTag, hc, htg, hS]
      cases ok with
      | true => exact fin ⟨_, hT⟩ rfl
      | false =>
        have hn := key _ hT
        cases at_ with
        | some y => exact absurd hn.1 (by decide)
        | none =>
          obtain ⟨he, _, h47⟩ := cutTag_eq hc
          exact fin2 rfl ⟨[], [], by rw [he]; exact sRepo_bad h47 hS⟩ rfl
    | false =>
      have ho : offTag (s.take k) = s.take k := by simp [offTag, hc, htg]
      rw [ho] at hS
      have hn := (TagAns.no (o := o) hc htg)
      have hT : sTag o (s.take k) = ([], [], [], false, false) := by simp [sTag, hc, htg]
      have ha0 := ht _ _ _ _ hT
      cases at_ with
      | some y => exact absurd ha0.1 (by decide)
      | none =>
        have := ha r p ok hS
        cases ar with
        | none => exact this
        | some z => exact ⟨this.1, this.2.1, this.2.2, rfl⟩
  | none =>
    have ho : offTag (s.take k) = s.take k := by simp [offTag, hc]
    rw [ho] at hS
    cases hst : o.strict with
    | true =>
      have hT : sTag o (s.take k) = ([], [], [], false, false) := by simp [sTag, hc, hst]
      have ha0 := ht _ _ _ _ hT
      cases at_ with
      | some y => exact absurd ha0.1 (by decide)
      | none =>
        have := ha r p ok hS
        cases ar with
        | none => exact this
        | some z => exact ⟨this.1, this.2.1, this.2.2, rfl⟩
    | false =>
      rw [hst] at hS
      have hT : sTag o (s.take k) = (r, p, tagOr o.tag, ok, false) := by simp [sTag, hc, hst, hS]
      cases ok with
      | true => exact fin ⟨_, hT⟩ rfl
      | false =>
        have hn := key _ hT
        cases at_ with
        | some y => exact absurd hn.1 (by decide)
        | none => exact fin2 rfl ⟨r, p, by rw [hst]; exact hS⟩ rfl
theorem DigAns.no {o : NOpt} {s : Tx} (h : ∀ r p t, sDig o s ≠ (r, p, t, true, false)) : DigAns o s none := by
  intro r p t ok hs
  cases ok with
  | false => rfl
  | true => exact absurd hs (h r p t)
end Go.V
namespace Go.V
set_option linter.unusedVariables false
set_option linter.unusedSimpArgs false
set_option maxRecDepth 10000
theorem digGood_no {t : Tx} (h : digGood t = true) : hasB 64 t = false := by
  simp only [digGood, Bool.and_eq_true, decide_eq_true_eq] at h
  obtain ⟨_, h1, h2⟩ := h
  rw [← List.take_append_drop 7 t, hasB_app, h1, allIn_not 64 (sWithin_all h2).1 (by decide)]
  decide
theorem sTag_ok {o : NOpt} {s r p t : Tx} (hr : regOk o.reg) (h : sTag o s = (r, p, t, true, false)) : RepoOk r p ∧ hosted r = true ∧ (tagGood t = true ∨ t = tagOr o.tag) := by
  unfold sTag at h
  split at h
  · split at h
    · rename_i hg
      simp only [Prod.mk.injEq] at h
      obtain ⟨h1, h2, rfl, h4, h5⟩ := h
      obtain ⟨g1, g2, _⟩ := sRepo_ok hr (show sRepo o.strict o.reg _ = (r, p, true, false) from Prod.ext h1 (Prod.ext h2 (Prod.ext h4 h5)))
      exact ⟨g1, g2, .inl hg⟩
    · simp at h
  · split at h
    · simp at h
    · simp only [Prod.mk.injEq] at h
      obtain ⟨h1, h2, rfl, h4, h5⟩ := h
      obtain ⟨g1, g2, _⟩ := sRepo_ok hr (show sRepo o.strict o.reg s = (r, p, true, false) from Prod.ext h1 (Prod.ext h2 (Prod.ext h4 h5)))
      exact ⟨g1, g2, .inr rfl⟩
theorem sDig_ok {o : NOpt} {s r p t : Tx} (hr : regOk o.reg) (h : sDig o s = (r, p, t, true, false)) : RepoOk r p ∧ hosted r = true ∧ digGood t = true := by
  unfold sDig at h
  split at h
  · simp at h
  · split at h
    · split at h
      · rename_i hg
        simp only [Prod.mk.injEq, Bool.or_eq_false_iff] at h
        obtain ⟨h1, h2, rfl, h4, h5, _⟩ := h
        obtain ⟨g1, g2, _⟩ := sRepo_ok hr (show sRepo o.strict o.reg _ = (r, p, true, false) from Prod.ext h1 (Prod.ext h2 (Prod.ext h4 h5)))
        exact ⟨g1, g2, hg⟩
      · simp at h
    · simp at h
theorem repo_no {r p : Tx} (h : RepoOk r p) : hasB 64 (repoT r p) = false := by
  unfold repoT
  rw [hasB_app, hasB_app, hostPlain_no 64 h.plain (by decide), (path_no h.chars).2]; decide
theorem sTag_again {b ins : Bool} {r p t : Tx} (h : RepoOk r p) (h2 : hosted r = true) (hl : p.length ≤ 255) (ht : tagGood t = true) : sTag ⟨b, ins, [], []⟩ (repoT r p ++ [58] ++ t) = (r, p, t, true, false) := by
  obtain ⟨t1, t2, _⟩ := tagGood_no ht
  have hc : cutTag (repoT r p ++ [58] ++ t) = some (repoT r p, t) := by rw [List.append_assoc]; exact cutTag_some t1 t2
  unfold sTag
  rw [hc]
  simp only [ht, if_true, sRepo_again h h2 hl]
theorem sDig_again {b ins : Bool} {r p t : Tx} (h : RepoOk r p) (h2 : hosted r = true) (hl : p.length ≤ 255) (ht : digGood t = true) : sDig ⟨b, ins, [], []⟩ (repoT r p ++ [64] ++ t) = (r, p, t, true, false) := by
  have h64 := repo_no h
  have e1 : ix 64 (repoT r p ++ [64] ++ t) = some (repoT r p).length := by rw [List.append_assoc]; exact ix_app h64
  have e2 : lx 64 (repoT r p ++ [64] ++ t) = some (repoT r p).length := by rw [List.append_assoc]; exact lx_app (digGood_no ht)
  have e3 : (repoT r p ++ [64] ++ t).drop ((repoT r p).length + 1) = t := by simp
  have e4 : (repoT r p ++ [64] ++ t).take (repoT r p).length = repoT r p := by rw [List.append_assoc, List.take_left']; rfl
  have e5 : offTag (repoT r p) = repoT r p := by simp [offTag, cutTag_none (path_no h.chars).1]
  unfold sDig
  rw [e1]
  simp only [e2, if_true, e3, ht, e4, e5, sRepo_again h h2 hl]
  simp [hl]
theorem again {o : NOpt} {which k : Int} {s r p id : Tx} (hr : regOk o.reg) (hw : 0 ≤ which ∧ which ≤ 4) (h : sParts o which s = (k, r, p, id, true, false)) (htag : o.tag = []) (hl : p.length ≤ 255) (sch : Bool) (text : Tx) (ins : Bool) :
    1 ≤ k ∧ k ≤ 4 ∧ sParts ⟨true, ins, [], []⟩ k (nmd sch k r p id text).name = (k, r, p, id, true, false) := by
  have hT : ∀ t, sTag o s = (r, p, t, true, false) → sParts ⟨true, ins, [], []⟩ 3 (nmd sch 3 r p t text).name = (3, r, p, t, true, false) := by
    intro t ht
    obtain ⟨g1, g2, g3⟩ := sTag_ok hr ht
    have hg : tagGood t = true := by
      rcases g3 with g | rfl
      · exact g
      · rw [htag]; decide
    have := sTag_again (b := true) (ins := ins) g1 g2 hl hg
    simp [sParts, nmd, List.append_assoc] at this ⊢
    simp [this]
  have hD : ∀ t, sDig o s = (r, p, t, true, false) → sParts ⟨true, ins, [], []⟩ 4 (nmd sch 4 r p t text).name = (4, r, p, t, true, false) := by
    intro t ht
    obtain ⟨g1, g2, g3⟩ := sDig_ok hr ht
    have := sDig_again (b := true) (ins := ins) g1 g2 hl g3
    simp [sParts, nmd, List.append_assoc] at this ⊢
    simp [this]
  unfold sParts at h
  by_cases h1 : which = 1
  · rw [if_pos h1] at h
    simp only [Prod.mk.injEq] at h
    obtain ⟨rfl, e1, rfl, rfl, e2, e3⟩ := h
    obtain ⟨g1, g2, g3, _⟩ := sReg_ok hr (show sReg o.strict o.reg s = (r, true, false) from Prod.ext e1 (Prod.ext e2 e3))
    refine ⟨by decide, by decide, ?_⟩
    simp [sParts, nmd, sReg_again g1 g2 g3]
  rw [if_neg h1] at h
  by_cases h2 : which = 2
  · rw [if_pos h2] at h
    simp only [Prod.mk.injEq] at h
    obtain ⟨rfl, e1, e4, rfl, e2, e3⟩ := h
    obtain ⟨g1, g2, _⟩ := sRepo_ok hr (show sRepo o.strict o.reg s = (r, p, true, false) from Prod.ext e1 (Prod.ext e4 (Prod.ext e2 e3)))
    refine ⟨by decide, by decide, ?_⟩
    simp [sParts, nmd, sRepo_again g1 g2 hl]
  rw [if_neg h2] at h
  by_cases h3 : which = 3
  · rw [if_pos h3] at h
    simp only [Prod.mk.injEq] at h
    obtain ⟨rfl, e1, e2, e3, e4, e5⟩ := h
    exact ⟨by decide, by decide, hT id (Prod.ext e1 (Prod.ext e2 (Prod.ext e3 (Prod.ext e4 e5))))⟩
  rw [if_neg h3] at h
  by_cases h4 : which = 4
  · rw [if_pos h4] at h
    simp only [Prod.mk.injEq] at h
    obtain ⟨rfl, e1, e2, e3, e4, e5⟩ := h
    exact ⟨by decide, by decide, hD id (Prod.ext e1 (Prod.ext e2 (Prod.ext e3 (Prod.ext e4 e5))))⟩
  rw [if_neg h4] at h
  simp only at h
  split at h
  · simp only [Prod.mk.injEq] at h
    obtain ⟨rfl, e1, e2, e3, e4, e5⟩ := h
    exact ⟨by decide, by decide, hD id (Prod.ext e1 (Prod.ext e2 (Prod.ext e3 (Prod.ext e4 e5))))⟩
  · simp only [Prod.mk.injEq] at h
    obtain ⟨rfl, e1, e2, e3, e4, e5⟩ := h
    exact ⟨by decide, by decide, hT id (Prod.ext e1 (Prod.ext e2 (Prod.ext e3 (Prod.ext e4 e5))))⟩
end Go.V
namespace Go.V
open Go.RowKit
set_option linter.unusedVariables false
set_option linter.unusedSimpArgs false
section
variable {P : Program} {n : Nat} {C : Cx} {env : Env} {L : Own} {I : Imm} {ops : Array Oper} {S : World → Prop}
variable {d : Nat} {ty : TypeId} {ps : String} {af : Array Edge} {g : Option (Nat × Bool)} {t t' : TypeId} {x y : Operand} {kd : IntKind} {a b r : Int} {s u : List UInt8}
theorem Yld.lss (hg : want env ops g = some true) (hx : opnd env x = some (.int kd a)) (hy : opnd env y = some (.int kd b)) : Yld P n env ops S ⟨some d, .binOp .lss t x y t', ty, ps, af, g⟩ (.bool (decide (a < b))) :=
  Yld.val hg fun c W he _ => by simp [execOp, eval_opnd he hx, eval_opnd he hy, run_eqGuard_int, binOp, Op.intCmp]
theorem Yld.leq (hg : want env ops g = some true) (hx : opnd env x = some (.int kd a)) (hy : opnd env y = some (.int kd b)) : Yld P n env ops S ⟨some d, .binOp .leq t x y t', ty, ps, af, g⟩ (.bool (decide (a ≤ b))) :=
  Yld.val hg fun c W he _ => by simp [execOp, eval_opnd he hx, eval_opnd he hy, run_eqGuard_int, binOp, Op.intCmp]
theorem Yld.gtr (hg : want env ops g = some true) (hx : opnd env x = some (.int kd a)) (hy : opnd env y = some (.int kd b)) : Yld P n env ops S ⟨some d, .binOp .gtr t x y t', ty, ps, af, g⟩ (.bool (decide (b < a))) :=
  Yld.val hg fun c W he _ => by simp [execOp, eval_opnd he hx, eval_opnd he hy, run_eqGuard_int, binOp, Op.intCmp]
theorem Yld.geq (hg : want env ops g = some true) (hx : opnd env x = some (.int kd a)) (hy : opnd env y = some (.int kd b)) : Yld P n env ops S ⟨some d, .binOp .geq t x y t', ty, ps, af, g⟩ (.bool (decide (b ≤ a))) :=
  Yld.val hg fun c W he _ => by simp [execOp, eval_opnd he hx, eval_opnd he hy, run_eqGuard_int, binOp, Op.intCmp]
theorem Yld.eqlI (hg : want env ops g = some true) (hx : opnd env x = some (.int kd a)) (hy : opnd env y = some (.int kd b)) : Yld P n env ops S ⟨some d, .binOp .eql t x y t', ty, ps, af, g⟩ (.bool (decide (a = b))) :=
  Yld.val hg fun c W he _ => by simp [execOp, eval_opnd he hx, eval_opnd he hy, run_eqGuard_int, binOp, Op.intCmp]; rfl
theorem Yld.neqI (hg : want env ops g = some true) (hx : opnd env x = some (.int kd a)) (hy : opnd env y = some (.int kd b)) : Yld P n env ops S ⟨some d, .binOp .neq t x y t', ty, ps, af, g⟩ (.bool (!decide (a = b))) :=
  Yld.val hg fun c W he _ => by simp [execOp, eval_opnd he hx, eval_opnd he hy, run_eqGuard_int, binOp, Op.intCmp]; rfl
theorem Yld.sub (hg : want env ops g = some true) (hx : opnd env x = some (.int kd a)) (hy : opnd env y = some (.int kd b)) (hr : kd.wrap (a - b) = r) : Yld P n env ops S ⟨some d, .binOp .sub t x y t', ty, ps, af, g⟩ (.int kd r) :=
  Yld.val hg fun c W he _ => by subst hr; simp [execOp, eval_opnd he hx, eval_opnd he hy, run_eqGuard_int, binOp, Op.intArith]
theorem Yld.add (hg : want env ops g = some true) (hx : opnd env x = some (.int kd a)) (hy : opnd env y = some (.int kd b)) (hr : kd.wrap (a + b) = r) : Yld P n env ops S ⟨some d, .binOp .add t x y t', ty, ps, af, g⟩ (.int kd r) :=
  Yld.val hg fun c W he _ => by subst hr; simp [execOp, eval_opnd he hx, eval_opnd he hy, run_eqGuard_int, binOp, Op.intArith]
theorem Yld.eqlS (hg : want env ops g = some true) (hx : opnd env x = some (str s)) (hy : opnd env y = some (str u)) : Yld P n env ops S ⟨some d, .binOp .eql t x y t', ty, ps, af, g⟩ (.bool (decide (s = u))) :=
  Yld.val hg fun c W he _ => by
    have : (s == u) = decide (s = u) := by rw [Bool.eq_iff_iff]; simp
    simp [execOp, eval_opnd he hx, eval_opnd he hy, str, run_eqGuard_string, binOp, Op.stringOp, str_toList, this]
theorem Yld.catS (hg : want env ops g = some true) (hx : opnd env x = some (str s)) (hy : opnd env y = some (str u)) (hlen : s.length + u.length ≤ 9223372036854775807) : Yld P n env ops S ⟨some d, .binOp .add t x y t', ty, ps, af, g⟩ (str (s ++ u)) :=
  Yld.val hg fun c W he _ => by
    simp [execOp, eval_opnd he hx, eval_opnd he hy, str, run_eqGuard_string, binOp, Op.stringOp, str_size, str_append]; omega
theorem Yld.indexS {ts : TypeId} {ix : Operand} {j : Int} (T : Tab P) (hg : want env ops g = some true) (hu : T.und ts = some .string) (hx : opnd env x = some (str s)) (hi : opnd env ix = some (.int kd j)) (h0 : 0 ≤ j) (h1 : j < s.length) : Yld P n env ops S ⟨some d, .index ts x ix, ty, ps, af, g⟩ (.int .u8 ((s.getD j.toNat 0).toNat : Int)) :=
  Yld.val hg fun c W he _ => by
    have hj : j.toNat < s.length := by omega
    have : (⟨s.toArray⟩ : ByteArray)[j.toNat]? = some (s.getD j.toNat 0) := by
      rw [getElem?_pos (⟨s.toArray⟩ : ByteArray) j.toNat (by rw [str_size]; exact hj)]
      simp [List.getD_eq_getElem?_getD, hj, ByteArray.getElem_eq_getElem_data]
    simp [execOp, Instr.index, eval_opnd he hx, eval_opnd he hi, asIntOf, T.undOk hu, str, h0, this]
theorem Yld.lenS {ts : TypeId} (T : Tab P) (hg : want env ops g = some true) (hu : T.und ts = some .string) (hx : opnd env x = some (str s)) : Yld P n env ops S ⟨some d, .call ⟨.builtin .len, #[x], #[ts]⟩, ty, ps, af, g⟩ (.int .i64 s.length) :=
  Yld.val hg fun c W he _ => by simp [execOp, resolve, invoke, builtin, Builtin.len_, eval_opnd he hx, T.undOk hu, str, goInt, str_size]
theorem Eff.buildSlice {t e : TypeId} {len size : Nat} {xs : List (Nat × Operand)} {vs : List (Nat × Value)} {z : Value} {cs : List Value} {K : Value → Own → Imm → Prop}
    (hu : ∀ w, (underlying t).run P w = .ok (.slice e) w) (hz : ∀ w, (zeroValue e).run P w = .ok z w) (hs : ∀ w, (sizeOf e).run P w = .ok size w)
    (hlen : len * size ≤ 16777216) (hx : parts env xs = some vs) (hf : Instr.fill (fun i => some (i * size, size)) ((Array.range (len * size)).map (z.cells[· % z.cells.size]!)) vs = some cs.toArray)
    (next : ∀ b, K (.slice (some ⟨b, 0, none⟩) len len) ((b, blk cs e) :: L) I) : Eff P n C env L I ⟨some d, .buildSlice t len xs.toArray, ty, ps, af, g⟩ K :=
  Eff.valW fun a W he hi => ⟨.slice (some ⟨W.heap.size, 0, none⟩) len len, W.alloc (blk cs e), (W.heap.size, blk cs e) :: L, I,
    .inl (by
      have h1 : ¬ (len * size > 2 ^ 24) := by omega
      have h2 := parts_spec he hx
      have hmap : (List.map (fun (x : Nat × Operand) => match x with | (i, x) => (i, a.eval x)) xs) = vs := h2
      simp only [execOp, Instr.buildSlice, Sem.run_bind, hu, hs, Result.andThen_ok, h1, if_false, List.map_toArray, hmap, pure_bind, Sem.run_pure]
      by_cases h0 : len * size = 0
      · rw [if_pos h0]
        have hf' : Instr.fill (fun i => some (i * size, size)) ((Array.range (len * size)).map ((#[] : Array Value)[· % (#[] : Array Value).size]!)) vs = some cs.toArray := by
          have e : ∀ f : Nat → Value, (Array.range 0).map f = #[] := fun f => by simp
          rw [h0, e] at hf ⊢; exact hf
        simp only [hf']
        rfl
      · rw [if_neg h0]
        simp only [Sem.run_bind, hz, Result.andThen_ok, hf]
        rfl), hi.alloc _, next _⟩
theorem Eff.append {s x : Operand} {ts tx e : TypeId} {size bytes : Nat} {M N : Own} {v xv : Value} {m q : Nat} {xs news : List Value} {K : Value → Own → Imm → Prop} (hE : Elem P ts e size bytes)
    (hs : opnd env s = some v) (hx : opnd env x = some xv) (hL : L.Perm (M ++ N)) (hG : Grows e size v m xs M)
    (hsrc : ∀ W, Inv C.w0 C.I0 C.L0 I L W → Src P size tx xv q news W) (hbytes : (2 * (m + q) + 512) * bytes ≤ 281474976710656) (h63 : m + q ≤ 4611686018427387904)
    (next : ∀ v' M', Grows e size v' (m + q) (xs ++ news) M' → K v' (M' ++ N) I) :
    Eff P n C env L I ⟨some d, .call ⟨.builtin .append, #[s, x], #[ts, tx]⟩, ty, ps, af, g⟩ K :=
  Eff.valW fun a W he hi => by
    obtain ⟨v', W', M', hr, hG', hi'⟩ := run_append_grows (P := P) (ty := ty) hE (hi.perm hL) hG (hsrc W hi) hbytes h63
    refine ⟨v', W', M' ++ N, I, .inl ?_, hi', next v' M' hG'⟩
    simp [execOp, resolve, invoke, builtin, eval_opnd he hs, eval_opnd he hx, hr]
end
theorem Yld.as {P : Program} {n : Nat} {env : Env} {ops : Array Oper} {S : World → Prop} {o : Oper} {v v' : Value} (h : Yld P n env ops S o v) (e : v = v') : Yld P n env ops S o v' := e ▸ h
end Go.V
namespace Go.V
open Go.RowKit
set_option linter.unusedVariables false
set_option linter.unusedSimpArgs false
section
variable {P : Program} {n : Nat} {C : Cx} {k : List Item} {env : Env} {L : Own} {I : Imm} {ops : Array Oper} {i : Nat} {l : List Oper}
variable {ty : TypeId} {ps : String} {af : Array Edge} {g : Option (Nat × Bool)} {d : Nat}
theorem Ops.indexArr {x ix : Operand} {kd : IntKind} {j : Int} {ts e : TypeId} {len b off size : Nat} (T : Tab P) (hg : want env ops g = some true) (hd : d < n) (hx : opnd env x = some (.pointer (some ⟨b, off, none⟩))) (hi : opnd env ix = some (.int kd j))
    (hu : T.und ts = some (.array len e)) (hz : T.size e = some size) (h0 : 0 ≤ j) (h1 : j < len)
    (next : Ops P n C ops (i + 1) l k ((d, .pointer (some ⟨b, off + j.toNat * size, none⟩)) :: env) L I) :
    Ops P n C ops i (⟨some d, .indexAddr ts x ix, ty, ps, af, g⟩ :: l) k env L I :=
  Ops.val hg (dOk hd) (fun a W he _ => by
    simp [execOp, Instr.indexAt, Instr.sureAddr, eval_opnd he hx, eval_opnd he hi, asIntOf, T.undOk hu, T.sizeOk hz, h0, h1, add_off]) next
def isIface : TypeDesc → Bool
  | .interface _ => true
  | _ => false
theorem Ops.assertYes {x : Operand} {xt t : TypeId} {u : TypeDesc} {v : Value} (T : Tab P) (hg : want env ops g = some true) (hd : d < n) (hx : opnd env x = some (.iface t v)) (hu : T.und t = some u) (hn : isIface u = false)
    (next : Ops P n C ops (i + 1) l k ((d, .tuple #[v, .bool true]) :: env) L I) : Ops P n C ops i (⟨some d, .typeAssert x xt t true, ty, ps, af, g⟩ :: l) k env L I :=
  Ops.val hg (dOk hd) (fun a W he _ => by
    cases u <;> simp [isIface] at hn <;> simp [execOp, Instr.typeAssert, eval_opnd he hx, T.undOk hu]) next
theorem Ops.assertNo {x : Operand} {xt t t' : TypeId} {u : TypeDesc} {v z : Value} (T : Tab P) (hg : want env ops g = some true) (hd : d < n) (hx : opnd env x = some (.iface t' v)) (hne : Nat.beq t' t = false) (hu : T.und t = some u) (hn : isIface u = false) (hz : T.zero t = some z)
    (next : Ops P n C ops (i + 1) l k ((d, .tuple #[z, .bool false]) :: env) L I) : Ops P n C ops i (⟨some d, .typeAssert x xt t true, ty, ps, af, g⟩ :: l) k env L I :=
  Ops.val hg (dOk hd) (fun a W he _ => by
    have h' : ¬ t' = t := fun h => by subst h; simp at hne
    cases u <;> simp [isIface] at hn <;> simp [execOp, Instr.typeAssert, eval_opnd he hx, T.undOk hu, h', T.zeroOk hz]) next
theorem run_callI {f : FuncId} {x : Operand} {xs : List Operand} {ats : Array TypeId} {iv : Value} {vs ws : List Value} {name : String} {a : Act} {W : World} {dst : Option Tmp} (he : EnvOk n env a)
    (hx : opnd env x = some iv) (hxs : opnds env xs = some vs) (hm : ∀ w, (callMethod iv name vs.toArray).run P w = .ok (.enter f ws.toArray) w) :
    (execOp a.eval ⟨dst, .call ⟨.invoke x name, xs.toArray, ats⟩, ty, ps, af, g⟩).run P W = .ok (.enter f ws.toArray) W := by
  have h := eval_opnds he hxs
  have h2 := hm W
  simp [execOp, resolve, eval_opnd he hx, invoke, h, h2]
theorem Ops.callI {f : FuncId} {x : Operand} {xs : List Operand} {ats : Array TypeId} {iv : Value} {vs ws : List Value} {name : String} {R : Value → Imm → Prop} (hs : Pure P f ws I R) (hg : want env ops g = some true) (hd : d < n)
    (hx : opnd env x = some iv) (hxs : opnds env xs = some vs) (hm : ∀ w, (callMethod iv name vs.toArray).run P w = .ok (.enter f ws.toArray) w)
    (next : ∀ v J, Le I J → R v J → Ops P n C ops (i + 1) l k ((d, v) :: env) L J) : Ops P n C ops i (⟨some d, .call ⟨.invoke x name, xs.toArray, ats⟩, ty, ps, af, g⟩ :: l) k env L I :=
  Ops.callW (M := []) (N := L) hg (dOk hd) (fun a W he => run_callI he hx hxs hm) (.refl _) hs fun v J M' hle ⟨hM, hR⟩ => by subst hM; exact next v J hle hR
end
theorem Yld.sliceHi {P : Program} {n : Nat} {env : Env} {ops : Array Oper} {S : World → Prop} {ty : TypeId} {ps : String} {af : Array Edge} {g : Option (Nat × Bool)} {d : Nat} {x hi : Operand} {ts : TypeId} {s : List UInt8} {kd : IntKind} {m : Int} (T : Tab P) (hg : want env ops g = some true) (hu : T.und ts = some .string) (hx : opnd env x = some (str s))
    (hhi : opnd env hi = some (.int kd m)) (h0 : 0 ≤ m) (h1 : m ≤ s.length) : Yld P n env ops S ⟨some d, .slice ts x none (some hi) none, ty, ps, af, g⟩ (str (s.take m.toNat)) :=
  Yld.val hg fun c W he _ => by
    have hm := run_sliceBound (P := P) (v := .int kd m) (y := s.length) (code := .sliceAlen) rfl (by omega) (by omega) W
    simp [execOp, Instr.sliceAt, Instr.slice, Instr.sliceBounds, eval_opnd he hx, eval_opnd he hhi, T.undOk hu, str, str_size, hm, str_extract]
theorem Yld.sliceLo {P : Program} {n : Nat} {env : Env} {ops : Array Oper} {S : World → Prop} {ty : TypeId} {ps : String} {af : Array Edge} {g : Option (Nat × Bool)} {d : Nat} {x lo : Operand} {ts : TypeId} {s : List UInt8} {kd : IntKind} {j : Int} (T : Tab P) (hg : want env ops g = some true) (hu : T.und ts = some .string) (hx : opnd env x = some (str s))
    (hlo : opnd env lo = some (.int kd j)) (h0 : 0 ≤ j) (h1 : j ≤ s.length) : Yld P n env ops S ⟨some d, .slice ts x (some lo) none none, ty, ps, af, g⟩ (str (s.drop j.toNat)) :=
  Yld.val hg fun c W he _ => by
    have hj := run_sliceBound (P := P) (v := .int kd j) (y := s.length) (code := .sliceB) rfl h0 (by omega) W
    have ht : s.take s.length = s := List.take_length
    simp [execOp, Instr.sliceAt, Instr.slice, Instr.sliceBounds, eval_opnd he hx, eval_opnd he hlo, T.undOk hu, str, str_size, hj, str_extract, ht]
theorem Eff.lit {P : Program} {n : Nat} {C : Cx} {env : Env} {L : Own} {I : Imm} {ty : TypeId} {ps : String} {af : Array Edge} {g : Option (Nat × Bool)} {d : Nat} {K : Value → Own → Imm → Prop} {t e : TypeId} {len size : Nat} {xs : List (Nat × Operand)} {ps' : List (Nat × Value)} {z : Value} {cs : List Value} (T : Tab P)
    (hu : T.und t = some (.slice e)) (hz : T.zero e = some z) (hs : T.size e = some size) (hpos : 0 < size)
    (hlen : len * size ≤ 16777216) (hx : parts env xs = some ps') (hn : ps'.length = len) (hi : ps'.map Prod.fst = List.range' 0 len) (hsz : ps'.all (fun p => p.2.cells.size == size) = true) (hcs : (ps'.map Prod.snd).flatMap (fun v => v.cells.toList) = cs)
    (next : ∀ b, K (.slice (some ⟨b, 0, none⟩) len len) ((b, blk cs e) :: L) I) : Eff P n C env L I ⟨some d, .buildSlice t len xs.toArray, ty, ps, af, g⟩ K := by
  subst hn
  refine Eff.buildSlice (T.undOk hu) (T.zeroOk hz) (T.sizeOk hs) hlen hx ?_ next
  have h := Great.fill_whole hpos (ps'.map Prod.snd) ((Array.range (ps'.length * size)).map (z.cells[· % z.cells.size]!)) ?_ ?_
  · rw [zip_enum ps' 0 (by simpa using hi), hcs] at h; exact h
  · intro v hv
    obtain ⟨p, hp, rfl⟩ := List.mem_map.1 hv
    simpa using List.all_eq_true.1 hsz p hp
  · simp
theorem Ops.callVX {P : Program} {n : Nat} {C : Cx} {k : List Item} {env : Env} {L : Own} {I : Imm} {ops : Array Oper} {i : Nat} {l : List Oper} {ty : TypeId} {ps : String} {af : Array Edge} {g : Option (Nat × Bool)} {d : Nat} {f : FuncId} {x : Operand} {xs : List Operand} {ats : Array TypeId} {ws vs : List Value} {M N : Own} {R : Value → Imm → Own → Prop} (hs : Spec P f (vs ++ ws) I M R) (hL : L.Perm (M ++ N)) (hg : want env ops g = some true) (hd : d < n)
    (hc : ∀ args w, (callFunc f args).run P w = .ok (.enter f args) w) (hf : opnd env x = some (.func (.func f) #[] ws.toArray)) (hx : opnds env xs = some vs) (next : ∀ v J M', Le I J → R v J M' → Ops P n C ops (i + 1) l k ((d, v) :: env) (M' ++ N) J) :
    Ops P n C ops i (⟨some d, .call ⟨.value x, xs.toArray, ats⟩, ty, ps, af, g⟩ :: l) k env L I :=
  Ops.callW hg (dOk hd) (fun a W he => run_callV (fs := []) hc he hf hx) hL (by simpa using hs) next
end Go.V
namespace Go.V
open Go.RowKit
set_option linter.unusedVariables false
set_option linter.unusedSimpArgs false
section
variable {P : Program} {n : Nat} {C : Cx} {k : List Item} {env : Env} {L : Own} {I : Imm}
theorem Run.ret4 {fn : Func} {t u s r : Nat} {v x y z : Value} {todo : List Item} (hfn : P.funcs[C.f]? = some fn) (hres : fn.results = #[.tmp t, .tmp u, .tmp s, .tmp r]) (hv : look env t = some v) (hx : look env u = some x) (hy : look env s = some y) (hz : look env r = some z)
    (h : C.R (.tuple #[v, x, y, z]) I L) : Run P n C (.code .ret :: todo) env L I :=
  Run.ret hfn (fun a W he _ => by
    have e1 := he.at_ _ _ hv
    have e2 := he.at_ _ _ hx
    have e3 := he.at_ _ _ hy
    have e4 := he.at_ _ _ hz
    simp [results, hres, e1, e2, e3, e4]) h
theorem Run.ret5 {fn : Func} {t u s r q : Nat} {v x y z o : Value} {todo : List Item} (hfn : P.funcs[C.f]? = some fn) (hres : fn.results = #[.tmp t, .tmp u, .tmp s, .tmp r, .tmp q]) (hv : look env t = some v) (hx : look env u = some x) (hy : look env s = some y) (hz : look env r = some z) (ho : look env q = some o)
    (h : C.R (.tuple #[v, x, y, z, o]) I L) : Run P n C (.code .ret :: todo) env L I :=
  Run.ret hfn (fun a W he _ => by
    have e1 := he.at_ _ _ hv
    have e2 := he.at_ _ _ hx
    have e3 := he.at_ _ _ hy
    have e4 := he.at_ _ _ hz
    have e5 := he.at_ _ _ ho
    simp [results, hres, e1, e2, e3, e4, e5]) h
theorem Run.retCTT (T : Tab P) (j : Nat) {fn : Func} {t u s b m : Nat} {x y : Value} {vs cs : List Value} {rt t' : TypeId} {todo : List Item} (hfn : P.funcs[C.f]? = some fn) (hres : fn.results = #[.cell t rt, .tmp u, .tmp s]) (hp : look env t = some (.pointer (some ⟨b, 0, none⟩)))
    (hL : L[j]? = some (b, blk cs t')) (ha : T.agg rt = some true) (hs : T.size rt = some m) (hv : (cs.drop 0).take m = vs) (hm : vs.length = m) (hu : look env u = some x) (hy : look env s = some y) (h : C.R (.tuple #[.agg vs.toArray, x, y]) I []) : Run P n C (.code .ret :: todo) env L I := by
  intro bb a cs' W hb hk he hi
  have hr : (results fn a.tmps).run P W = .ok (.tuple #[.agg vs.toArray, x, y]) W := by
    have h1 := run_cellN T hi hL ha hs hv hm
    have hp' := he.at_ _ _ hp
    have e1 := he.at_ _ _ hu
    have e2 := he.at_ _ _ hy
    simp [results, hres, hp', e1, e2, asAddr, h1]
  exact ⟨.returned (.tuple #[.agg vs.toArray, x, y]), W, _, ⟨_, I, [], rfl, h, hi.weakenL (List.nil_sublist _)⟩, Steps.one step_ret, hb, rfl, he.defers, hk, fn, by simpa [Frame.at, hb] using hfn, hr⟩
end
theorem Pure.ofBelow {P : Program} {f : FuncId} {args : List Value} {I : Imm} {v : Value} (h : ∀ w, Fits I [] w → Calls P f args.toArray w fun e w' => e = .returned v ∧ Below w.heap.size w w') : Pure P f args I fun x J => x = v ∧ J = I := by
  intro w0 hfit
  refine (h w0 hfit).mono ?_
  rintro e w' ⟨rfl, hb⟩
  refine ⟨v, I, [], rfl, ⟨rfl, rfl, rfl⟩, hb.os, hb.tape, hb.output, hb.size, fun b h _ => hb.block b h, ⟨fun b o h => ?_, (fun b o h => absurd h List.not_mem_nil), (fun b o h => absurd h List.not_mem_nil), hfit.nd⟩, Le.refl _, fun _ _ h => .inl h, fun b o h => absurd h List.not_mem_nil⟩
  have h0 := hfit.imm b o h
  rw [hb.block b (Array.getElem?_eq_some_iff.1 h0).1]
  exact h0
end Go.V
namespace Go.V
open Go.RowKit
set_option linter.unusedVariables false
set_option linter.unusedSimpArgs false
def reachB (md : Region.Mode) (ops : Array Oper) : Nat → Nat → Nat → Bool
  | 0, _, _ => false
  | f + 1, t, i => match ops[t]? with
    | none => false
    | some o => o.after.toList.any fun e => Region.binds md e && (Nat.beq e.on i || (Nat.blt i e.on && reachB md ops f e.on i))
def tailsB (md : Region.Mode) (ops : Array Oper) (ms : List Bool) : Bool := (List.range ops.size).all fun t => ms.getD t false || (List.range ops.size).all fun i => !(ms.getD i false) || reachB md ops ops.size t i
def headB (md : Region.Mode) (ops : Array Oper) : List Bool → Nat → List Bool → Option (List Bool)
  | [], _, l => some l
  | false :: ms, j, l => headB md ops ms (j + 1) l
  | true :: ms, j, l => if (Region.ready md ops l.toArray).contains j && Region.free md ops l.toArray j then headB md ops ms (j + 1) (l.set j true) else none
def quietB (md : Region.Mode) (ops : Array Oper) (ms : List Bool) (lm : List Bool) : Bool :=
  Region.noSelect ops && Nat.ble ms.length ops.size && tailsB md ops ms && (headB md ops ms 0 (List.replicate ops.size false) == some lm) && ((List.range ops.size).all fun i => !(ms.getD i false) || lm.getD i false)
def trues (ms : List Bool) : Nat := (ms.filter id).length
structure Cl (md : Region.Mode) (ops : Array Oper) (listed : Array Bool) : Prop where
  size : listed.size = ops.size
  closed : ∀ (j : Nat) oj, ops[j]? = some oj → listed.getD j false = true → ∀ e ∈ oj.after, Region.binds md e = true → listed.getD e.on false = true
theorem Cl.set {md : Region.Mode} {ops : Array Oper} {listed : Array Bool} {i : Nat} (h : Cl md ops listed) (hi : i ∈ Region.ready md ops listed) : Cl md ops (listed.setIfInBounds i true) := by
  obtain ⟨_, oi, hoi, hall⟩ := mem_ready.1 hi
  refine ⟨by simp [h.size], fun j oj hj hl e he hb => ?_⟩
  by_cases hij : i = j
  · subst hij
    obtain rfl : oj = oi := Option.some.inj (hj.symm.trans hoi)
    exact getD_set_true (hall e he hb)
  · rw [getD_set_ne false hij] at hl
    exact getD_set_true (h.closed j oj hj hl e he hb)
theorem reach_listed {md : Region.Mode} {ops : Array Oper} {listed : Array Bool} (h : Cl md ops listed) : ∀ (f t i : Nat), (∀ o, ops[t]? = some o → ∀ e ∈ o.after, Region.binds md e = true → listed.getD e.on false = true) →
    reachB md ops f t i = true → listed.getD i false = true
  | 0, t, i, _, hr => by cases hr
  | f + 1, t, i, hp, hr => by
    simp only [reachB] at hr
    split at hr
    · cases hr
    · rename_i o ho
      obtain ⟨e, he, hb⟩ := List.any_eq_true.1 hr
      simp only [Bool.and_eq_true, Bool.or_eq_true] at hb
      have he' : e ∈ o.after := by simpa using he
      have h1 := hp o ho e he' hb.1
      rcases hb.2 with h2 | ⟨_, h2⟩
      · rw [← Nat.eq_of_beq_eq_true h2]; exact h1
      · exact reach_listed h f e.on i (fun o' ho' e' he'' hb' => h.closed e.on o' ho' h1 e' he'' hb') h2
theorem ready_head {md : Region.Mode} {ops : Array Oper} {listed : Array Bool} {ms : List Bool} {i : Nat} (h : Cl md ops listed) (ht : tailsB md ops ms = true) (hi : ms.getD i false = true) (his : i < ops.size) (hun : listed.getD i true = false) : ∀ t ∈ Region.ready md ops listed, ms.getD t false = true := by
  intro t hr
  cases htm : ms.getD t false with
  | true => rfl
  | false =>
    exfalso
    obtain ⟨_, ot, hot, hall⟩ := mem_ready.1 hr
    have htlt : t < ops.size := (Array.getElem?_eq_some_iff.1 hot).1
    have h1 := List.all_eq_true.1 ht t (List.mem_range.2 htlt)
    rw [htm, Bool.false_or] at h1
    have h2 := List.all_eq_true.1 h1 i (List.mem_range.2 his)
    rw [hi, Bool.not_true, Bool.false_or] at h2
    have h3 := reach_listed h _ _ _ (fun o ho e he hb => by
      obtain rfl : o = ot := Option.some.inj (ho.symm.trans hot)
      exact hall e he hb) h2
    rw [getD_both hun] at h3
    cases h3
def wpHead (P : Program) (md : Region.Mode) (ops : Array Oper) (S : World → Prop) (m : List Bool) (G : Array Bool → Act → Prop) : Nat → Array Bool → Act → Prop
  | 0, listed, a => G listed a
  | f + 1, listed, a => Region.ready md ops listed ≠ [] ∧ ∀ i ∈ Region.ready md ops listed, m.getD i false = true ∧ qOp P ops S i (wpHead P md ops S m G f (listed.setIfInBounds i true)) a
theorem wpAny_of_wpHead {P : Program} {md : Region.Mode} {ops : Array Oper} {S : World → Prop} {m : List Bool} {g : Nat} {G : Array Bool → Act → Prop} {Q' : Exit → Act → World → Prop} (hG : ∀ listed a w, S w → G listed a → wpAny P md ops Q' g listed a w) :
    ∀ (f : Nat) (listed : Array Bool) (a : Act) (w : World), S w → wpHead P md ops S m G f listed a → wpAny P md ops Q' (f + g) listed a w
  | 0, listed, a, w, hw, h => by rw [Nat.zero_add]; exact hG _ _ _ hw h
  | f + 1, listed, a, w, hw, h => by
    rw [show f + 1 + g = (f + g) + 1 by omega]
    exact ⟨fun h0 => absurd h0 h.1, fun i hi => wpOp_of_qOp hw (fun a' w' hw' => wpAny_of_wpHead hG f _ a' w' hw') (h.2 i hi).2⟩
theorem wpHead_first {P : Program} {md : Region.Mode} {ops : Array Oper} {S : World → Prop} {m : List Bool} {i : Nat} {oi : Oper} {v : Value} {G : Array Bool → Act → Prop} (hi : ops[i]? = some oi) (hsel : ∀ (j : Nat) (o : Oper) cs b, ops[j]? = some o → o.op ≠ .select cs b)
    (ht : tailsB md ops m = true) (him : m.getD i false = true) (hdone : ∀ listed a, G listed a → ∀ j, j < ops.size → m.getD j false = true → listed.getD j true = true) :
    ∀ (f : Nat) (listed : Array Bool) (a : Act), Cl md ops listed →
      (∀ j oj, ops[j]? = some oj → j ≠ i → listed.getD j true = false → (∀ e ∈ oj.after, Region.binds md e = true → e.on ≠ i) → oi.apart ops oj = true) →
      i ∈ Region.ready md ops listed → YieldsIn P ops S oi v a →
      wpHead P md ops S m G f (listed.setIfInBounds i true) (a.put oi.dst v) → wpHead P md ops S m G (f + 1) listed a := by
  intro f
  induction f with
  | zero =>
    intro listed a inv _ hr hy H
    have hun := (mem_ready.1 hr).1
    refine ⟨fun h => (by rw [h] at hr; cases hr), fun j hj => ?_⟩
    have hjn := ready_head inv ht him (Array.getElem?_eq_some_iff.1 hi).1 hun j hj
    refine ⟨hjn, ?_⟩
    by_cases hji : j = i
    · subst hji; exact hy.qOp hi H
    · obtain ⟨_, oj, hoj, _⟩ := mem_ready.1 hj
      have h1 := hdone _ _ H j (Array.getElem?_eq_some_iff.1 hoj).1 hjn
      rw [getD_set_ne true (Ne.symm hji), (mem_ready.1 hj).1] at h1
      cases h1
  | succ f ih =>
    intro listed a inv hfree hr hy H
    have hun := (mem_ready.1 hr).1
    refine ⟨fun h => (by rw [h] at hr; cases hr), fun j hj => ?_⟩
    have hjn := ready_head inv ht him (Array.getElem?_eq_some_iff.1 hi).1 hun j hj
    refine ⟨hjn, ?_⟩
    by_cases hji : j = i
    · subst hji; exact hy.qOp hi H
    · have h1 := (H.2 j (ready_mono hj hji)).2
      obtain ⟨hjun, oj, hoj, hall⟩ := mem_ready.1 hj
      have hnot : ∀ e ∈ oj.after, Region.binds md e = true → e.on ≠ i := fun e he hb heq => by
        have h1 := hall e he hb
        rw [heq, getD_both hun] at h1
        cases h1
      have h2 := qOp_put hoj (hfree j oj hoj hji hjun hnot) (fun cs b => hsel i oi cs b hi) (fun cs b => hsel j oj cs b hoj) hy h1
      have hfree' : ∀ k ok, ops[k]? = some ok → k ≠ i → (listed.setIfInBounds j true).getD k true = false →
          (∀ e ∈ ok.after, Region.binds md e = true → e.on ≠ i) → oi.apart ops ok = true := fun k ok hk hki hkun hno => by
        refine hfree k ok hk hki ?_ hno
        by_cases hjk : j = k
        · subst hjk; exact hjun
        · rw [getD_set_ne true hjk] at hkun; exact hkun
      refine qOp_mono (fun a' h3 => ih (listed.setIfInBounds j true) a' (inv.set hj) hfree' (ready_mono hr (Ne.symm hji)) h3.1 ?_) h2
      rw [Array.setIfInBounds_comm _ _ hji]
      exact h3.2
section
variable {P : Program} {n : Nat} {C : Cx} {k : List Item} {env : Env} {L : Own} {I : Imm} {ops : Array Oper} {i : Nat} {l : List Oper} {o : Oper}
variable {ty : TypeId} {ps : String} {af : Array Edge} {g : Option (Nat × Bool)} {d : Nat}
def wantD (env : Env) (D : List (Option Nat)) : Option (Nat × Bool) → Option Bool
  | none => some true
  | some (j, b) =>
    match (D[j]?).getD none with
    | some d => match look env d with
      | some (.bool t) => some (t == b)
      | some (.tuple vs) => if vs.toList.isEmpty then some false else none
      | _ => none
    | none => none
theorem wantD_spec {D : List (Option Nat)} {o : Oper} {r : Bool} {a : Act} (hD : ops.toList.map (·.dst) = D) (he : EnvOk n env a) (h : wantD env D o.guard = some r) : Region.wanted o (yielded ops a.tmps) = r := by
  unfold wantD at h
  split at h
  · rename_i hg
    simp only [Region.wanted, hg]
    simpa using h
  · rename_i j b hg
    have hj : (ops[j]?).bind (·.dst) = (D[j]?).getD none := by
      subst hD
      rw [List.getElem?_map, Array.getElem?_toList]
      cases ops[j]? <;> rfl
    split at h
    · rename_i d hd
      rw [hd] at hj
      split at h
      · rename_i t ht
        simp only [Region.wanted, hg, yielded, hj, Option.bind_some, he.at_ _ _ ht]
        cases h
        cases t <;> cases b <;> rfl
      · rename_i vs hv
        split at h
        · cases h
          simp only [Region.wanted, hg, yielded, hj, Option.bind_some, he.at_ _ _ hv]
          rfl
        · cases h
      · cases h
    · cases h
def QD (P : Program) (n : Nat) (C : Cx) (D : List (Option Nat)) (L : Own) (I : Imm) (Z : Env → Prop) : List Bool → List Oper → Env → Prop
  | [], _, env => Z env
  | _ :: _, [], _ => False
  | false :: ms, _ :: r, env => QD P n C D L I Z ms r env
  | true :: ms, o :: r, env => ∃ v, (∀ t, o.dst = some t → t < n) ∧ (∀ ops : Array Oper, ops.toList.map (·.dst) = D → ∀ a, EnvOk n env a → YieldsIn P ops (fun W => Inv C.w0 C.I0 C.L0 I L W) o v a) ∧ QD P n C D L I Z ms r (V.put env o.dst v)
theorem QD.nil {D : List (Option Nat)} {Z : Env → Prop} (h : Z env) : QD P n C D L I Z [] l env := h
theorem list_set_toArray (l : List Bool) (j : Nat) : (l.set j true).toArray = l.toArray.setIfInBounds j true := by
  apply Array.ext'; simp
theorem wpHead_lex {D : List (Option Nat)} {Z : Env → Prop} {mm : List Bool} {lm : List Bool} (hD : ops.toList.map (·.dst) = D) (hsel : Region.noSelect ops = true) (ht : tailsB .any ops mm = true) (hlm : ((List.range ops.size).all fun i => !(mm.getD i false) || lm.getD i false) = true) :
    ∀ (ms : List Bool) (j : Nat) (l : List Oper) (listed : List Bool) (env : Env) (a : Act), (∀ q, l[q]? = ops[j + q]?) → (∀ q, ms.getD q false = true → mm.getD (j + q) false = true) → Cl .any ops listed.toArray →
    headB .any ops ms j listed = some lm → QD P n C D L I Z ms l env → EnvOk n env a →
    wpHead P .any ops (fun W => Inv C.w0 C.I0 C.L0 I L W) mm (fun listed' a' => listed' = lm.toArray ∧ ∃ env', EnvOk n env' a' ∧ Z env') (trues ms) listed.toArray a
  | [], j, l, listed, env, a, _, _, _, hB, h, he => by
    simp only [headB, Option.some.injEq] at hB
    subst hB
    exact ⟨rfl, env, he, h⟩
  | m :: ms, j, [], listed, env, a, hl, hj, inv, hB, h, he => by
    cases m <;> exact h.elim
  | false :: ms, j, o :: l, listed, env, a, hl, hj, inv, hB, h, he => by
    refine wpHead_lex hD hsel ht hlm ms (j + 1) l listed env a (fun q => ?_) (fun q hq => ?_) inv hB h he
    · have := hl (q + 1)
      simpa [Nat.add_assoc, Nat.add_comm 1 q] using this
    · have := hj (q + 1) hq
      rwa [show j + (q + 1) = j + 1 + q by omega] at this
  | true :: ms, j, o :: l, listed, env, a, hl, hj, inv, hB, h, he => by
    have h0 : ops[j]? = some o := by simpa using (hl 0).symm
    have hjm : mm.getD j false = true := hj 0 rfl
    simp only [headB] at hB
    split at hB
    · rename_i hc
      simp only [Bool.and_eq_true] at hc
      obtain ⟨v, hd, hy, hK⟩ := h
      have hr' : j ∈ Region.ready .any ops listed.toArray := by simpa using hc.1
      refine wpHead_first h0 (Region.noSelect_spec hsel) ht hjm (fun listed' a' hL q hqs hq => ?_) (trues ms) listed.toArray a inv (Region.free_spec h0 hc.2) hr' (hy ops hD a he) ?_
      · obtain ⟨rfl, _⟩ := hL
        have := List.all_eq_true.1 hlm q (List.mem_range.2 hqs)
        rw [hq, Bool.not_true, Bool.false_or] at this
        simp only [List.getD_eq_getElem?_getD] at this
        cases hlq : lm[q]? with
        | none => rw [hlq] at this; cases this
        | some b => rw [hlq] at this; simp only [Option.getD_some] at this; subst this; simp [hlq]
      · rw [← list_set_toArray]
        refine wpHead_lex hD hsel ht hlm ms (j + 1) l (listed.set j true) _ _ (fun q => ?_) (fun q hq => ?_) (by rw [list_set_toArray]; exact inv.set hr') hB hK (he.put hd)
        · have := hl (q + 1)
          simpa [Nat.add_assoc, Nat.add_comm 1 q] using this
        · have := hj (q + 1) hq
          rwa [show j + (q + 1) = j + 1 + q by omega] at this
    · cases hB
theorem cl_none (ops : Array Oper) : Cl .any ops (List.replicate ops.size false).toArray :=
  ⟨by simp, fun j oj hj hl => by
    exfalso
    simp only [Array.getD_eq_getD_getElem?, List.getElem?_toArray, List.getElem?_replicate] at hl
    split at hl <;> simp at hl⟩
theorem Run.regionT {id : Nat} {l : List Oper} {D : List (Option Nat)} (S : World → Prop) (ms : List Bool) (lm : List Bool) (fuel : Nat) (hm : P.follows .mixedOrders = true) (hB : quietB .any l.toArray ms lm = true) (hf : Nat.beq (trues ms + fuel) l.length = true) (hD : l.map (·.dst) = D)
    (h : ∀ Z : Env → Prop, (∀ e, RAny P n C l.toArray S k fuel lm e L I → Z e) → QD P n C D L I Z ms l env) : Run P n C (.code (.region id l.toArray true) :: k) env L I := by
  have head := h _ fun _ h => h
  intro b a cs W hb hk he hi
  simp only [quietB, Bool.and_eq_true, beq_iff_eq] at hB
  obtain ⟨⟨⟨⟨hsel, hms⟩, ht⟩, hhead⟩, hlm⟩ := hB
  have hw : (Code.region id l.toArray true).wp P (Qk P n C k) a W := by
    refine wp_region_any hm ?_
    have H := wpHead_lex (P := P) (n := n) (C := C) (L := L) (I := I) (ops := l.toArray) (D := D) (by simpa using hD) hsel ht hlm ms 0 l (List.replicate l.toArray.size false) env a (fun q => by simp) (fun q hq => by rwa [Nat.zero_add]) (cl_none _) hhead head he
    have := wpAny_of_wpHead (Q' := Qk P n C k) (g := fuel) (fun listed a' w hw hG => by
      obtain ⟨rfl, env', he', hz⟩ := hG
      exact wpAny_of_held _ _ _ _ (hz a' w he' hw)) _ _ _ _ hi.drew H
    rw [show trues ms + fuel = l.toArray.size by have := Nat.eq_of_beq_eq_true hf; simpa using this] at this
    have e : (List.replicate l.toArray.size false).toArray = Array.replicate l.toArray.size false := by apply Array.ext'; simp
    rw [e] at this
    exact this
  obtain ⟨e, a', W', hq, harr⟩ := hw b k cs
  cases e with
  | normal =>
    obtain ⟨env', L', I', he', hi', hrun⟩ := hq
    obtain ⟨e, W2, fr, h1, h2, h3⟩ := hrun b a' cs W' hb hk he' hi'
    exact ⟨e, W2, fr, h1, Comes.of_steps harr h2, h3⟩
  | _ => exact hq.elim
theorem Run.regionQ {id : Nat} {l : List Oper} {D : List (Option Nat)} (ms : List Bool) (lm : List Bool) (hm : P.follows .mixedOrders = true) (hB : quietB .any l.toArray ms lm = true) (hf : Nat.beq (trues ms + 0) l.length = true) (hr : Region.ready .any l.toArray lm.toArray = []) (hD : l.map (·.dst) = D)
    (h : ∀ Z : Env → Prop, (∀ e, Run P n C k e L I → Z e) → QD P n C D L I Z ms l env) : Run P n C (.code (.region id l.toArray true) :: k) env L I :=
  Run.regionT (fun _ => True) ms lm 0 hm hB hf hD fun Z hZ => h Z fun e he => hZ e (RAny.done _ hr he)
theorem Ops.quiet {D : List (Option Nat)} {Z : Env → Prop} (hD : ops.toList.map (·.dst) = D) : ∀ (ms : List Bool) (hms : ms.all id = true) (i : Nat) (l : List Oper) (env : Env), QD P n C D L I Z ms l env → (∀ e, Z e → Ops P n C ops (i + ms.length) (l.drop ms.length) k e L I) → Ops P n C ops i l k env L I
  | [], _, i, l, env, h, next => next env h
  | m :: ms, _, i, [], env, h, next => by cases m <;> exact h.elim
  | false :: ms, hms, i, o :: l, env, h, next => by simp at hms
  | true :: ms, hms, i, o :: l, env, h, next => by
    obtain ⟨v, hd, hy, hK⟩ := h
    have ih := Ops.quiet hD ms (by simpa using hms) (i + 1) l _ hK (fun e he => by have := next e he; simp only [List.length_cons, List.drop_succ_cons] at this; rwa [show i + 1 + ms.length = i + (ms.length + 1) by omega])
    intro hl
    obtain ⟨ho, hl'⟩ := Ops.head hl
    intro b a cs W hb hk he hi
    rcases hy ops hD a he with ⟨hw, hq⟩ | ⟨hw, rfl⟩
    · have hqW := hq W hi
      unfold Oper.quietAt at hqW
      have fin : ∀ W', Inv C.w0 C.I0 C.L0 I L W' → Steps P (lone (b.at a (.inRegion ops (i :: List.range' (i + 1) l.length) :: k)) cs W) (lone (b.at (a.put o.dst v) (.inRegion ops (List.range' (i + 1) l.length) :: k)) cs W') →
          ∃ e W'' fr, Ends C.w0 C.I0 C.L0 C.R e W'' ∧ Comes P (lone (b.at a (.inRegion ops (List.range' i (o :: l).length) :: k)) cs W) (lone fr cs W'') e ∧ fr.fn = C.f ∧ fr.leaving P W'' e := fun W' hi' hs => by
        obtain ⟨e, W2, fr, h1, h2, h3⟩ := ih hl' b _ cs W' hb hk (he.put hd) hi'
        refine ⟨e, W2, fr, h1, Comes.of_steps ?_ h2, h3⟩
        simpa [List.range'_succ] using hs
      generalize hr : (execOp a.eval o).run P W = r at hqW
      cases r with
      | ok nx w' =>
        cases nx <;> simp only [Oper.quietUpon] at hqW
        case value u =>
          obtain ⟨rfl, rfl⟩ := hqW
          exact fin _ hi (steps_value ho hw hr)
        case skip =>
          obtain ⟨rfl, rfl⟩ := hqW
          exact fin _ hi (steps_skip ho hw hr)
        case enter f args =>
          obtain ⟨rfl, hc⟩ := hqW
          obtain ⟨v', W2, ⟨hv, hi2⟩, hs⟩ := steps_call (k := k) (b := b) (cs := cs) (rest := List.range' (i + 1) l.length) ho hw hr hc (fun e w'' ⟨he, _⟩ => ⟨v, he⟩)
          cases hv
          exact fin _ hi2 hs
      | halt x w' => simp only [Oper.quietUpon] at hqW
    · have hs := step_op_skip (P := P) (b := b) (a := a) (k := k) (cs := cs) (w := W) (ops := ops) (i := i) (rest := List.range' (i + 1) l.length) (by simp [ho, hw])
      simp only [ho, Option.bind_some] at hs
      obtain ⟨e, W', fr, h1, h2, h3⟩ := ih hl' b _ cs W hb hk (he.put hd) hi
      refine ⟨e, W', fr, h1, Comes.of_steps (.one ?_) h2, h3⟩
      simpa [List.range'_succ] using hs
theorem Run.regionP {id : Nat} {l l2 : List Oper} {D : List (Option Nat)} (ms : List Bool) (m : Nat) (hms : ms.all (fun b => b) = true) (hml : ms.length = m) (hD : l.map (·.dst) = D) (hl : l.drop m = l2) (h : ∀ Z : Env → Prop, (∀ e, Ops P n C l.toArray m l2 k e L I → Z e) → QD P n C D L I Z ms l env) :
    Run P n C (.code (.region id l.toArray false) :: k) env L I := by
  subst hl; subst hml
  exact Run.region (Ops.quiet (by simpa using hD) ms hms 0 l env (h _ fun _ h => h) fun e he => by simpa using he)
theorem Run.regionO {id : Nat} {l : List Oper} {D : List (Option Nat)} (ms : List Bool) (hms : ms.all (fun b => b) = true) (hD : l.map (·.dst) = D) (hm : l.length = ms.length) (h : ∀ Z : Env → Prop, (∀ e, Run P n C k e L I → Z e) → QD P n C D L I Z ms l env) :
    Run P n C (.code (.region id l.toArray false) :: k) env L I :=
  Run.regionP ms ms.length hms rfl hD (by rw [← hm]; exact List.drop_length) fun Z hZ => h Z fun e he => hZ e (Ops.nil he)
variable {D : List (Option Nat)} {Z : Env → Prop} {m : List Bool} {r : List Oper}
def Yv (P : Program) (n : Nat) (env : Env) (S : World → Prop) (op : Op) (v : Value) : Prop := ∀ a W, EnvOk n env a → S W → ∀ dst ty ps af g, (execOp a.eval ⟨dst, op, ty, ps, af, g⟩).run P W = .ok (.value v) W
theorem QD.yv {op : Op} {v : Value} (hd : d < n) (hg : wantD env D g = some true) (hy : Yv P n env (Holds I L) op v) (next : QD P n C D L I Z m r ((d, v) :: env)) : QD P n C D L I Z (true :: m) (⟨some d, op, ty, ps, af, g⟩ :: r) env :=
  ⟨v, dOk hd, fun ops hD a he => .inl ⟨wantD_spec hD he hg, fun W hi => by
      unfold Oper.quietAt
      rw [hy a W he (hi.holds (Le.refl _) fun _ h => h)]
      exact ⟨rfl, rfl⟩⟩, next⟩
theorem QD.ev {op : Op} {v : Value} (T : Tab P) (hd : d < n) (hg : wantD env D g = some true) (h : evalOp T env op = some v) (next : QD P n C D L I Z m r ((d, v) :: env)) : QD P n C D L I Z (true :: m) (⟨some d, op, ty, ps, af, g⟩ :: r) env :=
  QD.yv hd hg (fun a W he _ _ _ _ _ _ => evalOp_ok h he W) next
theorem QD.off {op : Op} (hd : d < n) (hg : wantD env D g = some false) (next : QD P n C D L I Z m r ((d, undef) :: env)) : QD P n C D L I Z (true :: m) (⟨some d, op, ty, ps, af, g⟩ :: r) env :=
  ⟨undef, dOk hd, fun ops hD a he => .inr ⟨wantD_spec hD he hg, rfl⟩, next⟩
theorem QD.callW {op : Op} {f : FuncId} {args : List Value} {v : Value} (hd : d < n) (hg : wantD env D g = some true)
    (hr : ∀ a W, EnvOk n env a → (execOp a.eval ⟨some d, op, ty, ps, af, g⟩).run P W = .ok (.enter f args.toArray) W) (hs : Pure P f args I fun w J => w = v ∧ J = I)
    (next : QD P n C D L I Z m r ((d, v) :: env)) : QD P n C D L I Z (true :: m) (⟨some d, op, ty, ps, af, g⟩ :: r) env :=
  ⟨v, dOk hd, fun ops hD a he => .inl ⟨wantD_spec hD he hg, fun W hi => by
    unfold Oper.quietAt
    rw [hr a W he]
    refine ⟨rfl, ?_⟩
    have hE : Eff P n C env L I ⟨some d, op, ty, ps, af, g⟩ fun w L1 I1 => w = v ∧ L1 = L ∧ I1 = I :=
      Eff.callW (M := []) (N := L) hr (.refl _) hs fun w J M' hle ⟨hM, hw, hJ⟩ => ⟨hw, by rw [hM]; rfl, hJ⟩
    rcases hE a W he hi with ⟨v1, W1, L1, I1, h1, _⟩ | ⟨f', args', h1, h2⟩
    · exfalso
      rw [hr a W he] at h1
      rcases h1 with h1 | ⟨h1, _⟩ <;> cases h1
    · rw [hr a W he] at h1
      cases h1
      exact h2.mono fun e W' ⟨w, L1, I1, e1, e2, e3, e4, e5⟩ => ⟨by rw [e1, e3], by rw [← e4, ← e5]; exact e2⟩⟩, next⟩
theorem Pure.keeps {f : FuncId} {args : List Value} {v : Value} (h : Pure P f args I fun w J => w = v) : Pure P f args I fun w J => w = v ∧ J = I := by
  intro w0 hf
  refine (h w0 hf).mono ?_
  rintro e W ⟨v', J, M, rfl, ⟨rfl, rfl⟩, hi⟩
  exact ⟨_, I, [], rfl, ⟨rfl, rfl, rfl⟩, { hi with fits := ⟨fun b o hb => hi.fits.imm b o (hi.ext b o hb), hi.fits.own, fun b o hm => by simp at hm, hi.fits.nd⟩, ext := Le.refl _, newI := fun b o hb => .inl hb }⟩
theorem QD.call {f : FuncId} {xs : List Operand} {ats : Array TypeId} {vs : List Value} {v : Value} (hs : Pure P f vs I fun w J => w = v) (hd : d < n) (hg : wantD env D g = some true)
    (hc : ∀ args w, (callFunc f args).run P w = .ok (.enter f args) w) (hx : opnds env xs = some vs)
    (next : QD P n C D L I Z m r ((d, v) :: env)) : QD P n C D L I Z (true :: m) (⟨some d, .call ⟨.value (.func f), xs.toArray, ats⟩, ty, ps, af, g⟩ :: r) env :=
  QD.callW hd hg (fun a W he => run_callF hc he hx) hs.keeps next
theorem Yv.load {J : Imm} {M : Own} {t : TypeId} {x : Operand} {b off : Nat} {v : Value} (j : Nat) {cs : List Value} {t' : TypeId} (T : Tab P) (hx : opnd env x = some (.pointer (some ⟨b, off, none⟩)))
    (hM : M[j]? = some (b, blk cs t')) (ha : T.agg t = some false) (hv : cs[off]? = some v) : Yv P n env (Holds J M) (.load t x) v :=
  fun a W he hS _ _ _ _ _ => by simp [execOp, Instr.loadAt, Instr.sureAddr, eval_opnd he hx, run_loadVar1 (T.aggOk ha) (hS.own j hM hv)]
theorem Yv.loadI {J : Imm} {M : Own} {t : TypeId} {x : Operand} {b off : Nat} {v : Value} (T : Tab P) (hA : At J b off [v]) (hx : opnd env x = some (.pointer (some ⟨b, off, none⟩)))
    (ha : T.agg t = some false) : Yv P n env (Holds J M) (.load t x) v :=
  fun a W he hS _ _ _ _ _ => by simp [execOp, Instr.loadAt, Instr.sureAddr, eval_opnd he hx, run_loadVar1 (T.aggOk ha) (by simpa using hS.cell hA 0 v rfl)]
theorem Yv.loadN {J : Imm} {M : Own} {t : TypeId} {x : Operand} {b off q : Nat} {vs : List Value} (j : Nat) {cs : List Value} {t' : TypeId} (T : Tab P) (hx : opnd env x = some (.pointer (some ⟨b, off, none⟩)))
    (hM : M[j]? = some (b, blk cs t')) (ha : T.agg t = some true) (hs : T.size t = some q) (hv : (cs.drop off).take q = vs) (hm : vs.length = q) : Yv P n env (Holds J M) (.load t x) (.agg vs.toArray) :=
  fun a W he hS _ _ _ _ _ => by
    have hc : ∀ j v, vs[j]? = some v → W.cell? ⟨b, off + j, none⟩ = some v := fun q v h => by
      rw [cell_blk (hS.2 b _ (List.mem_of_getElem? hM))]
      rw [← hv, List.getElem?_take] at h
      split at h
      · simpa using h
      · cases h
    simp [execOp, Instr.loadAt, Instr.sureAddr, eval_opnd he hx, run_loadVarN (T.aggOk ha) (T.sizeOk hs) hm hc]
theorem Eff.yv {op : Op} {v : Value} {K : Value → Own → Imm → Prop} (hy : Yv P n env (Holds I L) op v) (next : K v L I) : Eff P n C env L I ⟨some d, op, ty, ps, af, g⟩ K :=
  Eff.valW fun a W he hi => ⟨v, W, L, I, .inl (hy a W he (hi.holds (Le.refl _) fun _ h => h) _ _ _ _ _), hi, next⟩
theorem Yld.yv {S : World → Prop} {op : Op} {v : Value} (hg : want env ops g = some true) (hy : ∀ W, S W → Holds I L W) (h : Yv P n env (Holds I L) op v) : Yld P n env ops S ⟨some d, op, ty, ps, af, g⟩ v :=
  .inl ⟨hg, fun a W he hS => h a W he (hy W hS) _ _ _ _ _⟩
end
end Go.V
namespace Go.V
open Go.RowKit
set_option linter.unusedVariables false
set_option linter.unusedSimpArgs false
def Ev (P : Program) (n : Nat) (env : Env) (op : Op) (v : Value) : Prop := ∀ (a : Act) (W : World), EnvOk n env a → ∀ dst ty ps af g, (execOp a.eval ⟨dst, op, ty, ps, af, g⟩).run P W = .ok (.value v) W
abbrev w8v (a : UInt8) : Value := .int .u8 (a.toNat : Int)
section
variable {P : Program} {n : Nat} {C : Cx} {k : List Item} {env : Env} {L : Own} {I : Imm} {ops : Array Oper} {i : Nat} {l : List Oper} {S : World → Prop}
variable {ty : TypeId} {ps : String} {af : Array Edge} {g : Option (Nat × Bool)} {d : Nat}
theorem Ops.ev {op : Op} {v : Value} (h : Ev P n env op v) (hg : want env ops g = some true) (hd : d < n) (next : Ops P n C ops (i + 1) l k ((d, v) :: env) L I) : Ops P n C ops i (⟨some d, op, ty, ps, af, g⟩ :: l) k env L I :=
  Ops.val hg (dOk hd) (fun a W he _ => h a W he _ _ _ _ _) next
theorem Yld.ev {op : Op} {v : Value} (h : Ev P n env op v) (hg : want env ops g = some true) : Yld P n env ops S ⟨some d, op, ty, ps, af, g⟩ v := .inl ⟨hg, fun a W he _ => h a W he _ _ _ _ _⟩
theorem Ev.yv {op : Op} {v : Value} (h : Ev P n env op v) : Yv P n env S op v := fun a W he _ dst ty ps af g => h a W he dst ty ps af g
theorem QD.e {D : List (Option Nat)} {Z : Env → Prop} {m : List Bool} {r : List Oper} {op : Op} {v : Value} (h : Ev P n env op v) (hd : d < n) (hg : wantD env D g = some true) (next : QD P n C D L I Z m r ((d, v) :: env)) : QD P n C D L I Z (true :: m) (⟨some d, op, ty, ps, af, g⟩ :: r) env :=
  QD.yv hd hg h.yv next
theorem Ev.as {op : Op} {v v' : Value} (h : Ev P n env op v) (e : v = v') : Ev P n env op v' := e ▸ h
variable {x y : Operand} {t t' : TypeId}
theorem Ev.of2 {op : BinOp} {v u r : Value} (hx : opnd env x = some v) (hy : opnd env y = some u) (h : ∀ W, (eqGuard op t x y v u).run P W = .ok () W) (h2 : ∀ W, (binOp op t v u).run P W = .ok r W) : Ev P n env (.binOp op t x y t') r :=
  fun a W he _ _ _ _ _ => by simp [execOp, eval_opnd he hx, eval_opnd he hy, h, h2]
section
variable {a b : UInt32}
end
section
variable {a b : UInt64}
end
theorem Ev.conv {src dst : TypeId} {ks kd : IntKind} {a r : Int} (T : Tab P) (hs : T.und src = some (.int ks)) (ht : T.und dst = some (.int kd)) (hx : opnd env x = some (.int ks a)) (hr : kd.wrap a = r) : Ev P n env (.convert src dst x) (.int kd r) :=
  fun c W he _ _ _ _ _ => by
    subst hr
    simp [execOp, eval_opnd he hx, convert, T.undOk hs, T.undOk ht, Conv.intToInt]
theorem Ev.indexS {ts e : TypeId} {ix : Operand} {kd : IntKind} {j : Int} {len c b off size : Nat} (T : Tab P) (hu : T.und ts = some (.slice e)) (hz : T.size e = some size) (hx : opnd env x = some (.slice (some ⟨b, off, none⟩) len c)) (hi : opnd env ix = some (.int kd j))
    (h0 : 0 ≤ j) (h1 : j < len) : Ev P n env (.indexAddr ts x ix) (.pointer (some ⟨b, off + j.toNat * size, none⟩)) :=
  fun c W he _ _ _ _ _ => by
    simp [execOp, Instr.indexAt, eval_opnd he hx, eval_opnd he hi, asIntOf, T.undOk hu, T.sizeOk hz, h0, h1, add_off]
theorem Ev.indexT {ts : TypeId} {ix : Operand} {kd : IntKind} {j : Int} {s : List UInt8} (T : Tab P) (hu : T.und ts = some .string) (hx : opnd env x = some (str s)) (hi : opnd env ix = some (.int kd j)) (h0 : 0 ≤ j) (h1 : j < s.length) :
    Ev P n env (.index ts x ix) (w8v (s.getD j.toNat 0)) :=
  fun c W he _ _ _ _ _ => by
    have hj : j.toNat < s.length := by omega
    have : (⟨s.toArray⟩ : ByteArray)[j.toNat]? = some (s.getD j.toNat 0) := by
      rw [getElem?_pos (⟨s.toArray⟩ : ByteArray) j.toNat (by rw [str_size]; exact hj)]
      simp [List.getD_eq_getElem?_getD, hj, ByteArray.getElem_eq_getElem_data]
    simp [execOp, Instr.index, eval_opnd he hx, eval_opnd he hi, asIntOf, T.undOk hu, str, h0, this]
section
variable {kd : IntKind} {a b r : Int}
theorem Ev.addI (hx : opnd env x = some (.int kd a)) (hy : opnd env y = some (.int kd b)) (hr : kd.wrap (a + b) = r) : Ev P n env (.binOp .add t x y t') (.int kd r) :=
  Ev.of2 hx hy (fun _ => run_eqGuard_int ..) fun W => by subst hr; simp [binOp, Op.intArith]
theorem Ev.lss (hx : opnd env x = some (.int kd a)) (hy : opnd env y = some (.int kd b)) : Ev P n env (.binOp .lss t x y t') (.bool (decide (a < b))) := Ev.of2 hx hy (fun _ => run_eqGuard_int ..) fun W => by simp [binOp, Op.intCmp]
theorem Ev.leq (hx : opnd env x = some (.int kd a)) (hy : opnd env y = some (.int kd b)) : Ev P n env (.binOp .leq t x y t') (.bool (decide (a ≤ b))) := Ev.of2 hx hy (fun _ => run_eqGuard_int ..) fun W => by simp [binOp, Op.intCmp]
theorem Ev.gtr (hx : opnd env x = some (.int kd a)) (hy : opnd env y = some (.int kd b)) : Ev P n env (.binOp .gtr t x y t') (.bool (decide (b < a))) := Ev.of2 hx hy (fun _ => run_eqGuard_int ..) fun W => by simp [binOp, Op.intCmp]
theorem Ev.geq (hx : opnd env x = some (.int kd a)) (hy : opnd env y = some (.int kd b)) : Ev P n env (.binOp .geq t x y t') (.bool (decide (b ≤ a))) := Ev.of2 hx hy (fun _ => run_eqGuard_int ..) fun W => by simp [binOp, Op.intCmp]
theorem Ev.eqlI (hx : opnd env x = some (.int kd a)) (hy : opnd env y = some (.int kd b)) : Ev P n env (.binOp .eql t x y t') (.bool (decide (a = b))) := Ev.of2 hx hy (fun _ => run_eqGuard_int ..) fun W => by simp [binOp, Op.intCmp]; rfl
theorem Ev.neqI (hx : opnd env x = some (.int kd a)) (hy : opnd env y = some (.int kd b)) : Ev P n env (.binOp .neq t x y t') (.bool (!decide (a = b))) := Ev.of2 hx hy (fun _ => run_eqGuard_int ..) fun W => by simp [binOp, Op.intCmp]; rfl
end
section
variable {s u : List UInt8}
theorem Ev.lenS {ts : TypeId} (T : Tab P) (hu : T.und ts = some .string) (hx : opnd env x = some (str s)) : Ev P n env (.call ⟨.builtin .len, #[x], #[ts]⟩) (.int .i64 s.length) :=
  fun a W he _ _ _ _ _ => by simp [execOp, resolve, invoke, builtin, Builtin.len_, eval_opnd he hx, T.undOk hu, str, goInt, str_size]
theorem Ev.catS (hx : opnd env x = some (str s)) (hy : opnd env y = some (str u)) (hlen : s.length + u.length ≤ 9223372036854775807) : Ev P n env (.binOp .add t x y t') (str (s ++ u)) :=
  Ev.of2 hx hy (fun _ => run_eqGuard_string ..) fun W => by simp [str, binOp, Op.stringOp, str_size, str_append]; omega
theorem Ev.eqlS (hx : opnd env x = some (str s)) (hy : opnd env y = some (str u)) : Ev P n env (.binOp .eql t x y t') (.bool (decide (s = u))) :=
  Ev.of2 hx hy (fun _ => run_eqGuard_string ..) fun W => by
    have : (s == u) = decide (s = u) := by rw [Bool.eq_iff_iff]; simp
    simp [str, binOp, Op.stringOp, str_toList, this]
theorem Ev.cutSLo {ts : TypeId} {lo : Operand} {kd : IntKind} {j : Int} (T : Tab P) (hu : T.und ts = some .string) (hx : opnd env x = some (str s)) (hlo : opnd env lo = some (.int kd j)) (h0 : 0 ≤ j) (h1 : j ≤ s.length) :
    Ev P n env (.slice ts x (some lo) none none) (str (s.drop j.toNat)) :=
  fun a W he _ _ _ _ _ => by
    have hj := run_sliceBound (P := P) (v := .int kd j) (y := s.length) (code := .sliceB) rfl h0 (by omega) W
    have ht : s.take s.length = s := List.take_length
    simp [execOp, Instr.sliceAt, Instr.slice, Instr.sliceBounds, eval_opnd he hx, eval_opnd he hlo, T.undOk hu, str, str_size, hj, str_extract, ht]
theorem Ev.cutSHi {ts : TypeId} {hi : Operand} {kd : IntKind} {q : Int} (T : Tab P) (hu : T.und ts = some .string) (hx : opnd env x = some (str s)) (hhi : opnd env hi = some (.int kd q)) (h0 : 0 ≤ q) (h1 : q ≤ s.length) :
    Ev P n env (.slice ts x none (some hi) none) (str (s.take q.toNat)) :=
  fun a W he _ _ _ _ _ => by
    have hm := run_sliceBound (P := P) (v := .int kd q) (y := s.length) (code := .sliceAlen) rfl (by omega) (by omega) W
    simp [execOp, Instr.sliceAt, Instr.slice, Instr.sliceBounds, eval_opnd he hx, eval_opnd he hhi, T.undOk hu, str, str_size, hm, str_extract]
end
theorem Ev.eqlB {p q : Bool} (hx : opnd env x = some (.bool p)) (hy : opnd env y = some (.bool q)) (T : Tab P) (hu : T.und t = some .bool) : Ev P n env (.binOp .eql t x y t') (.bool (p == q)) := fun a W he dst ty ps af g => by
  rcases Yld.eqlB (n := n) (env := env) (ops := #[]) (S := fun _ => True) (d := 0) (ty := ty) (ps := ps) (af := af) (g := none) (t' := t') T rfl hu hx hy with ⟨_, h⟩ | ⟨h, _⟩
  · exact h a W he trivial
  · cases h
theorem Ev.eqlNil {u : TypeDesc} {v z : Value} {r : Bool} (T : Tab P) (hu : T.und t = some u) (hz : nilOf u = some z) (hx : opnd env x = some v) (hv : isNilV v = some r) (hf : fitsNil u v = true) : Ev P n env (.binOp .eql t x (.const z) t') (.bool r) :=
  fun a W he _ _ _ _ _ => by
    have h1 := run_eqGuard_nil (op := .eql) (t := t) (x := x) (v := v) (z := z) (c := z) (P := P) hz W
    have h2 := run_equal_nil (P := P) (T.undOk hu) hz hv hf W
    have h3 : binOp .eql t v z = (Op.equal t v z >>= fun b => pure (.bool b)) := by
      cases v <;> simp [isNilV] at hv <;> rfl
    have hz2 : a.eval (.const z) = z := rfl
    simp only [execOp, eval_opnd he hx, hz2, Sem.run_bind, h1, Result.andThen_ok, h3, h2]
    rfl
theorem Ev.neqNil {u : TypeDesc} {v z : Value} {r : Bool} (T : Tab P) (hu : T.und t = some u) (hz : nilOf u = some z) (hx : opnd env x = some v) (hv : isNilV v = some r) (hf : fitsNil u v = true) : Ev P n env (.binOp .neq t x (.const z) t') (.bool (!r)) :=
  fun a W he _ _ _ _ _ => by
    have h1 := run_eqGuard_nil (op := .neq) (t := t) (x := x) (v := v) (z := z) (c := z) (P := P) hz W
    have h2 := run_equal_nil (P := P) (T.undOk hu) hz hv hf W
    have h3 : binOp .neq t v z = (Op.equal t v z >>= fun b => pure (.bool (!b))) := by
      cases v <;> simp [isNilV] at hv <;> rfl
    have hz2 : a.eval (.const z) = z := rfl
    simp only [execOp, eval_opnd he hx, hz2, Sem.run_bind, h1, Result.andThen_ok, h3, h2]
    rfl
theorem Ev.buildS {xs : List (Nat × Operand)} {vs : List (Nat × Value)} {pl : List (Nat × Nat)} {z : Array Value} {cs : List Value}
    (hb : ∀ w ps cells, Instr.fill (pl[·]?) z ps = some cells → (Instr.build t ps.toArray).run P w = .ok (.agg cells) w) (hx : parts env xs = some vs) (hf : fillL pl z.toList vs = some cs) : Ev P n env (.build t xs.toArray) (.agg cs.toArray) :=
  fun a W he _ _ _ _ _ => by
    have h := hb W vs cs.toArray (by simpa using fillL_ok pl vs z.toList cs hf)
    rw [← parts_spec he hx] at h
    simp only [execOp, List.map_toArray, Sem.run_bind]
    have hm : (List.map (fun (x : Nat × Operand) => match x with | (i, x) => (i, a.eval x)) xs) = xs.map (fun (p : Nat × Operand) => (p.1, a.eval p.2)) := rfl
    rw [hm, h]; rfl
end
end Go.V
