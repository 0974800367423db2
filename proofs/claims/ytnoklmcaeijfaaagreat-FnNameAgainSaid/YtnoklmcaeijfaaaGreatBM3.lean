import Derived.Test.YtnoklmcaeijfaaaGreatBM2
import Derived.Test.YtnoklmcaeijfaaaGreatBM1
import Derived.Test.YtnoklmcaeijfaaaGreatProg
import Derived.KernelRfl
/-
  Four numbers read in two ways; the scheme: plain Lean.
-/
namespace Go.V
set_option linter.unusedVariables false
set_option linter.unusedSimpArgs false
set_option maxRecDepth 10000
/-- a number of one to three digits -/
def octGo : Tx → Nat → Option Nat
  | [], n => some n
  | b :: r, n => if b.toNat < 48 ∨ 57 < b.toNat then none else octGo r (n * 10 + (b.toNat - 48))
def oct (p : Tx) : Option Nat :=
  if p = [] ∨ 3 < p.length ∨ (1 < p.length ∧ p.getD 0 0 = 48) then none else match octGo p 0 with
    | some n => if 255 < n then none else some n
    | none => none
def octs : List Tx → Option (List Nat)
  | [] => some []
  | p :: r => match oct p with
    | some n => (octs r).map (n :: ·)
    | none => none
def ip4 (s : Tx) : Option (List Nat) := if (spl 46 s).length = 4 then octs (spl 46 s) else none
/-- the port cut off -/
def portGo (s : Tx) : Nat → Tx
  | 0 => s
  | k + 1 => let n := 5 - k
    if n < s.length then (let c := s.getD (s.length - n) 0
      if c.toNat < 48 ∨ 57 < c.toNat then s else if s.getD (s.length - n - 1) 0 = 58 then s.take (s.length - n - 1) else portGo s k) else s
def portF (s : Tx) : Tx := portGo s 5
def starts (t s : Tx) : Bool := decide (t.length ≤ s.length) && decide (s.take t.length = t)
def priv' : List Nat → Bool
  | [a, b, _, _] => decide (a = 10) || (decide (a = 172) && decide (b / 16 = 1)) || (decide (a = 192) && decide (b = 168))
  | _ => false
def privO' : Option (List Nat) → Bool
  | some l => priv' l
  | none => false
/-- as the package has it -/
def pHttp (s : Tx) : Bool := privO' (ip4 ((spl 58 s).headD [])) || starts [108, 111, 99, 97, 108, 104, 111, 115, 116, 58] s || endsT [46, 108, 111, 99, 97, 108, 104, 111, 115, 116] (portF s) || decide (portF s = [49, 50, 55, 46, 48, 46, 48, 46, 49]) || (decide (s = [58, 58, 49]) || decide (portF s = [91, 58, 58, 49, 93]))
theorem priv_eq : ∀ l, priv' l = priv l
  | [] => rfl
  | [_] => rfl
  | [_, _] => rfl
  | [_, _, _] => rfl
  | [a, b, _, _] => by
    simp only [priv', priv]
    rw [Bool.eq_iff_iff]
    simp only [Bool.or_eq_true, Bool.and_eq_true, decide_eq_true_eq]
    omega
  | _ :: _ :: _ :: _ :: _ :: _ => rfl
theorem privO_eq (o : Option (List Nat)) : privO' o = privO o := by cases o <;> simp [privO, privO', priv_eq]
theorem octGo_app : ∀ (x y : Tx) (n : Nat), octGo (x ++ y) n = (octGo x n).bind (octGo y)
  | [], y, n => rfl
  | b :: r, y, n => by
    simp only [List.cons_append, octGo]
    split
    · rfl
    · exact octGo_app r y _
theorem octGo_zero : ∀ (x : Tx) (n : Nat), octGo x n = some 0 → n = 0 ∧ (x ≠ [] → x.getD 0 0 = 48)
  | [], n, h => by simp [octGo] at h; exact ⟨h, by simp⟩
  | b :: r, n, h => by
    simp only [octGo] at h
    split at h
    · cases h
    · rename_i hb
      obtain ⟨h1, _⟩ := octGo_zero r _ h
      refine ⟨by omega, fun _ => ?_⟩
      have : b.toNat = 48 := by omega
      simp only [List.getD_cons_zero]
      exact UInt8.toNat_inj.1 this
/-- a part begun, the rest -/
def glue (cur : Tx) : List Tx → List Tx
  | [] => []
  | q :: r => (cur ++ q) :: r
theorem glue_nil (l : List Tx) : glue [] l = l := by cases l <;> rfl
theorem oct_bad {cur y : Tx} {b : UInt8} (hb : b.toNat < 48 ∨ 57 < b.toNat) : oct (cur ++ b :: y) = none := by
  unfold oct
  split
  · rfl
  · rw [octGo_app]
    cases octGo cur 0 with
    | none => rfl
    | some n => simp only [Option.bind_some, octGo, if_pos hb]
theorem oct_long {p : Tx} (h : 3 < p.length) : oct p = none := by unfold oct; rw [if_pos (.inr (.inl h))]
theorem oct_lead {p : Tx} (h : 1 < p.length) (h0 : p.getD 0 0 = 48) : oct p = none := by unfold oct; rw [if_pos (.inr (.inr ⟨h, h0⟩))]
theorem spl_cons_ne {c b : UInt8} {r : Tx} (h : ¬ b = c) : ∃ y ys, spl c r = y :: ys ∧ spl c (b :: r) = (b :: y) :: ys := by
  simp only [spl, if_neg h]
  cases hs : spl c r with
  | nil => exact absurd hs (spl_pos c r)
  | cons y ys => exact ⟨y, ys, rfl, rfl⟩
/-- the rest of a number, then the rest -/
theorem quadGo_eq : ∀ (s : Tx) (out : List Nat) (cur : Tx) (n : Nat), octGo cur 0 = some n → cur.length ≤ 3 → (1 < cur.length → cur.getD 0 0 ≠ 48) →
    quadGo s out n cur.length = if out.length + (spl 46 s).length = 4 then (octs (glue cur (spl 46 s))).map (out ++ ·) else none
  | [], out, cur, n, h1, h2, h3 => by
    simp only [quadGo, spl, glue, List.append_nil, octs, List.length_cons, List.length_nil]
    have ho : oct cur = if cur = [] then none else if 255 < n then none else some n := by
      unfold oct
      by_cases hc : cur = []
      · simp [hc]
      · rw [if_neg hc, if_neg (by rintro (h | h | ⟨h, h'⟩); exact hc h; omega; exact h3 h h'), h1]
    rw [ho]
    by_cases hc : cur = []
    · subst hc; simp
    · have hl : ¬ cur.length = 0 := by simpa using hc
      rw [if_neg hc]
      by_cases h255 : 255 < n
      · simp [h255]
      · simp only [h255, or_false, hl, false_or, if_false]
        by_cases h4 : out.length = 3
        · simp [h4]
        · have : ¬ out.length + (0 + 1) = 4 := by omega
          simp [h4, this]
  | b :: r, out, cur, n, h1, h2, h3 => by
    by_cases hb : b = 46
    · subst hb
      simp only [quadGo, if_true, spl, glue, List.append_nil, octs, List.length_cons]
      have ho : oct cur = if cur = [] then none else if 255 < n then none else some n := by
        unfold oct
        by_cases hc : cur = []
        · simp [hc]
        · rw [if_neg hc, if_neg (by rintro (h | h | ⟨h, h'⟩); exact hc h; omega; exact h3 h h'), h1]
      have ih := quadGo_eq r (out ++ [n]) [] 0 rfl (by simp) (by simp)
      simp only [List.length_nil, glue_nil, List.length_append, List.length_cons] at ih
      rw [ho]
      by_cases hc : cur = []
      · subst hc; simp
      · have hl : ¬ cur.length = 0 := by simpa using hc
        rw [if_neg hc]
        by_cases h255 : 255 < n
        · simp [h255]
        · simp only [h255, or_false, hl, false_or, if_false]
          have hp := spl_pos 46 r
          have hp' : 0 < (spl 46 r).length := List.length_pos_iff.2 hp
          by_cases h4 : 3 < out.length
          · rw [if_pos h4, if_neg (by omega)]
          · rw [if_neg h4, ih]
            by_cases h5 : out.length + ((spl 46 r).length + 1) = 4
            · rw [if_pos h5, if_pos (by omega)]
              cases octs (spl 46 r) <;> simp
            · rw [if_neg h5, if_neg (by omega)]
    · obtain ⟨y, ys, e1, e2⟩ := spl_cons_ne (r := r) hb
      rw [e2]
      simp only [quadGo, if_neg hb, glue, octs, List.length_cons]
      by_cases hd : b.toNat < 48 ∨ 57 < b.toNat
      · rw [if_pos (by omega), oct_bad hd]; simp
      · by_cases hz : 0 < cur.length ∧ n = 0
        · rw [if_pos (by omega)]
          obtain ⟨hz1, rfl⟩ := hz
          obtain ⟨_, hh⟩ := octGo_zero cur 0 h1
          have hne : cur ≠ [] := fun e => by subst e; simp at hz1
          rw [oct_lead (p := cur ++ b :: y) (by simp; omega) (by rw [← hh hne]; cases cur with
            | nil => simp at hz1
            | cons a t => simp)]
          simp
        · rw [if_neg (by omega)]
          by_cases h5 : 3 < cur.length + 1
          · rw [if_pos h5, oct_long (p := cur ++ b :: y) (by simp; omega)]; simp
          · rw [if_neg h5]
            have ih := quadGo_eq r out (cur ++ [b]) (n * 10 + (b.toNat - 48)) (by rw [octGo_app, h1]; simp [octGo, hd]) (by simp; omega) (by
              intro hl hh
              cases cur with
              | nil => simp at hl
              | cons a t =>
                simp only [List.cons_append, List.getD_cons_zero] at hh
                cases t with
                | nil =>
                  subst hh
                  simp [octGo] at h1
                  exact hz ⟨by simp, by rw [← h1]⟩
                | cons a' t' => exact h3 (by simp) (by simpa using hh))
            simp only [List.length_append, List.length_cons, List.length_nil] at ih
            rw [show cur.length + 1 = cur.length + (0 + 1) by omega, ih, e1]
            simp [glue, octs]
theorem quad_ip4 (s : Tx) : quadF s = ip4 s := by
  unfold quadF ip4
  have := quadGo_eq s [] [] 0 rfl (by simp) (by simp)
  simp only [List.length_nil, glue_nil, Nat.zero_add, List.nil_append, Option.map_id'] at this
  exact this
theorem digit_of {c : UInt8} (h : c ∈ digT) : ¬ (c.toNat < 48 ∨ 57 < c.toNat) ∧ c ≠ 58 := by revert c; decide
theorem port_none {s : Tx} (h : hasB 58 s = false) : ∀ k, portGo s k = s
  | 0 => rfl
  | k + 1 => by
    simp only [portGo]
    split
    · split
      · rfl
      · split
        · rename_i hn _ h58
          exfalso
          have hm : s.getD (s.length - (5 - k) - 1) 0 ∈ s := by
            rw [List.getD_eq_getElem?_getD, List.getElem?_eq_getElem (by omega)]; simp
          exact hasB_false.1 h _ hm h58
        · exact port_none h k
    · rfl
theorem port_some {h d : Tx} (hd : allIn digT d = true) (h5 : d.length ≤ 5) : ∀ (m i : Nat), m + i = d.length → 0 < m → portGo (h ++ 58 :: d) (5 - i) = h
  | 0, i, _, h0 => absurd h0 (by omega)
  | m + 1, i, hm, _ => by
    have e : 5 - i = (4 - i) + 1 := by omega
    rw [e]
    simp only [portGo]
    have en : 5 - (4 - i) = i + 1 := by omega
    rw [en]
    have hlen : (h ++ 58 :: d).length = h.length + 1 + d.length := by simp; omega
    rw [if_pos (by omega)]
    have hg : ∀ j, j < d.length → (h ++ 58 :: d).getD (h.length + 1 + j) 0 = d.getD j 0 := by
      intro j hj
      simp only [List.getD_eq_getElem?_getD]
      rw [List.getElem?_append_right (by omega), show h.length + 1 + j - h.length = j + 1 by omega, List.getElem?_cons_succ]
    have hin : ∀ j, j < d.length → d.getD j 0 ∈ digT := by
      intro j hj
      have : d.getD j 0 ∈ d := by rw [List.getD_eq_getElem?_getD, List.getElem?_eq_getElem hj]; simp
      exact allIn_mem.1 hd _ this
    have e1 : (h ++ 58 :: d).length - (i + 1) = h.length + 1 + m := by omega
    rw [e1, hg m (by omega)]
    rw [if_neg (digit_of (hin m (by omega))).1]
    cases m with
    | zero =>
      have e2 : h.length + 1 + 0 - 1 = h.length := by omega
      rw [e2]
      simp [List.getD_eq_getElem?_getD]
    | succ m =>
      have e2 : h.length + 1 + (m + 1) - 1 = h.length + 1 + m := by omega
      rw [e2, hg m (by omega), if_neg (digit_of (hin m (by omega))).2]
      have := port_some (h := h) hd h5 (m + 1) (i + 1) (by omega) (by omega)
      rw [show 5 - (i + 1) = 4 - i by omega] at this
      exact this
theorem http_eq {s : Tx} (h : hostPlain s = true) (hl : loose s = false) : pHttp s = localF s := by
  simp only [loose, Bool.or_eq_false_iff] at hl
  have hnl : s ≠ localhostT := of_decide_eq_false hl.1
  unfold hostPlain at h
  cases hk : ix 58 s with
  | none =>
    have hb := ix_none.1 hk
    have ho : hostOf s = s := by simp [hostOf, hk]
    have hp : portF s = s := port_none hb 5
    unfold pHttp localF
    simp only [ho, hp, spl_none hk, List.headD_cons, quad_ip4, privO_eq]
    have e1 : starts [108, 111, 99, 97, 108, 104, 111, 115, 116, 58] s = false := by
      cases hs : starts [108, 111, 99, 97, 108, 104, 111, 115, 116, 58] s with
      | false => rfl
      | true =>
        exfalso
        simp only [starts, Bool.and_eq_true, decide_eq_true_eq] at hs
        refine hasB_false.1 hb 58 ?_ rfl
        have : (58 : UInt8) ∈ s.take 10 := by
          have := hs.2
          simp only [List.length_cons, List.length_nil] at this
          rw [this]; decide
        exact List.mem_of_mem_take this
    have e2 : decide (s = [58, 58, 49]) = false := decide_eq_false fun e => by subst e; revert hb; decide
    have e3 : decide (s = [91, 58, 58, 49, 93]) = false := decide_eq_false fun e => by subst e; revert hb; decide
    have e4 : decide (s = localhostT) = false := decide_eq_false hnl
    rw [e1, e2, e3, e4]
    cases privO (ip4 s) <;> cases endsT [46, 108, 111, 99, 97, 108, 104, 111, 115, 116] s <;> simp
  | some k =>
    rw [hk] at h
    simp only [Bool.and_eq_true] at h
    obtain ⟨h1, h2⟩ := h
    obtain ⟨d1, d2, d3⟩ := sWithin_all h1
    obtain ⟨e, hb⟩ := ix_split hk
    have ho : hostOf s = s.take k := by simp [hostOf, hk]
    have hp : portF s = s.take k := by
      have := port_some (h := s.take k) (d := s.drop (k + 1)) d1 d3 (s.drop (k + 1)).length 0 (by simp) (by omega)
      rw [← e] at this
      exact this
    unfold pHttp localF
    simp only [ho, hp, spl_some hk, List.headD_cons, quad_ip4, privO_eq]
    have e1 : starts [108, 111, 99, 97, 108, 104, 111, 115, 116, 58] s = decide (s.take k = localhostT) := by
      rw [Bool.eq_iff_iff]
      simp only [starts, Bool.and_eq_true, decide_eq_true_eq, List.length_cons, List.length_nil]
      constructor
      · rintro ⟨g1, g2⟩
        have g3 : s = localhostT ++ 58 :: s.drop 10 := by
          conv => lhs; rw [← List.take_append_drop 10 s]
          simp only [Nat.reduceAdd] at g2
          rw [g2]; rfl
        have g4 : ix 58 s = some 9 := by
          rw [g3]; exact ix_app (by decide)
        rw [hk] at g4
        cases g4
        rw [g3]; rfl
      · intro g
        have gk : k = 9 := by
          have hlt := ix_lt hk
          have : (s.take k).length = 9 := by rw [g]; rfl
          simp at this; omega
        subst gk
        have hlt := ix_lt hk
        refine ⟨by omega, ?_⟩
        rw [e, g]
        rfl
    have e2 : decide (s = [58, 58, 49]) = false := decide_eq_false fun e => by
      subst e
      have : k = 0 := by simpa [ix] using hk.symm
      subst this
      revert d1; decide
    have e3 : decide (s.take k = [91, 58, 58, 49, 93]) = false := decide_eq_false fun e => by rw [e] at hb; revert hb; decide
    rw [e1, e2, e3]
    cases privO (ip4 (s.take k)) <;> cases endsT [46, 108, 111, 99, 97, 108, 104, 111, 115, 116] (s.take k) <;> cases decide (s.take k = localhostT) <;> simp
end Go.V
/-
  What reading a name answers; names read again; names made: plain Lean.
-/
namespace Go.V
set_option linter.unusedVariables false
set_option linter.unusedSimpArgs false
set_option maxRecDepth 10000
/-- an answer of NewRegistry, where something is said -/
def RegAns (b : Bool) (reg s : Tx) (a : Option Tx) : Prop := ∀ r ok, sReg b reg s = (r, ok, false) → a = if ok then some r else none
def RepoAns (b : Bool) (reg s : Tx) (a : Option (Tx × Tx)) : Prop := ∀ r p ok, sRepo b reg s = (r, p, ok, false) → match a with
  | some x => ok = true ∧ x.1 = r ∧ fullP r x.2 = p
  | none => ok = false
def TagAns (o : NOpt) (s : Tx) (a : Option (Tx × Tx × Tx)) : Prop := ∀ r p t ok, sTag o s = (r, p, t, ok, false) → match a with
  | some x => ok = true ∧ x.1 = r ∧ fullP r x.2.1 = p ∧ x.2.2 = t
  | none => ok = false
def DigAns (o : NOpt) (s : Tx) (a : Option (Tx × Tx × Tx)) : Prop := ∀ r p t ok, sDig o s = (r, p, t, ok, false) → match a with
  | some x => ok = true ∧ x.1 = r ∧ fullP r x.2.1 = p ∧ x.2.2 = t
  | none => ok = false
/-- the registry, then the repository -/
theorem RepoAns.of {b : Bool} {reg s : Tx} {a : Option Tx} (h1 : RegAns b reg (hostCut s).1 a) : RepoAns b reg s (if pathGood (hostCut s).2 then (match a with
    | some r => if implNs r (hostCut s).2 && b then none else some (r, (hostCut s).2)
    | none => none) else none) := by
  intro r p ok h
  unfold sRepo at h
  simp only at h
  cases hp : pathGood (hostCut s).2 with
  | false => rw [hp] at h; simp at h; simp; exact h.2.2.1
  | true =>
    rw [hp] at h
    simp only [Bool.not_true, Bool.false_or] at h
    rw [if_pos rfl]
    by_cases hb : b = true ∧ (hostCut s).1 = []
    · obtain ⟨hb1, hb2⟩ := hb
      subst hb1
      rw [hb2] at h h1
      have ha : a = none := by
        have := h1 [] false (by simp [sReg])
        simpa using this
      subst ha
      simp [sReg, show hostBad [] = false by decide] at h
      simpa using h.2.2.1
    · have hbf : (b && decide ((hostCut s).1 = [])) = false := by
        cases b with
        | false => rfl
        | true => simp at hb; simp [hb]
      have he : sReg b reg (hostCut s).1 = sReg false reg (hostCut s).1 := by unfold sReg; rw [hbf]; simp
      rw [hbf] at h
      rw [RegAns, he] at h1
      cases hs : sReg false reg (hostCut s).1 with
      | mk r1 x =>
        obtain ⟨ok1, op1⟩ := x
        rw [hs] at h
        simp only [Bool.or_false] at h
        cases ok1 with
        | false =>
          simp only [Bool.not_false, if_true, Prod.mk.injEq] at h
          obtain ⟨_, _, rfl, rfl⟩ := h
          have := h1 r1 false hs
          simp only [Bool.false_eq_true, if_false] at this
          subst this
          rfl
        | true =>
          simp only [Bool.not_true, Bool.false_eq_true, if_false] at h
          by_cases hi : (implNs r1 (hostCut s).2 && b) = true
          · rw [if_pos hi] at h
            simp only [Prod.mk.injEq] at h
            obtain ⟨_, _, rfl, rfl⟩ := h
            have := h1 r1 true hs
            rw [if_pos rfl] at this
            subst this
            simp only [hi, if_true]
          · rw [if_neg hi] at h
            simp only [Prod.mk.injEq] at h
            obtain ⟨rfl, rfl, rfl, rfl⟩ := h
            have := h1 r1 true hs
            rw [if_pos rfl] at this
            subst this
            simp only [hi]
            exact ⟨trivial, rfl, rfl⟩
/-- tag and rest -/
theorem TagAns.of {o : NOpt} {s : Tx} {a : Option (Tx × Tx)} {rest t : Tx} (hc : cutTag s = some (rest, t)) (ht : tagGood t = true) (h : RepoAns o.strict o.reg rest a) : TagAns o s (a.map fun x => (x.1, x.2, t)) := by
  intro r p t' ok hs
  unfold sTag at hs
  rw [hc] at hs
  simp only [ht, if_true, Prod.mk.injEq] at hs
  obtain ⟨h1, h2, h3, h4, h5⟩ := hs
  have := h r p ok (Prod.ext h1 (Prod.ext h2 (Prod.ext h4 h5)))
  cases a with
  | none => exact this
  | some x => exact ⟨this.1, this.2.1, this.2.2, h3⟩
theorem TagAns.no {o : NOpt} {s : Tx} {rest t : Tx} (hc : cutTag s = some (rest, t)) (ht : tagGood t = false) : TagAns o s none := by
  intro r p t' ok hs
  unfold sTag at hs
  rw [hc] at hs
  simp [ht] at hs
  exact hs.2.2.2
theorem TagAns.strict {o : NOpt} {s : Tx} (hc : cutTag s = none) (ht : o.strict = true) : TagAns o s none := by
  intro r p t' ok hs
  unfold sTag at hs
  rw [hc] at hs
  simp [ht] at hs
  exact hs.2.2.2
theorem TagAns.weak {o : NOpt} {s : Tx} {a : Option (Tx × Tx)} (hc : cutTag s = none) (ht : o.strict = false) (h : RepoAns false o.reg s a) : TagAns o s (a.map fun x => (x.1, x.2, tagOr o.tag)) := by
  intro r p t' ok hs
  unfold sTag at hs
  rw [hc] at hs
  simp only [ht, Bool.false_eq_true, if_false, Prod.mk.injEq] at hs
  obtain ⟨h1, h2, h3, h4, h5⟩ := hs
  have := h r p ok (Prod.ext h1 (Prod.ext h2 (Prod.ext h4 h5)))
  cases a with
  | none => exact this
  | some x => exact ⟨this.1, this.2.1, this.2.2, h3⟩
theorem pathBad {p : Tx} (h : hasB 58 p = true) : pathGood p = false := by
  cases hp : pathGood p with
  | false => rfl
  | true => rw [(path_no (pathGood_all hp).1).1] at h; cases h
theorem hostCut_more {x t : Tx} (h : hasB 47 t = false) : (hostCut (x ++ 58 :: t)).1 = (hostCut x).1 ∧ (hostCut (x ++ 58 :: t)).2 = (hostCut x).2 ++ 58 :: t := by
  unfold hostCut
  cases hk : ix 47 x with
  | some k =>
    have hlt := ix_lt hk
    rw [ix_app2 hk]
    simp only
    rw [List.take_append_of_le_length (by omega)]
    by_cases hh : hosted (x.take k) = true
    · rw [if_pos hh, if_pos hh, List.drop_append_of_le_length (by omega)]
      exact ⟨rfl, rfl⟩
    · rw [if_neg hh, if_neg hh]
      exact ⟨rfl, rfl⟩
  | none =>
    have : ix 47 (x ++ 58 :: t) = none := ix_none.2 (by rw [hasB_app, hasB_cons, ix_none.1 hk, h]; rfl)
    rw [this]
    exact ⟨rfl, rfl⟩
theorem sRepo_bad {b : Bool} {reg x t : Tx} (h : hasB 47 t = false) {r p : Tx} {ok : Bool} (hs : sRepo b reg x = (r, p, ok, false)) : sRepo b reg (x ++ 58 :: t) = ([], [], false, false) := by
  obtain ⟨h1, h2⟩ := hostCut_more (x := x) h
  have hop : (sReg false reg (hostCut x).1).2.2 = false := by
    unfold sRepo at hs
    simp only at hs
    split at hs
    · simp at hs; exact hs.2.2.2
    · split at hs
      · simp at hs; exact hs.2.2.2
      · simp at hs; exact hs.2.2.2
  unfold sRepo
  simp only [h1, h2]
  rw [pathBad (by rw [hasB_app, hasB_cons]; simp)]
  simp [hop]
/-- a digest: the tag, if there is one, then the repository -/
theorem DigAns.of {o : NOpt} {s : Tx} {k : Nat} {at_ : Option (Tx × Tx × Tx)} {ar : Option (Tx × Tx)} (hr : regOk o.reg) (h1 : ix 64 s = some k) (h2 : lx 64 s = some k) (hd : digGood (s.drop (k + 1)) = true)
    (ht : TagAns o (s.take k) at_) (ha : RepoAns o.strict o.reg (match at_ with
      | some x => repoT x.1 (fullP x.1 x.2.1)
      | none => s.take k) ar) : DigAns o s (ar.map fun x => (x.1, x.2, s.drop (k + 1))) := by
  intro r p t ok hs
  unfold sDig at hs
  rw [h1] at hs
  simp only [h2, if_true, hd, Prod.mk.injEq, Bool.or_eq_false_iff, decide_eq_false_iff_not, Nat.not_lt] at hs
  obtain ⟨e1, e2, e3, e4, e5, e6⟩ := hs
  have hS : sRepo o.strict o.reg (offTag (s.take k)) = (r, p, ok, false) := Prod.ext e1 (Prod.ext e2 (Prod.ext e4 e5))
  rw [e2] at e6
  subst e3
  -- what is said of the tag
  have key : ∀ x, sTag o (s.take k) = (r, p, x, ok, false) → (match (generalizing := false) at_ with
      | some y => ok = true ∧ y.1 = r ∧ fullP r y.2.1 = p
      | none => ok = false) := by
    intro x hx
    have := ht r p x ok hx
    cases at_ with
    | none => exact this
    | some y => exact ⟨this.1, this.2.1, this.2.2.1⟩
  have fin : (∃ x, sTag o (s.take k) = (r, p, x, ok, false)) → ok = true → (match (ar.map fun x => (x.1, x.2, s.drop (k + 1))) with
      | some x => ok = true ∧ x.1 = r ∧ fullP r x.2.1 = p ∧ x.2.2 = s.drop (k + 1)
      | none => ok = false) := by
    rintro ⟨x, hx⟩ rfl
    have := key x hx
    cases at_ with
    | none => cases this
    | some y =>
      obtain ⟨_, y1, y2⟩ := this
      simp only [y1, y2] at ha
      obtain ⟨g1, g2, _⟩ := sRepo_ok hr hS
      have := ha r p true (sRepo_again g1 g2 e6)
      cases ar with
      | none => cases this
      | some z => exact ⟨rfl, this.2.1, this.2.2, rfl⟩
  have fin2 : at_ = none → (∃ r' p', sRepo o.strict o.reg (s.take k) = (r', p', false, false)) → ok = false → (match (ar.map fun x => (x.1, x.2, s.drop (k + 1))) with
      | some x => ok = true ∧ x.1 = r ∧ fullP r x.2.1 = p ∧ x.2.2 = s.drop (k + 1)
      | none => ok = false) := by
    rintro rfl ⟨r', p', h⟩ rfl
    have := ha r' p' false h
    cases ar with
    | none => rfl
    | some z => exact absurd this.1 (by decide)
  cases hc : cutTag (s.take k) with
  | some y =>
    obtain ⟨rest, tg⟩ := y
    cases htg : tagGood tg with
    | true =>
      have ho : offTag (s.take k) = rest := by simp [offTag, hc, htg]
      rw [ho] at hS
      have hT : sTag o (s.take k) = (r, p, tg, ok, false) := by simp [sTag, hc, htg, hS]
      cases ok with
      | true => exact fin ⟨_, hT⟩ rfl
      | false =>
        have hn := key _ hT
        cases at_ with
        | some y => exact absurd hn.1 (by decide)
        | none =>
          obtain ⟨he, _, h47⟩ := cutTag_eq hc
          exact fin2 rfl ⟨[], [], by rw [he]; exact sRepo_bad h47 hS⟩ rfl
    | false =>
      have ho : offTag (s.take k) = s.take k := by simp [offTag, hc, htg]
      rw [ho] at hS
      have hn := (TagAns.no (o := o) hc htg)
      have hT : sTag o (s.take k) = ([], [], [], false, false) := by simp [sTag, hc, htg]
      have ha0 := ht _ _ _ _ hT
      cases at_ with
      | some y => exact absurd ha0.1 (by decide)
      | none =>
        have := ha r p ok hS
        cases ar with
        | none => exact this
        | some z => exact ⟨this.1, this.2.1, this.2.2, rfl⟩
  | none =>
    have ho : offTag (s.take k) = s.take k := by simp [offTag, hc]
    rw [ho] at hS
    cases hst : o.strict with
    | true =>
      have hT : sTag o (s.take k) = ([], [], [], false, false) := by simp [sTag, hc, hst]
      have ha0 := ht _ _ _ _ hT
      cases at_ with
      | some y => exact absurd ha0.1 (by decide)
      | none =>
        have := ha r p ok hS
        cases ar with
        | none => exact this
        | some z => exact ⟨this.1, this.2.1, this.2.2, rfl⟩
    | false =>
      rw [hst] at hS
      have hT : sTag o (s.take k) = (r, p, tagOr o.tag, ok, false) := by simp [sTag, hc, hst, hS]
      cases ok with
      | true => exact fin ⟨_, hT⟩ rfl
      | false =>
        have hn := key _ hT
        cases at_ with
        | some y => exact absurd hn.1 (by decide)
        | none => exact fin2 rfl ⟨r, p, by rw [hst]; exact hS⟩ rfl
theorem DigAns.no {o : NOpt} {s : Tx} (h : ∀ r p t, sDig o s ≠ (r, p, t, true, false)) : DigAns o s none := by
  intro r p t ok hs
  cases ok with
  | false => rfl
  | true => exact absurd hs (h r p t)
end Go.V
/-
  Names read again, and names made: plain Lean.
-/
namespace Go.V
set_option linter.unusedVariables false
set_option linter.unusedSimpArgs false
set_option maxRecDepth 10000
theorem digGood_no {t : Tx} (h : digGood t = true) : hasB 64 t = false := by
  simp only [digGood, Bool.and_eq_true, decide_eq_true_eq] at h
  obtain ⟨_, h1, h2⟩ := h
  rw [← List.take_append_drop 7 t, hasB_app, h1, allIn_not 64 (sWithin_all h2).1 (by decide)]
  decide
/-- parts that were read -/
theorem sTag_ok {o : NOpt} {s r p t : Tx} (hr : regOk o.reg) (h : sTag o s = (r, p, t, true, false)) : RepoOk r p ∧ hosted r = true ∧ (tagGood t = true ∨ t = tagOr o.tag) := by
  unfold sTag at h
  split at h
  · split at h
    · rename_i hg
      simp only [Prod.mk.injEq] at h
      obtain ⟨h1, h2, rfl, h4, h5⟩ := h
      obtain ⟨g1, g2, _⟩ := sRepo_ok hr (show sRepo o.strict o.reg _ = (r, p, true, false) from Prod.ext h1 (Prod.ext h2 (Prod.ext h4 h5)))
      exact ⟨g1, g2, .inl hg⟩
    · simp at h
  · split at h
    · simp at h
    · simp only [Prod.mk.injEq] at h
      obtain ⟨h1, h2, rfl, h4, h5⟩ := h
      obtain ⟨g1, g2, _⟩ := sRepo_ok hr (show sRepo o.strict o.reg s = (r, p, true, false) from Prod.ext h1 (Prod.ext h2 (Prod.ext h4 h5)))
      exact ⟨g1, g2, .inr rfl⟩
theorem sDig_ok {o : NOpt} {s r p t : Tx} (hr : regOk o.reg) (h : sDig o s = (r, p, t, true, false)) : RepoOk r p ∧ hosted r = true ∧ digGood t = true := by
  unfold sDig at h
  split at h
  · simp at h
  · split at h
    · split at h
      · rename_i hg
        simp only [Prod.mk.injEq, Bool.or_eq_false_iff] at h
        obtain ⟨h1, h2, rfl, h4, h5, _⟩ := h
        obtain ⟨g1, g2, _⟩ := sRepo_ok hr (show sRepo o.strict o.reg _ = (r, p, true, false) from Prod.ext h1 (Prod.ext h2 (Prod.ext h4 h5)))
        exact ⟨g1, g2, hg⟩
      · simp at h
    · simp at h
theorem repo_no {r p : Tx} (h : RepoOk r p) : hasB 64 (repoT r p) = false := by
  unfold repoT
  rw [hasB_app, hasB_app, hostPlain_no 64 h.plain (by decide), (path_no h.chars).2]; decide
theorem sTag_again {b ins : Bool} {r p t : Tx} (h : RepoOk r p) (h2 : hosted r = true) (hl : p.length ≤ 255) (ht : tagGood t = true) : sTag ⟨b, ins, [], []⟩ (repoT r p ++ [58] ++ t) = (r, p, t, true, false) := by
  obtain ⟨t1, t2, _⟩ := tagGood_no ht
  have hc : cutTag (repoT r p ++ [58] ++ t) = some (repoT r p, t) := by rw [List.append_assoc]; exact cutTag_some t1 t2
  unfold sTag
  rw [hc]
  simp only [ht, if_true, sRepo_again h h2 hl]
theorem sDig_again {b ins : Bool} {r p t : Tx} (h : RepoOk r p) (h2 : hosted r = true) (hl : p.length ≤ 255) (ht : digGood t = true) : sDig ⟨b, ins, [], []⟩ (repoT r p ++ [64] ++ t) = (r, p, t, true, false) := by
  have h64 := repo_no h
  have e1 : ix 64 (repoT r p ++ [64] ++ t) = some (repoT r p).length := by rw [List.append_assoc]; exact ix_app h64
  have e2 : lx 64 (repoT r p ++ [64] ++ t) = some (repoT r p).length := by rw [List.append_assoc]; exact lx_app (digGood_no ht)
  have e3 : (repoT r p ++ [64] ++ t).drop ((repoT r p).length + 1) = t := by simp
  have e4 : (repoT r p ++ [64] ++ t).take (repoT r p).length = repoT r p := by rw [List.append_assoc, List.take_left']; rfl
  have e5 : offTag (repoT r p) = repoT r p := by simp [offTag, cutTag_none (path_no h.chars).1]
  unfold sDig
  rw [e1]
  simp only [e2, if_true, e3, ht, e4, e5, sRepo_again h h2 hl]
  simp [hl]
/-- read, what is its name is read as itself, strictly -/
theorem again {o : NOpt} {which k : Int} {s r p id : Tx} (hr : regOk o.reg) (hw : 0 ≤ which ∧ which ≤ 4) (h : sParts o which s = (k, r, p, id, true, false)) (htag : o.tag = []) (hl : p.length ≤ 255) (sch : Bool) (text : Tx) (ins : Bool) :
    1 ≤ k ∧ k ≤ 4 ∧ sParts ⟨true, ins, [], []⟩ k (nmd sch k r p id text).name = (k, r, p, id, true, false) := by
  have hT : ∀ t, sTag o s = (r, p, t, true, false) → sParts ⟨true, ins, [], []⟩ 3 (nmd sch 3 r p t text).name = (3, r, p, t, true, false) := by
    intro t ht
    obtain ⟨g1, g2, g3⟩ := sTag_ok hr ht
    have hg : tagGood t = true := by
      rcases g3 with g | rfl
      · exact g
      · rw [htag]; decide
    have := sTag_again (b := true) (ins := ins) g1 g2 hl hg
    simp [sParts, nmd, List.append_assoc] at this ⊢
    simp [this]
  have hD : ∀ t, sDig o s = (r, p, t, true, false) → sParts ⟨true, ins, [], []⟩ 4 (nmd sch 4 r p t text).name = (4, r, p, t, true, false) := by
    intro t ht
    obtain ⟨g1, g2, g3⟩ := sDig_ok hr ht
    have := sDig_again (b := true) (ins := ins) g1 g2 hl g3
    simp [sParts, nmd, List.append_assoc] at this ⊢
    simp [this]
  unfold sParts at h
  by_cases h1 : which = 1
  · rw [if_pos h1] at h
    simp only [Prod.mk.injEq] at h
    obtain ⟨rfl, e1, rfl, rfl, e2, e3⟩ := h
    obtain ⟨g1, g2, g3, _⟩ := sReg_ok hr (show sReg o.strict o.reg s = (r, true, false) from Prod.ext e1 (Prod.ext e2 e3))
    refine ⟨by decide, by decide, ?_⟩
    simp [sParts, nmd, sReg_again g1 g2 g3]
  rw [if_neg h1] at h
  by_cases h2 : which = 2
  · rw [if_pos h2] at h
    simp only [Prod.mk.injEq] at h
    obtain ⟨rfl, e1, e4, rfl, e2, e3⟩ := h
    obtain ⟨g1, g2, _⟩ := sRepo_ok hr (show sRepo o.strict o.reg s = (r, p, true, false) from Prod.ext e1 (Prod.ext e4 (Prod.ext e2 e3)))
    refine ⟨by decide, by decide, ?_⟩
    simp [sParts, nmd, sRepo_again g1 g2 hl]
  rw [if_neg h2] at h
  by_cases h3 : which = 3
  · rw [if_pos h3] at h
    simp only [Prod.mk.injEq] at h
    obtain ⟨rfl, e1, e2, e3, e4, e5⟩ := h
    exact ⟨by decide, by decide, hT id (Prod.ext e1 (Prod.ext e2 (Prod.ext e3 (Prod.ext e4 e5))))⟩
  rw [if_neg h3] at h
  by_cases h4 : which = 4
  · rw [if_pos h4] at h
    simp only [Prod.mk.injEq] at h
    obtain ⟨rfl, e1, e2, e3, e4, e5⟩ := h
    exact ⟨by decide, by decide, hD id (Prod.ext e1 (Prod.ext e2 (Prod.ext e3 (Prod.ext e4 e5))))⟩
  rw [if_neg h4] at h
  simp only at h
  split at h
  · simp only [Prod.mk.injEq] at h
    obtain ⟨rfl, e1, e2, e3, e4, e5⟩ := h
    exact ⟨by decide, by decide, hD id (Prod.ext e1 (Prod.ext e2 (Prod.ext e3 (Prod.ext e4 e5))))⟩
  · simp only [Prod.mk.injEq] at h
    obtain ⟨rfl, e1, e2, e3, e4, e5⟩ := h
    exact ⟨by decide, by decide, hT id (Prod.ext e1 (Prod.ext e2 (Prod.ext e3 (Prod.ext e4 e5))))⟩
/-- made of a registry, a path and a tag -/
theorem made_tag {r p id r' p' t : Tx} (h1 : hostNamed r = true) (hp : allIn (smallT ++ [47]) p = true) (h : sTag ⟨false, false, [], []⟩ (repoT r p ++ [58] ++ id) = (r', p', t, true, false)) : r' = aliasT r ∧ p' = fullP (aliasT r) p ∧ t = id := by
  simp only [hostNamed, Bool.and_eq_true] at h1
  obtain ⟨hpl, hho⟩ := h1
  have hne := hosted_ne hho
  have cut : ∀ q, hostCut (repoT r q) = (r, q) := fun q => hostCut_repo hpl hho
  have bad : ∀ q r1 p1 op, hasB 58 q = true → sRepo false [] (repoT r q) ≠ (r1, p1, true, op) := by
    intro q r1 p1 op hq he
    unfold sRepo at he
    simp only [cut q, pathBad hq] at he
    simp at he
  have e : repoT r p ++ [58] ++ id = repoT r (p ++ 58 :: id) := by simp [repoT]
  unfold sTag at h
  cases hc : cutTag (repoT r p ++ [58] ++ id) with
  | none =>
    rw [hc, e] at h
    simp only [Bool.false_eq_true, if_false, Prod.mk.injEq] at h
    obtain ⟨_, _, _, h4, _⟩ := h
    exact absurd (show sRepo false [] (repoT r (p ++ 58 :: id)) = (_, _, true, _) from Prod.ext rfl (Prod.ext rfl (Prod.ext h4 rfl))) (bad _ _ _ _ (by rw [hasB_app, hasB_cons]; simp))
  | some x =>
    obtain ⟨rest, tg⟩ := x
    rw [hc] at h
    simp only at h
    split at h
    · rename_i htg
      simp only [Prod.mk.injEq] at h
      obtain ⟨e1, e2, e3, e4, e5⟩ := h
      obtain ⟨he, h58, h47⟩ := cutTag_eq hc
      cases hid : hasB 58 id with
      | false =>
        have := lx_app (x := repoT r p) hid
        have h2 := lx_app (x := rest) h58
        rw [← he, List.append_assoc] at h2
        have e58 : ([58] : Tx) ++ id = 58 :: id := rfl
        rw [e58, this] at h2
        have hlen : (repoT r p).length = rest.length := by simpa using h2
        have hh : repoT r p ++ 58 :: id = rest ++ 58 :: tg := by rw [← he, List.append_assoc]; rfl
        obtain ⟨q1, q2⟩ := List.append_inj hh hlen
        cases q2
        rw [← q1] at e1 e2 e4 e5
        have hS : sRepo false [] (repoT r p) = (r', p', true, false) := Prod.ext e1 (Prod.ext e2 (Prod.ext e4 e5))
        obtain ⟨_, _, g3, _, g5⟩ := sRepo_ok (.inl rfl) hS
        rw [cut p] at g3 g5
        obtain ⟨_, _, _, g6, _⟩ := sReg_ok (.inl rfl) g3
        rw [if_neg hne] at g6
        exact ⟨g6, by rw [g5, g6], e3.symm⟩
      | true =>
        exfalso
        cases hl : lx 58 id with
        | none => rw [lx_none.1 hl] at hid; cases hid
        | some j =>
          obtain ⟨_, j2, j3⟩ := lx_split hl
          have hh : (repoT r p ++ 58 :: id.take j) ++ 58 :: id.drop (j + 1) = rest ++ 58 :: tg := by
            rw [← he]
            conv => rhs; rw [j2]
            simp
          have a1 := lx_app (x := repoT r p ++ 58 :: id.take j) j3
          have a2 := lx_app (x := rest) h58
          rw [hh, a2] at a1
          have hlen : rest.length = (repoT r p ++ 58 :: id.take j).length := by simpa using a1
          obtain ⟨q1, _⟩ := List.append_inj hh hlen.symm
          have q3 : rest = repoT r (p ++ 58 :: id.take j) := by rw [← q1]; simp [repoT]
          rw [q3] at e4
          exact bad _ _ _ _ (by rw [hasB_app, hasB_cons]; simp) (show sRepo false [] (repoT r (p ++ 58 :: id.take j)) = (_, _, true, _) from Prod.ext rfl (Prod.ext rfl (Prod.ext e4 rfl)))
    · simp at h
theorem made_dig {r p id r' p' t : Tx} (h1 : hostNamed r = true) (hp : allIn (smallT ++ [47]) p = true) (h : sDig ⟨false, false, [], []⟩ (repoT r p ++ [64] ++ id) = (r', p', t, true, false)) : r' = aliasT r ∧ p' = fullP (aliasT r) p ∧ t = id := by
  simp only [hostNamed, Bool.and_eq_true] at h1
  obtain ⟨hpl, hho⟩ := h1
  have hne := hosted_ne hho
  have h64 : hasB 64 (repoT r p) = false := by
    unfold repoT
    rw [hasB_app, hasB_app, hostPlain_no 64 hpl (by decide), (path_no hp).2]; decide
  have e1 : ix 64 (repoT r p ++ [64] ++ id) = some (repoT r p).length := by rw [List.append_assoc]; exact ix_app h64
  have e3 : (repoT r p ++ [64] ++ id).drop ((repoT r p).length + 1) = id := by simp
  have e4 : (repoT r p ++ [64] ++ id).take (repoT r p).length = repoT r p := by rw [List.append_assoc, List.take_left']; rfl
  have e5 : offTag (repoT r p) = repoT r p := by simp [offTag, cutTag_none (path_no hp).1]
  unfold sDig at h
  rw [e1] at h
  simp only [e3, e4, e5] at h
  split at h
  · split at h
    · simp only [Prod.mk.injEq, Bool.or_eq_false_iff] at h
      obtain ⟨q1, q2, q3, q4, q5, _⟩ := h
      have hS : sRepo false [] (repoT r p) = (r', p', true, false) := Prod.ext q1 (Prod.ext q2 (Prod.ext q4 q5))
      obtain ⟨_, _, g3, _, g5⟩ := sRepo_ok (.inl rfl) hS
      rw [hostCut_repo hpl hho] at g3 g5
      obtain ⟨_, _, _, g6, _⟩ := sReg_ok (.inl rfl) g3
      rw [if_neg hne] at g6
      exact ⟨g6, by rw [g5, g6], q3.symm⟩
    · simp at h
  · simp at h
end Go.V
/-
  The runes of a text: plain Lean.
-/
namespace Go.V
set_option linter.unusedVariables false
set_option linter.unusedSimpArgs false
def okRune (r : Nat) : Prop := r < 55296 ∨ (57343 < r ∧ r ≤ 1114111)
theorem cont_big {x : Nat} (h : (x / 64 == 2) = true) : 128 ≤ x := by
  have : x / 64 = 2 := by simpa using h
  omega
theorem ba_size (s : Tx) : (ba s).size = s.length := str_size s
/-- beyond ASCII -/
theorem runeAt_big (s : Tx) (p : Nat) (hp : p < s.length) (h : ¬ (s.getD p 0).toNat < 128) :
    128 ≤ (runeAt s p).1 ∧ okRune (runeAt s p).1 ∧ p + (runeAt s p).2 ≤ s.length ∧ ∀ q, p ≤ q → q < p + (runeAt s p).2 → 128 ≤ (s.getD q 0).toNat := by
  have bad : (128 ≤ 0xFFFD ∧ okRune 0xFFFD ∧ p + 1 ≤ s.length ∧ ∀ q, p ≤ q → q < p + 1 → 128 ≤ (s.getD q 0).toNat) :=
    ⟨by decide, .inr (by decide), by omega, fun q h1 h2 => by obtain rfl : q = p := by omega
                                                              omega⟩
  unfold runeAt Utf8.decode
  simp only [Nat.add_zero, ba_get, ba_size]
  rw [if_neg h]
  split
  · rename_i h2
    simp only [Bool.and_eq_true, decide_eq_true_eq] at h2
    obtain ⟨_, h3, h4⟩ := h2
    have := cont_big h4
    split
    · refine ⟨by simp only; omega, .inl (by simp only; omega), by simp only; omega, fun q q1 q2 => ?_⟩
      simp only at q2
      have : q = p ∨ q = p + 1 := by omega
      rcases this with rfl | rfl <;> omega
    · exact bad
  · split
    · rename_i h2
      simp only [Bool.and_eq_true, decide_eq_true_eq] at h2
      obtain ⟨⟨_, h3, h4⟩, h5, h6⟩ := h2
      have := cont_big h4
      have := cont_big h6
      split
      · rename_i h7
        simp only [Bool.and_eq_true, decide_eq_true_eq, Utf8.valid, Bool.or_eq_true] at h7
        refine ⟨by simp only; omega, ?_, by simp only; omega, fun q q1 q2 => ?_⟩
        · simp only [okRune]; omega
        · simp only at q2
          have : q = p ∨ q = p + 1 ∨ q = p + 2 := by omega
          rcases this with rfl | rfl | rfl <;> omega
      · exact bad
    · split
      · rename_i h2
        simp only [Bool.and_eq_true, decide_eq_true_eq] at h2
        obtain ⟨⟨⟨_, h3, h4⟩, h5, h6⟩, h8, h9⟩ := h2
        have := cont_big h4
        have := cont_big h6
        have := cont_big h9
        split
        · rename_i h7
          simp only [Bool.and_eq_true, decide_eq_true_eq, Utf8.valid, Bool.or_eq_true] at h7
          refine ⟨by simp only; omega, ?_, by simp only; omega, fun q q1 q2 => ?_⟩
          · simp only [okRune]; omega
          · simp only at q2
            have : q = p ∨ q = p + 1 ∨ q = p + 2 ∨ q = p + 3 := by omega
            rcases this with rfl | rfl | rfl | rfl <;> omega
        · exact bad
      · exact bad
/-- the runes from a place on -/
def runesW (s : Tx) (p : Nat) : List Nat := if p < s.length then (runeAt s p).1 :: runesW s (p + (runeAt s p).2) else []
termination_by s.length - p
decreasing_by
  have := runeAt_width s p
  omega
theorem runesW_lt {s : Tx} {p : Nat} (h : p < s.length) : runesW s p = (runeAt s p).1 :: runesW s (p + (runeAt s p).2) := by rw [runesW, if_pos h]
theorem runesW_end {s : Tx} {p : Nat} (h : ¬ p < s.length) : runesW s p = [] := by rw [runesW, if_neg h]
theorem drop_cons {s : Tx} {p : Nat} (h : p < s.length) : s.drop p = s.getD p 0 :: s.drop (p + 1) := by
  rw [List.drop_eq_getElem_cons h]; simp [List.getD_eq_getElem?_getD, h]
/-- one rune: its bytes -/
theorem runes_step {s : Tx} {p : Nat} (hp : p < s.length) : ∃ ys, s.drop p = ys ++ s.drop (p + (runeAt s p).2) ∧ p + (runeAt s p).2 ≤ s.length ∧ okRune (runeAt s p).1 ∧
    ((∃ b : UInt8, ys = [b] ∧ (runeAt s p).1 = b.toNat ∧ b.toNat < 128) ∨ (ys ≠ [] ∧ (∀ y ∈ ys, 128 ≤ y.toNat) ∧ 128 ≤ (runeAt s p).1)) := by
  by_cases h : (s.getD p 0).toNat < 128
  · rw [runeAt_ascii s p h]
    exact ⟨[s.getD p 0], by simpa using drop_cons hp, by simp only; omega, .inl (by simp only; omega), .inl ⟨_, rfl, rfl, h⟩⟩
  · obtain ⟨h1, h2, h3, h4⟩ := runeAt_big s p hp h
    have hw := runeAt_width s p
    refine ⟨(s.drop p).take (runeAt s p).2, ?_, h3, h2, .inr ⟨?_, ?_, h1⟩⟩
    · rw [← List.drop_drop, List.take_append_drop]
    · intro e
      have := congrArg List.length e
      simp at this; omega
    · intro y hy
      obtain ⟨j, hj, rfl⟩ := List.mem_iff_getElem.1 hy
      simp only [List.length_take, List.length_drop] at hj
      have := h4 (p + j) (by omega) (by omega)
      rw [List.getD_eq_getElem?_getD, List.getElem?_eq_getElem (by omega)] at this
      simpa using this
/-- ASCII among the runes -/
theorem runes_mem {s : Tx} {c : UInt8} (hc : c.toNat < 128) : ∀ (n p : Nat), s.length - p ≤ n → (c.toNat ∈ runesW s p ↔ c ∈ s.drop p)
  | 0, p, h => by rw [runesW_end (by omega), List.drop_eq_nil_of_le (by omega)]; simp
  | n + 1, p, h => by
    by_cases hp : p < s.length
    · rw [runesW_lt hp]
      obtain ⟨ys, e, _, _, h3⟩ := runes_step hp
      have hw := runeAt_width s p
      have ih := runes_mem (s := s) hc n (p + (runeAt s p).2) (by omega)
      rw [e, List.mem_cons, List.mem_append, ih]
      rcases h3 with ⟨b, rfl, hb, hb'⟩ | ⟨_, h4, h5⟩
      · rw [hb, List.mem_singleton]
        constructor <;> (rintro (h | h))
        · exact .inl (UInt8.toNat_inj.1 h)
        · exact .inr h
        · exact .inl (by rw [h])
        · exact .inr h
      · constructor
        · rintro (h | h)
          · omega
          · exact .inr h
        · rintro (h | h)
          · have := h4 c h; omega
          · exact .inr h
    · rw [runesW_end hp, List.drop_eq_nil_of_le (by omega)]; simp
/-- of ASCII characters only -/
def ascii (cs : Tx) : Prop := ∀ c ∈ cs, c.toNat < 128
theorem runes_map {s : Tx} (hs : ascii s) : ∀ (n p : Nat), s.length - p ≤ n → runesW s p = (s.drop p).map UInt8.toNat
  | 0, p, h => by rw [runesW_end (by omega), List.drop_eq_nil_of_le (by omega)]; rfl
  | n + 1, p, h => by
    by_cases hp : p < s.length
    · have hb : (s.getD p 0).toNat < 128 := by
        rw [List.getD_eq_getElem?_getD, List.getElem?_eq_getElem hp]
        exact hs _ (List.getElem_mem hp)
      rw [runesW_lt hp, runeAt_ascii s p hb, runes_map hs n (p + 1) (by omega), drop_cons hp]
      rfl
    · rw [runesW_end hp, List.drop_eq_nil_of_le (by omega)]; rfl
theorem runes0 {s : Tx} (hs : ascii s) : runesW s 0 = s.map UInt8.toNat := by simpa using runes_map hs s.length 0 (by omega)
theorem runes_has {s : Tx} {c : UInt8} (hc : c.toNat < 128) : decide (c.toNat ∈ runesW s 0) = hasB c s := by
  rw [Bool.eq_iff_iff, decide_eq_true_eq, runes_mem hc s.length 0 (by omega), hasB_true]; rfl
theorem inCs {cs : Tx} (hc : ascii cs) (r : Nat) : r ∈ runesW cs 0 ↔ ∃ c ∈ cs, c.toNat = r := by
  rw [runes0 hc]; simp
/-- all runes of some characters -/
theorem runes_all {s cs : Tx} (hc : ascii cs) : ∀ (n p : Nat), s.length - p ≤ n → ((runesW s p).all fun r => decide (r ∈ runesW cs 0)) = allIn cs (s.drop p)
  | 0, p, h => by rw [runesW_end (by omega), List.drop_eq_nil_of_le (by omega)]; rfl
  | n + 1, p, h => by
    by_cases hp : p < s.length
    · rw [runesW_lt hp]
      obtain ⟨ys, e, _, _, h3⟩ := runes_step hp
      have hw := runeAt_width s p
      rw [List.all_cons, runes_all hc n (p + (runeAt s p).2) (by omega), e, allIn_app]
      congr 1
      rcases h3 with ⟨b, rfl, hb, hb'⟩ | ⟨h6, h4, h5⟩
      · rw [hb, Bool.eq_iff_iff, decide_eq_true_eq, inCs hc, allIn_mem]
        constructor
        · rintro ⟨c, h1, h2⟩ y hy
          rw [List.mem_singleton] at hy
          subst hy
          rw [← UInt8.toNat_inj.1 h2]; exact h1
        · intro h
          exact ⟨b, h b List.mem_cons_self, rfl⟩
      · have e1 : decide ((runeAt s p).1 ∈ runesW cs 0) = false := decide_eq_false fun hm => by
          obtain ⟨c, h1, h2⟩ := (inCs hc _).1 hm
          have := hc c h1
          omega
        rw [e1]
        cases hys : allIn cs ys with
        | false => rfl
        | true =>
          cases ys with
          | nil => exact absurd rfl h6
          | cons y t =>
            have h7 := allIn_mem.1 hys y List.mem_cons_self
            have h8 := hc y h7
            have h9 := h4 y List.mem_cons_self
            omega
    · rw [runesW_end hp, List.drop_eq_nil_of_le (by omega)]; rfl
theorem allIn_ascii {s cs : Tx} (hc : ascii cs) (h : allIn cs s = true) : ascii s := fun c hm => hc c (allIn_mem.1 h c hm)
/-- as the document's function has it -/
theorem within_eq {s cs : Tx} {a b : Nat} (hc : ascii cs) : (((runesW s 0).all fun r => decide (r ∈ runesW cs 0)) && (decide (a ≤ (runesW s 0).length) && decide ((runesW s 0).length ≤ b))) = sWithin s cs a b := by
  have h := runes_all (s := s) hc s.length 0 (by omega)
  rw [List.drop_zero] at h
  rw [h, sWithin]
  cases ha : allIn cs s with
  | false => rfl
  | true => rw [runes0 (allIn_ascii hc ha), List.length_map]
theorem any_eq {s cs : Tx} (hc : ascii cs) : decide (∃ r ∈ runesW s 0, r ∈ runesW cs 0) = cs.any fun c => hasB c s := by
  rw [Bool.eq_iff_iff, decide_eq_true_eq, List.any_eq_true]
  constructor
  · rintro ⟨r, h1, h2⟩
    obtain ⟨c, h3, rfl⟩ := (inCs hc r).1 h2
    exact ⟨c, h3, by rw [← runes_has (hc c h3)]; exact decide_eq_true h1⟩
  · rintro ⟨c, h1, h2⟩
    rw [← runes_has (hc c h1)] at h2
    exact ⟨c.toNat, of_decide_eq_true h2, (inCs hc _).2 ⟨c, h1, rfl⟩⟩
theorem ascii_st : ascii (smallT ++ capT) := by unfold ascii; decide
theorem ascii_sp : ascii (smallT ++ [47]) := by unfold ascii; decide
theorem ascii_dig : ascii digT := by unfold ascii; decide
theorem ascii_hex : ascii hexT := by unfold ascii; decide
end Go.V
/-
  Comparisons and sums where the order is drawn; literals and appends there.
-/
namespace Go.V
open Go.RowKit
set_option linter.unusedVariables false
set_option linter.unusedSimpArgs false
section
variable {P : Program} {n : Nat} {C : Cx} {env : Env} {L : Own} {I : Imm} {ops : Array Oper} {S : World → Prop}
variable {d : Nat} {ty : TypeId} {ps : String} {af : Array Edge} {g : Option (Nat × Bool)} {t t' : TypeId} {x y : Operand} {kd : IntKind} {a b r : Int} {s u : List UInt8}
theorem Yld.lss (hg : want env ops g = some true) (hx : opnd env x = some (.int kd a)) (hy : opnd env y = some (.int kd b)) : Yld P n env ops S ⟨some d, .binOp .lss t x y t', ty, ps, af, g⟩ (.bool (decide (a < b))) :=
  Yld.val hg fun c W he _ => by simp [execOp, eval_opnd he hx, eval_opnd he hy, run_eqGuard_int, binOp, Op.intCmp]
theorem Yld.leq (hg : want env ops g = some true) (hx : opnd env x = some (.int kd a)) (hy : opnd env y = some (.int kd b)) : Yld P n env ops S ⟨some d, .binOp .leq t x y t', ty, ps, af, g⟩ (.bool (decide (a ≤ b))) :=
  Yld.val hg fun c W he _ => by simp [execOp, eval_opnd he hx, eval_opnd he hy, run_eqGuard_int, binOp, Op.intCmp]
theorem Yld.gtr (hg : want env ops g = some true) (hx : opnd env x = some (.int kd a)) (hy : opnd env y = some (.int kd b)) : Yld P n env ops S ⟨some d, .binOp .gtr t x y t', ty, ps, af, g⟩ (.bool (decide (b < a))) :=
  Yld.val hg fun c W he _ => by simp [execOp, eval_opnd he hx, eval_opnd he hy, run_eqGuard_int, binOp, Op.intCmp]
theorem Yld.geq (hg : want env ops g = some true) (hx : opnd env x = some (.int kd a)) (hy : opnd env y = some (.int kd b)) : Yld P n env ops S ⟨some d, .binOp .geq t x y t', ty, ps, af, g⟩ (.bool (decide (b ≤ a))) :=
  Yld.val hg fun c W he _ => by simp [execOp, eval_opnd he hx, eval_opnd he hy, run_eqGuard_int, binOp, Op.intCmp]
theorem Yld.sub (hg : want env ops g = some true) (hx : opnd env x = some (.int kd a)) (hy : opnd env y = some (.int kd b)) (hr : kd.wrap (a - b) = r) : Yld P n env ops S ⟨some d, .binOp .sub t x y t', ty, ps, af, g⟩ (.int kd r) :=
  Yld.val hg fun c W he _ => by subst hr; simp [execOp, eval_opnd he hx, eval_opnd he hy, run_eqGuard_int, binOp, Op.intArith]
theorem Yld.add (hg : want env ops g = some true) (hx : opnd env x = some (.int kd a)) (hy : opnd env y = some (.int kd b)) (hr : kd.wrap (a + b) = r) : Yld P n env ops S ⟨some d, .binOp .add t x y t', ty, ps, af, g⟩ (.int kd r) :=
  Yld.val hg fun c W he _ => by subst hr; simp [execOp, eval_opnd he hx, eval_opnd he hy, run_eqGuard_int, binOp, Op.intArith]
theorem Yld.eqlS (hg : want env ops g = some true) (hx : opnd env x = some (str s)) (hy : opnd env y = some (str u)) : Yld P n env ops S ⟨some d, .binOp .eql t x y t', ty, ps, af, g⟩ (.bool (decide (s = u))) :=
  Yld.val hg fun c W he _ => by
    have : (s == u) = decide (s = u) := by rw [Bool.eq_iff_iff]; simp
    simp [execOp, eval_opnd he hx, eval_opnd he hy, str, run_eqGuard_string, binOp, Op.stringOp, str_toList, this]
theorem Yld.catS (hg : want env ops g = some true) (hx : opnd env x = some (str s)) (hy : opnd env y = some (str u)) (hlen : s.length + u.length ≤ 9223372036854775807) : Yld P n env ops S ⟨some d, .binOp .add t x y t', ty, ps, af, g⟩ (str (s ++ u)) :=
  Yld.val hg fun c W he _ => by
    simp [execOp, eval_opnd he hx, eval_opnd he hy, str, run_eqGuard_string, binOp, Op.stringOp, str_size, str_append]; omega
theorem Yld.lenS {ts : TypeId} (T : Tab P) (hg : want env ops g = some true) (hu : T.und ts = some .string) (hx : opnd env x = some (str s)) : Yld P n env ops S ⟨some d, .call ⟨.builtin .len, #[x], #[ts]⟩, ty, ps, af, g⟩ (.int .i64 s.length) :=
  Yld.val hg fun c W he _ => by simp [execOp, resolve, invoke, builtin, Builtin.len_, eval_opnd he hx, T.undOk hu, str, goInt, str_size]
theorem Eff.buildSlice {t e : TypeId} {len size : Nat} {xs : List (Nat × Operand)} {vs : List (Nat × Value)} {z : Value} {cs : List Value} {K : Value → Own → Imm → Prop}
    (hu : ∀ w, (underlying t).run P w = .ok (.slice e) w) (hz : ∀ w, (zeroValue e).run P w = .ok z w) (hs : ∀ w, (sizeOf e).run P w = .ok size w)
    (hlen : len * size ≤ 16777216) (hx : parts env xs = some vs) (hf : Instr.fill (fun i => some (i * size, size)) ((Array.range (len * size)).map (z.cells[· % z.cells.size]!)) vs = some cs.toArray)
    (next : ∀ b, K (.slice (some ⟨b, 0, none⟩) len len) ((b, blk cs e) :: L) I) : Eff P n C env L I ⟨some d, .buildSlice t len xs.toArray, ty, ps, af, g⟩ K :=
  Eff.valW fun a W he hi => ⟨.slice (some ⟨W.heap.size, 0, none⟩) len len, W.alloc (blk cs e), (W.heap.size, blk cs e) :: L, I,
    .inl (by
      have h1 : ¬ (len * size > 2 ^ 24) := by omega
      have h2 := parts_spec he hx
      have hmap : (List.map (fun (x : Nat × Operand) => match x with | (i, x) => (i, a.eval x)) xs) = vs := h2
      simp only [execOp, Instr.buildSlice, Sem.run_bind, hu, hs, Result.andThen_ok, h1, if_false, List.map_toArray, hmap, pure_bind, Sem.run_pure]
      by_cases h0 : len * size = 0
      · rw [if_pos h0]
        have hf' : Instr.fill (fun i => some (i * size, size)) ((Array.range (len * size)).map ((#[] : Array Value)[· % (#[] : Array Value).size]!)) vs = some cs.toArray := by
          have e : ∀ f : Nat → Value, (Array.range 0).map f = #[] := fun f => by simp
          rw [h0, e] at hf ⊢; exact hf
        simp only [hf']
        rfl
      · rw [if_neg h0]
        simp only [Sem.run_bind, hz, Result.andThen_ok, hf]
        rfl), hi.alloc _, next _⟩
theorem Eff.append {s x : Operand} {ts tx e : TypeId} {size bytes : Nat} {M N : Own} {v xv : Value} {m q : Nat} {xs news : List Value} {K : Value → Own → Imm → Prop} (hE : Elem P ts e size bytes)
    (hs : opnd env s = some v) (hx : opnd env x = some xv) (hL : L.Perm (M ++ N)) (hG : Grows e size v m xs M)
    (hsrc : ∀ W, Inv C.w0 C.I0 C.L0 I L W → Src P size tx xv q news W) (hbytes : (2 * (m + q) + 512) * bytes ≤ 281474976710656) (h63 : m + q ≤ 4611686018427387904)
    (next : ∀ v' M', Grows e size v' (m + q) (xs ++ news) M' → K v' (M' ++ N) I) :
    Eff P n C env L I ⟨some d, .call ⟨.builtin .append, #[s, x], #[ts, tx]⟩, ty, ps, af, g⟩ K :=
  Eff.valW fun a W he hi => by
    obtain ⟨v', W', M', hr, hG', hi'⟩ := run_append_grows (P := P) (ty := ty) hE (hi.perm hL) hG (hsrc W hi) hbytes h63
    refine ⟨v', W', M' ++ N, I, .inl ?_, hi', next v' M' hG'⟩
    simp [execOp, resolve, invoke, builtin, eval_opnd he hs, eval_opnd he hx, hr]
end
theorem Yld.as {P : Program} {n : Nat} {env : Env} {ops : Array Oper} {S : World → Prop} {o : Oper} {v v' : Value} (h : Yld P n env ops S o v) (e : v = v') : Yld P n env ops S o v' := e ▸ h
end Go.V
/-
  Which type stands where in this seat's translation: by its own numbers. Written by gen_types.py.
-/
namespace Go.V
set_option linter.unusedVariables false
set_option maxRecDepth 100000
noncomputable def undL : List TypeDesc := [Proofs.Tryz.t0.desc, Proofs.Tryz.t1.desc, Proofs.Tryz.t2.desc, Proofs.Tryz.t3.desc, Proofs.Tryz.t4.desc, Proofs.Tryz.t5.desc, Proofs.Tryz.t5.desc, Proofs.Tryz.t7.desc, Proofs.Tryz.t7.desc, Proofs.Tryz.t9.desc, Proofs.Tryz.t9.desc, Proofs.Tryz.t9.desc, Proofs.Tryz.t12.desc, Proofs.Tryz.t13.desc, Proofs.Tryz.t13.desc, Proofs.Tryz.t15.desc, Proofs.Tryz.t16.desc, Proofs.Tryz.t17.desc, Proofs.Tryz.t18.desc, Proofs.Tryz.t18.desc, Proofs.Tryz.t20.desc, Proofs.Tryz.t21.desc, Proofs.Tryz.t22.desc, Proofs.Tryz.t22.desc, Proofs.Tryz.t24.desc, Proofs.Tryz.t25.desc, Proofs.Tryz.t25.desc, Proofs.Tryz.t27.desc, Proofs.Tryz.t28.desc, Proofs.Tryz.t29.desc, Proofs.Tryz.t29.desc, Proofs.Tryz.t31.desc, Proofs.Tryz.t32.desc, Proofs.Tryz.t33.desc, Proofs.Tryz.t34.desc, Proofs.Tryz.t35.desc, Proofs.Tryz.t36.desc, Proofs.Tryz.t37.desc, Proofs.Tryz.t38.desc, Proofs.Tryz.t39.desc, Proofs.Tryz.t40.desc, Proofs.Tryz.t41.desc, Proofs.Tryz.t42.desc, Proofs.Tryz.t42.desc, Proofs.Tryz.t44.desc, Proofs.Tryz.t44.desc, Proofs.Tryz.t46.desc, Proofs.Tryz.t47.desc, Proofs.Tryz.t48.desc, Proofs.Tryz.t49.desc, Proofs.Tryz.t50.desc, Proofs.Tryz.t51.desc, Proofs.Tryz.t51.desc, Proofs.Tryz.t53.desc, Proofs.Tryz.t53.desc, Proofs.Tryz.t55.desc, Proofs.Tryz.t55.desc, Proofs.Tryz.t57.desc, Proofs.Tryz.t58.desc, Proofs.Tryz.t58.desc, Proofs.Tryz.t60.desc, Proofs.Tryz.t61.desc, Proofs.Tryz.t62.desc, Proofs.Tryz.t63.desc, Proofs.Tryz.t64.desc, Proofs.Tryz.t65.desc, Proofs.Tryz.t66.desc, Proofs.Tryz.t67.desc, Proofs.Tryz.t68.desc, Proofs.Tryz.t69.desc, Proofs.Tryz.t70.desc, Proofs.Tryz.t71.desc, Proofs.Tryz.t72.desc, Proofs.Tryz.t73.desc, Proofs.Tryz.t74.desc, Proofs.Tryz.t75.desc, Proofs.Tryz.t76.desc, Proofs.Tryz.t77.desc, Proofs.Tryz.t78.desc, Proofs.Tryz.t79.desc, Proofs.Tryz.t80.desc, Proofs.Tryz.t81.desc, Proofs.Tryz.t82.desc, Proofs.Tryz.t83.desc, Proofs.Tryz.t84.desc, Proofs.Tryz.t85.desc, Proofs.Tryz.t86.desc, Proofs.Tryz.t86.desc, Proofs.Tryz.t88.desc, Proofs.Tryz.t89.desc, Proofs.Tryz.t90.desc, Proofs.Tryz.t91.desc, Proofs.Tryz.t91.desc, Proofs.Tryz.t93.desc, Proofs.Tryz.t94.desc, Proofs.Tryz.t95.desc, Proofs.Tryz.t96.desc, Proofs.Tryz.t97.desc, Proofs.Tryz.t98.desc, Proofs.Tryz.t99.desc, Proofs.Tryz.t100.desc, Proofs.Tryz.t101.desc, Proofs.Tryz.t102.desc, Proofs.Tryz.t103.desc, Proofs.Tryz.t103.desc, Proofs.Tryz.t105.desc, Proofs.Tryz.t106.desc, Proofs.Tryz.t107.desc, Proofs.Tryz.t108.desc, Proofs.Tryz.t109.desc, Proofs.Tryz.t110.desc, Proofs.Tryz.t111.desc, Proofs.Tryz.t112.desc, Proofs.Tryz.t112.desc, Proofs.Tryz.t114.desc, Proofs.Tryz.t115.desc, Proofs.Tryz.t116.desc, Proofs.Tryz.t9.desc, Proofs.Tryz.t118.desc, Proofs.Tryz.t119.desc, Proofs.Tryz.t120.desc, Proofs.Tryz.t121.desc, Proofs.Tryz.t122.desc, Proofs.Tryz.t123.desc, Proofs.Tryz.t124.desc, Proofs.Tryz.t125.desc, Proofs.Tryz.t126.desc, Proofs.Tryz.t127.desc, Proofs.Tryz.t128.desc, Proofs.Tryz.t128.desc, Proofs.Tryz.t130.desc, Proofs.Tryz.t131.desc, Proofs.Tryz.t132.desc, Proofs.Tryz.t133.desc, Proofs.Tryz.t134.desc, Proofs.Tryz.t135.desc, Proofs.Tryz.t136.desc, Proofs.Tryz.t136.desc, Proofs.Tryz.t138.desc, Proofs.Tryz.t139.desc, Proofs.Tryz.t139.desc, Proofs.Tryz.t141.desc, Proofs.Tryz.t142.desc, Proofs.Tryz.t5.desc, Proofs.Tryz.t5.desc, Proofs.Tryz.t145.desc, Proofs.Tryz.t21.desc, Proofs.Tryz.t21.desc, Proofs.Tryz.t148.desc, Proofs.Tryz.t148.desc]
noncomputable def tiL : List TypeInfo := [Proofs.Tryz.t0, Proofs.Tryz.t1, Proofs.Tryz.t2, Proofs.Tryz.t3, Proofs.Tryz.t4, Proofs.Tryz.t5, Proofs.Tryz.t6, Proofs.Tryz.t7, Proofs.Tryz.t8, Proofs.Tryz.t9, Proofs.Tryz.t10, Proofs.Tryz.t11, Proofs.Tryz.t12, Proofs.Tryz.t13, Proofs.Tryz.t14, Proofs.Tryz.t15, Proofs.Tryz.t16, Proofs.Tryz.t17, Proofs.Tryz.t18, Proofs.Tryz.t19, Proofs.Tryz.t20, Proofs.Tryz.t21, Proofs.Tryz.t22, Proofs.Tryz.t23, Proofs.Tryz.t24, Proofs.Tryz.t25, Proofs.Tryz.t26, Proofs.Tryz.t27, Proofs.Tryz.t28, Proofs.Tryz.t29, Proofs.Tryz.t30, Proofs.Tryz.t31, Proofs.Tryz.t32, Proofs.Tryz.t33, Proofs.Tryz.t34, Proofs.Tryz.t35, Proofs.Tryz.t36, Proofs.Tryz.t37, Proofs.Tryz.t38, Proofs.Tryz.t39, Proofs.Tryz.t40, Proofs.Tryz.t41, Proofs.Tryz.t42, Proofs.Tryz.t43, Proofs.Tryz.t44, Proofs.Tryz.t45, Proofs.Tryz.t46, Proofs.Tryz.t47, Proofs.Tryz.t48, Proofs.Tryz.t49, Proofs.Tryz.t50, Proofs.Tryz.t51, Proofs.Tryz.t52, Proofs.Tryz.t53, Proofs.Tryz.t54, Proofs.Tryz.t55, Proofs.Tryz.t56, Proofs.Tryz.t57, Proofs.Tryz.t58, Proofs.Tryz.t59, Proofs.Tryz.t60, Proofs.Tryz.t61, Proofs.Tryz.t62, Proofs.Tryz.t63, Proofs.Tryz.t64, Proofs.Tryz.t65, Proofs.Tryz.t66, Proofs.Tryz.t67, Proofs.Tryz.t68, Proofs.Tryz.t69, Proofs.Tryz.t70, Proofs.Tryz.t71, Proofs.Tryz.t72, Proofs.Tryz.t73, Proofs.Tryz.t74, Proofs.Tryz.t75, Proofs.Tryz.t76, Proofs.Tryz.t77, Proofs.Tryz.t78, Proofs.Tryz.t79, Proofs.Tryz.t80, Proofs.Tryz.t81, Proofs.Tryz.t82, Proofs.Tryz.t83, Proofs.Tryz.t84, Proofs.Tryz.t85, Proofs.Tryz.t86, Proofs.Tryz.t87, Proofs.Tryz.t88, Proofs.Tryz.t89, Proofs.Tryz.t90, Proofs.Tryz.t91, Proofs.Tryz.t92, Proofs.Tryz.t93, Proofs.Tryz.t94, Proofs.Tryz.t95, Proofs.Tryz.t96, Proofs.Tryz.t97, Proofs.Tryz.t98, Proofs.Tryz.t99, Proofs.Tryz.t100, Proofs.Tryz.t101, Proofs.Tryz.t102, Proofs.Tryz.t103, Proofs.Tryz.t104, Proofs.Tryz.t105, Proofs.Tryz.t106, Proofs.Tryz.t107, Proofs.Tryz.t108, Proofs.Tryz.t109, Proofs.Tryz.t110, Proofs.Tryz.t111, Proofs.Tryz.t112, Proofs.Tryz.t113, Proofs.Tryz.t114, Proofs.Tryz.t115, Proofs.Tryz.t116, Proofs.Tryz.t117, Proofs.Tryz.t118, Proofs.Tryz.t119, Proofs.Tryz.t120, Proofs.Tryz.t121, Proofs.Tryz.t122, Proofs.Tryz.t123, Proofs.Tryz.t124, Proofs.Tryz.t125, Proofs.Tryz.t126, Proofs.Tryz.t127, Proofs.Tryz.t128, Proofs.Tryz.t129, Proofs.Tryz.t130, Proofs.Tryz.t131, Proofs.Tryz.t132, Proofs.Tryz.t133, Proofs.Tryz.t134, Proofs.Tryz.t135, Proofs.Tryz.t136, Proofs.Tryz.t137, Proofs.Tryz.t138, Proofs.Tryz.t139, Proofs.Tryz.t140, Proofs.Tryz.t141, Proofs.Tryz.t142, Proofs.Tryz.t143, Proofs.Tryz.t144, Proofs.Tryz.t145, Proofs.Tryz.t146, Proofs.Tryz.t147, Proofs.Tryz.t148, Proofs.Tryz.t149]
def AllU (P : Program) : Nat → List TypeDesc → Prop
  | _, [] => True
  | i, u :: r => (∀ w, (underlying i).run P w = .ok u w) ∧ AllU P (i + 1) r
def AllI (P : Program) : Nat → List TypeInfo → Prop
  | _, [] => True
  | i, u :: r => (∀ w, (typeInfo i).run P w = .ok u w) ∧ AllI P (i + 1) r
theorem AllU.get {P : Program} : ∀ {l : List TypeDesc} {i t : Nat} {u : TypeDesc}, AllU P i l → l[t]? = some u → ∀ w, (underlying (i + t)).run P w = .ok u w
  | [], i, t, u, _, h => by simp at h
  | x :: r, i, 0, u, h, e => by simp at e; subst e; exact h.1
  | x :: r, i, t + 1, u, h, e => by
    have := AllU.get h.2 (t := t) (by simpa using e)
    rwa [show i + 1 + t = i + (t + 1) by omega] at this
theorem AllI.get {P : Program} : ∀ {l : List TypeInfo} {i t : Nat} {u : TypeInfo}, AllI P i l → l[t]? = some u → ∀ w, (typeInfo (i + t)).run P w = .ok u w
  | [], i, t, u, _, h => by simp at h
  | x :: r, i, 0, u, h, e => by simp at e; subst e; exact h.1
  | x :: r, i, t + 1, u, h, e => by
    have := AllI.get h.2 (t := t) (by simpa using e)
    rwa [show i + 1 + t = i + (t + 1) by omega] at this
theorem undL_all : AllU Proofs.Tryz.prog 0 undL := ⟨Proofs.Tryz.runUnderlying0, Proofs.Tryz.runUnderlying1, Proofs.Tryz.runUnderlying2, Proofs.Tryz.runUnderlying3, Proofs.Tryz.runUnderlying4, Proofs.Tryz.runUnderlying5, Proofs.Tryz.runUnderlying6, Proofs.Tryz.runUnderlying7, Proofs.Tryz.runUnderlying8, Proofs.Tryz.runUnderlying9, Proofs.Tryz.runUnderlying10, Proofs.Tryz.runUnderlying11, Proofs.Tryz.runUnderlying12, Proofs.Tryz.runUnderlying13, Proofs.Tryz.runUnderlying14, Proofs.Tryz.runUnderlying15, Proofs.Tryz.runUnderlying16, Proofs.Tryz.runUnderlying17, Proofs.Tryz.runUnderlying18, Proofs.Tryz.runUnderlying19, Proofs.Tryz.runUnderlying20, Proofs.Tryz.runUnderlying21, Proofs.Tryz.runUnderlying22, Proofs.Tryz.runUnderlying23, Proofs.Tryz.runUnderlying24, Proofs.Tryz.runUnderlying25, Proofs.Tryz.runUnderlying26, Proofs.Tryz.runUnderlying27, Proofs.Tryz.runUnderlying28, Proofs.Tryz.runUnderlying29, Proofs.Tryz.runUnderlying30, Proofs.Tryz.runUnderlying31, Proofs.Tryz.runUnderlying32, Proofs.Tryz.runUnderlying33, Proofs.Tryz.runUnderlying34, Proofs.Tryz.runUnderlying35, Proofs.Tryz.runUnderlying36, Proofs.Tryz.runUnderlying37, Proofs.Tryz.runUnderlying38, Proofs.Tryz.runUnderlying39, Proofs.Tryz.runUnderlying40, Proofs.Tryz.runUnderlying41, Proofs.Tryz.runUnderlying42, Proofs.Tryz.runUnderlying43, Proofs.Tryz.runUnderlying44, Proofs.Tryz.runUnderlying45, Proofs.Tryz.runUnderlying46, Proofs.Tryz.runUnderlying47, Proofs.Tryz.runUnderlying48, Proofs.Tryz.runUnderlying49, Proofs.Tryz.runUnderlying50, Proofs.Tryz.runUnderlying51, Proofs.Tryz.runUnderlying52, Proofs.Tryz.runUnderlying53, Proofs.Tryz.runUnderlying54, Proofs.Tryz.runUnderlying55, Proofs.Tryz.runUnderlying56, Proofs.Tryz.runUnderlying57, Proofs.Tryz.runUnderlying58, Proofs.Tryz.runUnderlying59, Proofs.Tryz.runUnderlying60, Proofs.Tryz.runUnderlying61, Proofs.Tryz.runUnderlying62, Proofs.Tryz.runUnderlying63, Proofs.Tryz.runUnderlying64, Proofs.Tryz.runUnderlying65, Proofs.Tryz.runUnderlying66, Proofs.Tryz.runUnderlying67, Proofs.Tryz.runUnderlying68, Proofs.Tryz.runUnderlying69, Proofs.Tryz.runUnderlying70, Proofs.Tryz.runUnderlying71, Proofs.Tryz.runUnderlying72, Proofs.Tryz.runUnderlying73, Proofs.Tryz.runUnderlying74, Proofs.Tryz.runUnderlying75, Proofs.Tryz.runUnderlying76, Proofs.Tryz.runUnderlying77, Proofs.Tryz.runUnderlying78, Proofs.Tryz.runUnderlying79, Proofs.Tryz.runUnderlying80, Proofs.Tryz.runUnderlying81, Proofs.Tryz.runUnderlying82, Proofs.Tryz.runUnderlying83, Proofs.Tryz.runUnderlying84, Proofs.Tryz.runUnderlying85, Proofs.Tryz.runUnderlying86, Proofs.Tryz.runUnderlying87, Proofs.Tryz.runUnderlying88, Proofs.Tryz.runUnderlying89, Proofs.Tryz.runUnderlying90, Proofs.Tryz.runUnderlying91, Proofs.Tryz.runUnderlying92, Proofs.Tryz.runUnderlying93, Proofs.Tryz.runUnderlying94, Proofs.Tryz.runUnderlying95, Proofs.Tryz.runUnderlying96, Proofs.Tryz.runUnderlying97, Proofs.Tryz.runUnderlying98, Proofs.Tryz.runUnderlying99, Proofs.Tryz.runUnderlying100, Proofs.Tryz.runUnderlying101, Proofs.Tryz.runUnderlying102, Proofs.Tryz.runUnderlying103, Proofs.Tryz.runUnderlying104, Proofs.Tryz.runUnderlying105, Proofs.Tryz.runUnderlying106, Proofs.Tryz.runUnderlying107, Proofs.Tryz.runUnderlying108, Proofs.Tryz.runUnderlying109, Proofs.Tryz.runUnderlying110, Proofs.Tryz.runUnderlying111, Proofs.Tryz.runUnderlying112, Proofs.Tryz.runUnderlying113, Proofs.Tryz.runUnderlying114, Proofs.Tryz.runUnderlying115, Proofs.Tryz.runUnderlying116, Proofs.Tryz.runUnderlying117, Proofs.Tryz.runUnderlying118, Proofs.Tryz.runUnderlying119, Proofs.Tryz.runUnderlying120, Proofs.Tryz.runUnderlying121, Proofs.Tryz.runUnderlying122, Proofs.Tryz.runUnderlying123, Proofs.Tryz.runUnderlying124, Proofs.Tryz.runUnderlying125, Proofs.Tryz.runUnderlying126, Proofs.Tryz.runUnderlying127, Proofs.Tryz.runUnderlying128, Proofs.Tryz.runUnderlying129, Proofs.Tryz.runUnderlying130, Proofs.Tryz.runUnderlying131, Proofs.Tryz.runUnderlying132, Proofs.Tryz.runUnderlying133, Proofs.Tryz.runUnderlying134, Proofs.Tryz.runUnderlying135, Proofs.Tryz.runUnderlying136, Proofs.Tryz.runUnderlying137, Proofs.Tryz.runUnderlying138, Proofs.Tryz.runUnderlying139, Proofs.Tryz.runUnderlying140, Proofs.Tryz.runUnderlying141, Proofs.Tryz.runUnderlying142, Proofs.Tryz.runUnderlying143, Proofs.Tryz.runUnderlying144, Proofs.Tryz.runUnderlying145, Proofs.Tryz.runUnderlying146, Proofs.Tryz.runUnderlying147, Proofs.Tryz.runUnderlying148, Proofs.Tryz.runUnderlying149, trivial⟩
theorem tiL_all : AllI Proofs.Tryz.prog 0 tiL := ⟨Proofs.Tryz.typeInfo0, Proofs.Tryz.typeInfo1, Proofs.Tryz.typeInfo2, Proofs.Tryz.typeInfo3, Proofs.Tryz.typeInfo4, Proofs.Tryz.typeInfo5, Proofs.Tryz.typeInfo6, Proofs.Tryz.typeInfo7, Proofs.Tryz.typeInfo8, Proofs.Tryz.typeInfo9, Proofs.Tryz.typeInfo10, Proofs.Tryz.typeInfo11, Proofs.Tryz.typeInfo12, Proofs.Tryz.typeInfo13, Proofs.Tryz.typeInfo14, Proofs.Tryz.typeInfo15, Proofs.Tryz.typeInfo16, Proofs.Tryz.typeInfo17, Proofs.Tryz.typeInfo18, Proofs.Tryz.typeInfo19, Proofs.Tryz.typeInfo20, Proofs.Tryz.typeInfo21, Proofs.Tryz.typeInfo22, Proofs.Tryz.typeInfo23, Proofs.Tryz.typeInfo24, Proofs.Tryz.typeInfo25, Proofs.Tryz.typeInfo26, Proofs.Tryz.typeInfo27, Proofs.Tryz.typeInfo28, Proofs.Tryz.typeInfo29, Proofs.Tryz.typeInfo30, Proofs.Tryz.typeInfo31, Proofs.Tryz.typeInfo32, Proofs.Tryz.typeInfo33, Proofs.Tryz.typeInfo34, Proofs.Tryz.typeInfo35, Proofs.Tryz.typeInfo36, Proofs.Tryz.typeInfo37, Proofs.Tryz.typeInfo38, Proofs.Tryz.typeInfo39, Proofs.Tryz.typeInfo40, Proofs.Tryz.typeInfo41, Proofs.Tryz.typeInfo42, Proofs.Tryz.typeInfo43, Proofs.Tryz.typeInfo44, Proofs.Tryz.typeInfo45, Proofs.Tryz.typeInfo46, Proofs.Tryz.typeInfo47, Proofs.Tryz.typeInfo48, Proofs.Tryz.typeInfo49, Proofs.Tryz.typeInfo50, Proofs.Tryz.typeInfo51, Proofs.Tryz.typeInfo52, Proofs.Tryz.typeInfo53, Proofs.Tryz.typeInfo54, Proofs.Tryz.typeInfo55, Proofs.Tryz.typeInfo56, Proofs.Tryz.typeInfo57, Proofs.Tryz.typeInfo58, Proofs.Tryz.typeInfo59, Proofs.Tryz.typeInfo60, Proofs.Tryz.typeInfo61, Proofs.Tryz.typeInfo62, Proofs.Tryz.typeInfo63, Proofs.Tryz.typeInfo64, Proofs.Tryz.typeInfo65, Proofs.Tryz.typeInfo66, Proofs.Tryz.typeInfo67, Proofs.Tryz.typeInfo68, Proofs.Tryz.typeInfo69, Proofs.Tryz.typeInfo70, Proofs.Tryz.typeInfo71, Proofs.Tryz.typeInfo72, Proofs.Tryz.typeInfo73, Proofs.Tryz.typeInfo74, Proofs.Tryz.typeInfo75, Proofs.Tryz.typeInfo76, Proofs.Tryz.typeInfo77, Proofs.Tryz.typeInfo78, Proofs.Tryz.typeInfo79, Proofs.Tryz.typeInfo80, Proofs.Tryz.typeInfo81, Proofs.Tryz.typeInfo82, Proofs.Tryz.typeInfo83, Proofs.Tryz.typeInfo84, Proofs.Tryz.typeInfo85, Proofs.Tryz.typeInfo86, Proofs.Tryz.typeInfo87, Proofs.Tryz.typeInfo88, Proofs.Tryz.typeInfo89, Proofs.Tryz.typeInfo90, Proofs.Tryz.typeInfo91, Proofs.Tryz.typeInfo92, Proofs.Tryz.typeInfo93, Proofs.Tryz.typeInfo94, Proofs.Tryz.typeInfo95, Proofs.Tryz.typeInfo96, Proofs.Tryz.typeInfo97, Proofs.Tryz.typeInfo98, Proofs.Tryz.typeInfo99, Proofs.Tryz.typeInfo100, Proofs.Tryz.typeInfo101, Proofs.Tryz.typeInfo102, Proofs.Tryz.typeInfo103, Proofs.Tryz.typeInfo104, Proofs.Tryz.typeInfo105, Proofs.Tryz.typeInfo106, Proofs.Tryz.typeInfo107, Proofs.Tryz.typeInfo108, Proofs.Tryz.typeInfo109, Proofs.Tryz.typeInfo110, Proofs.Tryz.typeInfo111, Proofs.Tryz.typeInfo112, Proofs.Tryz.typeInfo113, Proofs.Tryz.typeInfo114, Proofs.Tryz.typeInfo115, Proofs.Tryz.typeInfo116, Proofs.Tryz.typeInfo117, Proofs.Tryz.typeInfo118, Proofs.Tryz.typeInfo119, Proofs.Tryz.typeInfo120, Proofs.Tryz.typeInfo121, Proofs.Tryz.typeInfo122, Proofs.Tryz.typeInfo123, Proofs.Tryz.typeInfo124, Proofs.Tryz.typeInfo125, Proofs.Tryz.typeInfo126, Proofs.Tryz.typeInfo127, Proofs.Tryz.typeInfo128, Proofs.Tryz.typeInfo129, Proofs.Tryz.typeInfo130, Proofs.Tryz.typeInfo131, Proofs.Tryz.typeInfo132, Proofs.Tryz.typeInfo133, Proofs.Tryz.typeInfo134, Proofs.Tryz.typeInfo135, Proofs.Tryz.typeInfo136, Proofs.Tryz.typeInfo137, Proofs.Tryz.typeInfo138, Proofs.Tryz.typeInfo139, Proofs.Tryz.typeInfo140, Proofs.Tryz.typeInfo141, Proofs.Tryz.typeInfo142, Proofs.Tryz.typeInfo143, Proofs.Tryz.typeInfo144, Proofs.Tryz.typeInfo145, Proofs.Tryz.typeInfo146, Proofs.Tryz.typeInfo147, Proofs.Tryz.typeInfo148, Proofs.Tryz.typeInfo149, trivial⟩
noncomputable def und (t : Nat) : Option TypeDesc := undL[t]?
noncomputable def tinfo (t : Nat) : Option TypeInfo := tiL[t]?
theorem und_ok {t : Nat} {u : TypeDesc} (h : und t = some u) : ∀ w, (underlying t).run Proofs.Tryz.prog w = .ok u w := by
  have := undL_all.get h; simpa using this
theorem tinfo_ok {t : Nat} {u : TypeInfo} (h : tinfo t = some u) : ∀ w, (typeInfo t).run Proofs.Tryz.prog w = .ok u w := by
  have := tiL_all.get h; simpa using this
def aggOf : TypeDesc → Bool
  | .struct _ => true
  | .array _ _ => true
  | _ => false
theorem isAgg_of {P : Program} {t : TypeId} {u : TypeDesc} (h : ∀ w, (underlying t).run P w = .ok u w) : ∀ w, (isAgg t).run P w = .ok (aggOf u) w := by
  intro w; simp only [isAgg, Sem.run_bind, h, Result.andThen_ok]; cases u <;> rfl
noncomputable def T : Tab Proofs.Tryz.prog where
  und := und
  size t := (tinfo t).map (·.size)
  agg t := (und t).map aggOf
  zero t := (tinfo t).bind (·.zero)
  undOk := und_ok
  sizeOk {t m} h w := by
    cases hi : tinfo t with
    | none => simp [hi] at h
    | some u => simp [hi] at h; simp [sizeOf, tinfo_ok hi, h]
  aggOk {t b} h w := by
    cases hi : und t with
    | none => simp [hi] at h
    | some u => simp [hi] at h; rw [isAgg_of (und_ok hi), h]
  zeroOk {t z} h w := by
    cases hi : tinfo t with
    | none => simp [hi] at h
    | some u => simp [hi] at h; simp [zeroValue, tinfo_ok hi, h]
theorem bd26 : ∀ w ps cells, Instr.fill (([(0, 1), (1, 1), (2, 1), (3, 1), (4, 1), (5, 1), (6, 1), (7, 1), (8, 1), (9, 1), (10, 1)] : List (Nat × Nat))[·]?) (Proofs.Tryz.t26.zero.getD undef).cells ps = some cells → (Instr.build 26 ps.toArray).run Proofs.Tryz.prog w = .ok (.agg cells) w := by
  intro w ps cells h
  simp only [Proofs.Tryz.t26, Option.getD] at h
  simp [Instr.build, Proofs.Tryz.runUnderlying26, Proofs.Tryz.zeroValue26, Proofs.Tryz.sizeOf3, Proofs.Tryz.sizeOf9, h]
theorem bd30 : ∀ w ps cells, Instr.fill (([(0, 1), (1, 1), (2, 1), (3, 1)] : List (Nat × Nat))[·]?) (Proofs.Tryz.t30.zero.getD undef).cells ps = some cells → (Instr.build 30 ps.toArray).run Proofs.Tryz.prog w = .ok (.agg cells) w := by
  intro w ps cells h
  simp only [Proofs.Tryz.t30, Option.getD] at h
  simp [Instr.build, Proofs.Tryz.runUnderlying30, Proofs.Tryz.zeroValue30, Proofs.Tryz.sizeOf4, Proofs.Tryz.sizeOf9, h]
theorem el36 : Elem Proofs.Tryz.prog 36 9 1 16 := ⟨Proofs.Tryz.underlying36, Proofs.Tryz.t9, _, by kernel_rfl, rfl, rfl, rfl, rfl⟩
theorem el48 : Elem Proofs.Tryz.prog 48 87 1 8 := ⟨Proofs.Tryz.underlying48, Proofs.Tryz.t87, _, by kernel_rfl, rfl, rfl, rfl, rfl⟩
theorem bd52 : ∀ w ps cells, Instr.fill (([(0, 1), (1, 1)] : List (Nat × Nat))[·]?) (Proofs.Tryz.t52.zero.getD undef).cells ps = some cells → (Instr.build 52 ps.toArray).run Proofs.Tryz.prog w = .ok (.agg cells) w := by
  intro w ps cells h
  simp only [Proofs.Tryz.t52, Option.getD] at h
  simp [Instr.build, Proofs.Tryz.runUnderlying52, Proofs.Tryz.zeroValue52, Proofs.Tryz.sizeOf4, Proofs.Tryz.sizeOf9, h]
theorem bd54 : ∀ w ps cells, Instr.fill (([(0, 2), (2, 1)] : List (Nat × Nat))[·]?) (Proofs.Tryz.t54.zero.getD undef).cells ps = some cells → (Instr.build 54 ps.toArray).run Proofs.Tryz.prog w = .ok (.agg cells) w := by
  intro w ps cells h
  simp only [Proofs.Tryz.t54, Option.getD] at h
  simp [Instr.build, Proofs.Tryz.runUnderlying54, Proofs.Tryz.zeroValue54, Proofs.Tryz.sizeOf9, Proofs.Tryz.sizeOf52, h]
theorem bd56 : ∀ w ps cells, Instr.fill (([(0, 3), (3, 1), (4, 1)] : List (Nat × Nat))[·]?) (Proofs.Tryz.t56.zero.getD undef).cells ps = some cells → (Instr.build 56 ps.toArray).run Proofs.Tryz.prog w = .ok (.agg cells) w := by
  intro w ps cells h
  simp only [Proofs.Tryz.t56, Option.getD] at h
  simp [Instr.build, Proofs.Tryz.runUnderlying56, Proofs.Tryz.zeroValue56, Proofs.Tryz.sizeOf9, Proofs.Tryz.sizeOf54, h]
theorem bd59 : ∀ w ps cells, Instr.fill (([(0, 3), (3, 1), (4, 1)] : List (Nat × Nat))[·]?) (Proofs.Tryz.t59.zero.getD undef).cells ps = some cells → (Instr.build 59 ps.toArray).run Proofs.Tryz.prog w = .ok (.agg cells) w := by
  intro w ps cells h
  simp only [Proofs.Tryz.t59, Option.getD] at h
  simp [Instr.build, Proofs.Tryz.runUnderlying59, Proofs.Tryz.zeroValue59, Proofs.Tryz.sizeOf9, Proofs.Tryz.sizeOf54, h]
theorem bd92 : ∀ w ps cells, Instr.fill (([(0, 1), (1, 1), (2, 1), (3, 1)] : List (Nat × Nat))[·]?) (Proofs.Tryz.t92.zero.getD undef).cells ps = some cells → (Instr.build 92 ps.toArray).run Proofs.Tryz.prog w = .ok (.agg cells) w := by
  intro w ps cells h
  simp only [Proofs.Tryz.t92, Option.getD] at h
  simp [Instr.build, Proofs.Tryz.runUnderlying92, Proofs.Tryz.zeroValue92, Proofs.Tryz.sizeOf4, Proofs.Tryz.sizeOf9, h]
theorem bd104 : ∀ w ps cells, Instr.fill (([(0, 1)] : List (Nat × Nat))[·]?) (Proofs.Tryz.t104.zero.getD undef).cells ps = some cells → (Instr.build 104 ps.toArray).run Proofs.Tryz.prog w = .ok (.agg cells) w := by
  intro w ps cells h
  simp only [Proofs.Tryz.t104, Option.getD] at h
  simp [Instr.build, Proofs.Tryz.runUnderlying104, Proofs.Tryz.zeroValue104, Proofs.Tryz.sizeOf9, h]
end Go.V
/-
  Searches in texts, as the program has them.
-/
namespace Go.V
open Go.RowKit
set_option linter.unusedVariables false
set_option linter.unusedSimpArgs false
set_option maxRecDepth 10000
attribute [local irreducible] Run Ops
/-- a byte as a value -/
def u8 (c : UInt8) : Value := .int .u8 (c.toNat : Int)
set_option maxHeartbeats 400000 in
theorem name_zzIndex (s : List UInt8) (c : UInt8) (I : Imm) (hs : s.length ≤ 4620000000000000000) :
    Pure Proofs.Tryz.prog 97 [str s, str [c]] I fun v _ => v = .int .i64 (ixI c s) := by
  refine Spec.enter 25 [(0, _), (1, _)] Proofs.Tryz.func97 rfl Proofs.Tryz.ntmps97 (by simp) rfl ?_
  intro C hCf hR hCI
  repeat (first | refine Run.seq ?_ | refine Run.region ?_ | refine Ops.nil ?_ | refine Run.block ?_ | refine Ops.pure T rfl (by decide) rfl ?_)
  refine Run.keep [0, 1, 5] [_, _, _] rfl ?_
  refine Run.rounds (fun m env L J => ∃ i : Nat, m = s.length - i ∧ i ≤ s.length ∧ ix c s = (ix c (s.drop i)).map (· + i) ∧ env = [(0, str s), (1, str [c]), (5, .int .i64 i)] ∧ L = [] ∧ J = I) s.length ⟨0, by omega, by omega, by simp, rfl, rfl, rfl⟩ ?_
  rintro m env L J ⟨i, rfl, hi, hix, rfl, rfl, rfl⟩ ih
  repeat (first | refine Run.seq ?_ | refine Run.region ?_ | refine Ops.nil ?_ | refine Ops.add rfl (by decide) rfl rfl (wI (by first | omega | (simp only [List.length_cons, List.length_nil] ; omega) | (simp; omega)) (by first | omega | (simp only [List.length_cons, List.length_nil] ; omega) | (simp; omega))) ?_ | refine Ops.leq rfl (by decide) rfl rfl ?_ | refine Ops.pure T rfl (by decide) rfl ?_ | refine Ops.lenS T rfl (by decide) rfl rfl ?_)
  refine Run.cond rfl rfl (fun h => ?_) (fun h => ?_)
  all_goals (try rw [h])
  all_goals (try simp only [decide_eq_true_eq, decide_eq_false_iff_not, Bool.not_eq_true', Bool.not_eq_false', Bool.and_eq_true, Bool.or_eq_true, Bool.and_eq_false_imp, Bool.or_eq_false_iff] at h)
  · have hi' : i < s.length := by simp at h; omega
    have hx := ix_drop c s i hi'
    have hcut : List.drop (Int.toNat (i : Int)) (List.take (Int.toNat ((i : Int) + (([c] : List UInt8).length : Int))) s) = [s.getD i 0] := by
      have : Int.toNat ((i : Int) + (([c] : List UInt8).length : Int)) = i + 1 := by simp
      rw [this, Int.toNat_natCast]; exact cut1 s i hi'
    repeat (first | refine Run.seq ?_ | refine Run.region ?_ | refine Ops.nil ?_ | refine Run.skip ?_ | refine Run.block ?_ | refine Ops.add rfl (by decide) rfl rfl (wI (by first | omega | (simp only [List.length_cons, List.length_nil] ; omega) | (simp; omega)) (by first | omega | (simp only [List.length_cons, List.length_nil] ; omega) | (simp; omega))) ?_ | refine Ops.eqlStr rfl (by decide) rfl rfl ?_ | refine Ops.pure T rfl (by decide) rfl ?_ | refine Ops.lenS T rfl (by decide) rfl rfl ?_ | refine Ops.sliceStr rfl (by decide) (T.undOk rfl) rfl rfl rfl (by first | omega | (simp only [List.length_cons, List.length_nil] ; omega) | (simp; omega)) (by first | omega | (simp only [List.length_cons, List.length_nil] ; omega) | (simp; omega)) (by first | omega | (simp only [List.length_cons, List.length_nil] ; omega) | (simp; omega)) ?_)
    rw [hcut]
    refine Run.cond rfl rfl (fun h2 => ?_) (fun h2 => ?_)
    all_goals (try rw [h2])
    all_goals (try simp only [decide_eq_true_eq, decide_eq_false_iff_not, Bool.not_eq_true', Bool.not_eq_false', Bool.and_eq_true, Bool.or_eq_true, Bool.and_eq_false_imp, Bool.or_eq_false_iff] at h2)
    · skip
      repeat (first | refine Run.seq ?_ | refine Run.region ?_ | refine Ops.nil ?_ | refine Ops.pure T rfl (by decide) rfl ?_)
      refine Run.fin (Run.ret1 (by rw [hCf]; exact Proofs.Tryz.func97) Proofs.Tryz.results97 rfl (hR _ _ _ ?_))
      have h3 : s.getD i 0 = c := by simpa using h2
      rw [if_pos h3] at hx
      rw [hx] at hix
      exact ⟨rfl, by simp [ixI, hix]⟩
    · skip
      repeat (first | refine Run.region ?_ | refine Ops.nil ?_ | refine Run.skip ?_ | refine Run.inBlock ?_ | refine Ops.add rfl (by decide) rfl rfl (wI (by first | omega | (simp only [List.length_cons, List.length_nil] ; omega) | (simp; omega)) (by first | omega | (simp only [List.length_cons, List.length_nil] ; omega) | (simp; omega))) ?_ | refine Ops.pure T rfl (by decide) rfl ?_)
      refine Run.keep [0, 1, 5] [_, _, _] rfl ?_
      have h3 : s.getD i 0 ≠ c := by simpa using h2
      rw [if_neg h3] at hx
      refine ih (s.length - (i + 1)) _ _ _ (by omega) ⟨i + 1, rfl, by omega, ?_, ?_, rfl, rfl⟩
      · rw [hix, hx]; simp [Option.map_map]; congr 1; funext x; simp; omega
      · simp
  · have hi' : i = s.length := by simp at h; omega
    repeat (first | refine Run.seq ?_ | refine Run.region ?_ | refine Ops.nil ?_ | refine Run.exit rfl ?_ | refine Ops.pure T rfl (by decide) rfl ?_)
    refine Run.fin (Run.ret1 (by rw [hCf]; exact Proofs.Tryz.func97) Proofs.Tryz.results97 rfl (hR _ _ _ ?_))
    subst hi'
    simp [ix] at hix
    exact ⟨rfl, by simp [ixI, hix]⟩
theorem ixI_has (c : UInt8) (s : Tx) : decide ((0 : Int) ≤ ixI c s) = hasB c s := by
  rw [ix_has]
  unfold ixI
  cases ix c s with
  | none => rfl
  | some k => simp
theorem ixI_has' (c : UInt8) (s : Tx) : decide (ixI c s < 0) = !hasB c s := by
  rw [ix_has]
  unfold ixI
  cases ix c s with
  | none => rfl
  | some k => simp
theorem name_zzContains (s : Tx) (c : UInt8) (I : Imm) (hs : s.length ≤ 4620000000000000000) : Pure Proofs.Tryz.prog 75 [str s, str [c]] I fun v _ => v = .bool (hasB c s) := by
  refine Spec.enter 9 [(0, _), (1, _)] Proofs.Tryz.func75 rfl Proofs.Tryz.ntmps75 (by simp) rfl ?_
  intro C hCf hR hCI
  repeat (first | refine Run.seq ?_ | refine Run.region ?_ | refine Ops.nil ?_ | refine Ops.pure T rfl (by decide) rfl ?_)
  refine Ops.call ((name_zzIndex s c I hs)) rfl (by decide) Proofs.Tryz.call97 rfl ?_
  rintro _ J1 l1 rfl
  repeat (first | refine Ops.nil ?_ | refine Ops.geq rfl (by decide) rfl rfl ?_ | refine Ops.pure T rfl (by decide) rfl ?_)
  refine Run.fin (Run.ret1 (by rw [hCf]; exact Proofs.Tryz.func75) Proofs.Tryz.results75 rfl (hR _ _ _ ?_))
  exact ⟨rfl, by rw [ixI_has]⟩
theorem spec_firstOf (s : List UInt8) (c : UInt8) (I : Imm) (hs : s.length ≤ 4620000000000000000) :
    Pure Proofs.Tryz.prog 81 [str s, u8 c] I fun v J => v = .int .i64 (ixI c s) := by
  refine Spec.enter 18 [(0, _), (1, _)] Proofs.Tryz.func81 rfl Proofs.Tryz.ntmps81 (by simp) rfl ?_
  intro C hCf hR hCI
  repeat (first | refine Run.seq ?_ | refine Run.region ?_ | refine Ops.nil ?_ | refine Run.block ?_ | refine Ops.pure T rfl (by decide) rfl ?_ | refine Ops.lenS T rfl (by decide) rfl rfl ?_)
  refine Run.keep [0, 1, 7, 8] [_, _, _, _] rfl ?_
  refine Run.rounds (fun m env L J => ∃ i : Nat, m = s.length - i ∧ i ≤ s.length ∧ ix c s = (ix c (s.drop i)).map (· + i) ∧ env = [(0, str s), (1, u8 c), (7, .int .i64 s.length), (8, .int .i64 i)] ∧ L = [] ∧ J = I) s.length ⟨0, by omega, by omega, by simp, rfl, rfl, rfl⟩ ?_
  rintro m env L J ⟨i, rfl, hi, hix, rfl, rfl, rfl⟩ ih
  repeat (first | refine Run.seq ?_ | refine Run.region ?_ | refine Ops.nil ?_ | refine Ops.lss rfl (by decide) rfl rfl ?_)
  refine Run.cond rfl rfl (fun h => ?_) (fun h => ?_)
  all_goals (try rw [h])
  all_goals (try simp only [decide_eq_true_eq, decide_eq_false_iff_not, Bool.not_eq_true', Bool.not_eq_false', Bool.and_eq_true, Bool.or_eq_true, Bool.and_eq_false_imp, Bool.or_eq_false_iff] at h)
  · have hi' : i < s.length := by omega
    have hx := ix_drop c s i hi'
    repeat (first | refine Run.seq ?_ | refine Run.region ?_ | refine Ops.nil ?_ | refine Run.skip ?_ | refine Run.block ?_ | refine Ops.eql rfl (by decide) rfl rfl ?_ | refine Ops.pure T rfl (by decide) rfl ?_ | refine Ops.indexStr rfl (by decide) (T.undOk rfl) rfl rfl (by first | omega | (simp only [List.length_cons, List.length_nil] ; omega) | (simp; omega)) (by first | omega | (simp only [List.length_cons, List.length_nil] ; omega) | (simp; omega)) ?_)
    refine Run.cond rfl rfl (fun h2 => ?_) (fun h2 => ?_)
    all_goals (try rw [h2])
    all_goals (try simp only [decide_eq_true_eq, decide_eq_false_iff_not, Bool.not_eq_true', Bool.not_eq_false', Bool.and_eq_true, Bool.or_eq_true, Bool.and_eq_false_imp, Bool.or_eq_false_iff] at h2)
    · have h3 : s.getD i 0 = c := u8_inj.1 h2
      rw [if_pos h3] at hx
      rw [hx] at hix
      repeat (first | refine Run.seq ?_ | refine Run.region ?_ | refine Ops.nil ?_ | refine Ops.pure T rfl (by decide) rfl ?_)
      refine Run.fin (Run.ret1 (by rw [hCf]; exact Proofs.Tryz.func81) Proofs.Tryz.results81 rfl (hR _ _ _ ?_))
      exact ⟨rfl, by simp [ixI, hix]⟩
    · have h3 : ¬ s.getD i 0 = c := fun h => h2 (u8_inj.2 h)
      rw [if_neg h3] at hx
      repeat (first | refine Run.region ?_ | refine Ops.nil ?_ | refine Run.skip ?_ | refine Run.inBlock ?_ | refine Ops.add rfl (by decide) rfl rfl (wI (by first | omega | (simp only [List.length_cons, List.length_nil] ; omega) | (simp; omega)) (by first | omega | (simp only [List.length_cons, List.length_nil] ; omega) | (simp; omega))) ?_ | refine Ops.pure T rfl (by decide) rfl ?_)
      refine Run.keep [0, 1, 7, 8] [_, _, _, _] rfl ?_
      refine ih (s.length - (i + 1)) _ _ _ (by omega) ⟨i + 1, rfl, by omega, ?_, rfl, rfl, rfl⟩
      rw [hix, hx]; simp [Option.map_map]; congr 1; funext x; simp; omega
  · have hi' : i = s.length := by omega
    subst hi'
    repeat (first | refine Run.seq ?_ | refine Run.region ?_ | refine Ops.nil ?_ | refine Run.exit rfl ?_ | refine Ops.pure T rfl (by decide) rfl ?_)
    refine Run.fin (Run.ret1 (by rw [hCf]; exact Proofs.Tryz.func81) Proofs.Tryz.results81 rfl (hR _ _ _ ?_))
    simp [ix] at hix
    exact ⟨rfl, by simp [ixI, hix]⟩
def lxI (c : UInt8) (s : Tx) : Int := match lx c s with
  | some k => k
  | none => -1
theorem spec_lastOf (s : Tx) (c : UInt8) (I : Imm) (hs : s.length ≤ 4620000000000000000) :
    Pure Proofs.Tryz.prog 83 [str s, u8 c] I fun v J => v = .int .i64 (lxI c s) := by
  refine Spec.enter 19 [(0, _), (1, _)] Proofs.Tryz.func83 rfl Proofs.Tryz.ntmps83 (by simp) rfl ?_
  intro C hCf hR hCI
  repeat (first | refine Run.seq ?_ | refine Run.region ?_ | refine Ops.nil ?_ | refine Run.block ?_ | refine Ops.sub rfl (by decide) rfl rfl (wI (by first | omega | (simp only [List.length_cons, List.length_nil] ; omega) | (simp; omega)) (by first | omega | (simp only [List.length_cons, List.length_nil] ; omega) | (simp; omega))) ?_ | refine Ops.pure T rfl (by decide) rfl ?_ | refine Ops.lenS T rfl (by decide) rfl rfl ?_)
  refine Run.keep [0, 1, 5] [_, _, _] rfl ?_
  refine Run.rounds (fun m env L J => ∃ j : Nat, m = j ∧ j ≤ s.length ∧ hasB c (s.drop j) = false ∧ env = [(0, str s), (1, u8 c), (5, .int .i64 ((j : Int) - 1))] ∧ L = [] ∧ J = I) s.length ⟨s.length, rfl, by omega, by simp [hasB], rfl, rfl, rfl⟩ ?_
  rintro j env L J ⟨_, rfl, hj, hno, rfl, rfl, rfl⟩ ih
  repeat (first | refine Run.seq ?_ | refine Run.region ?_ | refine Ops.nil ?_ | refine Ops.geq rfl (by decide) rfl rfl ?_ | refine Ops.pure T rfl (by decide) rfl ?_)
  refine Run.cond rfl rfl (fun h => ?_) (fun h => ?_)
  all_goals (try rw [h])
  all_goals (try simp only [decide_eq_true_eq, decide_eq_false_iff_not, Bool.not_eq_true', Bool.not_eq_false', Bool.and_eq_true, Bool.or_eq_true, Bool.and_eq_false_imp, Bool.or_eq_false_iff] at h)
  · obtain ⟨i, rfl⟩ : ∃ i, j = i + 1 := ⟨j - 1, by omega⟩
    have hi' : i < s.length := by omega
    have e1 : ((i + 1 : Nat) : Int) - 1 = i := by omega
    rw [e1]
    repeat (first | refine Run.seq ?_ | refine Run.region ?_ | refine Ops.nil ?_ | refine Run.skip ?_ | refine Run.block ?_ | refine Ops.eql rfl (by decide) rfl rfl ?_ | refine Ops.pure T rfl (by decide) rfl ?_ | refine Ops.indexStr rfl (by decide) (T.undOk rfl) rfl rfl (by first | omega | (simp only [List.length_cons, List.length_nil] ; omega) | (simp; omega)) (by first | omega | (simp only [List.length_cons, List.length_nil] ; omega) | (simp; omega)) ?_)
    have hd := drop_cons hi'
    refine Run.cond rfl rfl (fun h2 => ?_) (fun h2 => ?_)
    all_goals (try rw [h2])
    all_goals (try simp only [decide_eq_true_eq, decide_eq_false_iff_not, Bool.not_eq_true', Bool.not_eq_false', Bool.and_eq_true, Bool.or_eq_true, Bool.and_eq_false_imp, Bool.or_eq_false_iff] at h2)
    · have h3 : s.getD i 0 = c := u8_inj.1 (by simpa using h2)
      repeat (first | refine Run.seq ?_ | refine Run.region ?_ | refine Ops.nil ?_ | refine Ops.pure T rfl (by decide) rfl ?_)
      refine Run.fin (Run.ret1 (by rw [hCf]; exact Proofs.Tryz.func83) Proofs.Tryz.results83 rfl (hR _ _ _ ?_))
      refine ⟨rfl, ?_⟩
      have : lx c s = some i := by
        conv => lhs; rw [← List.take_append_drop i s, hd, h3]
        rw [lx_app hno]; simp; omega
      simp [lxI, this]
    · have h3 : ¬ s.getD i 0 = c := fun h => h2 (by simpa using u8_inj.2 h)
      repeat (first | refine Run.region ?_ | refine Ops.nil ?_ | refine Run.skip ?_ | refine Run.inBlock ?_ | refine Ops.sub rfl (by decide) rfl rfl (wI (by first | omega | (simp only [List.length_cons, List.length_nil] ; omega) | (simp; omega)) (by first | omega | (simp only [List.length_cons, List.length_nil] ; omega) | (simp; omega))) ?_ | refine Ops.pure T rfl (by decide) rfl ?_)
      refine Run.keep [0, 1, 5] [_, _, _] rfl ?_
      refine ih i _ _ _ (by omega) ⟨i, rfl, by omega, ?_, rfl, rfl, rfl⟩
      rw [hd, hasB_cons, hno, decide_eq_false h3]; rfl
  · obtain rfl : j = 0 := by omega
    repeat (first | refine Run.seq ?_ | refine Run.region ?_ | refine Ops.nil ?_ | refine Run.exit rfl ?_ | refine Ops.pure T rfl (by decide) rfl ?_)
    refine Run.fin (Run.ret1 (by rw [hCf]; exact Proofs.Tryz.func83) Proofs.Tryz.results83 rfl (hR _ _ _ ?_))
    refine ⟨rfl, ?_⟩
    have : lx c s = none := lx_none.2 (by simpa using hno)
    simp [lxI, this]
theorem stringslite_HasPrefix (s t : Tx) (I : Imm) (hs : s.length ≤ 4620000000000000000) (ht : t.length ≤ 4620000000000000000) : Pure Proofs.Tryz.prog 89 [str s, str t] I fun v J => v = .bool (starts t s) := by
  refine Spec.enter 18 [(0, _), (1, _)] Proofs.Tryz.func89 rfl Proofs.Tryz.ntmps89 (by simp) rfl ?_
  intro C hCf hR hCI
  repeat (first | refine Run.seq ?_ | refine Run.region ?_ | refine Ops.nil ?_ | refine Ops.geq rfl (by decide) rfl rfl ?_ | refine Ops.pure T rfl (by decide) rfl ?_ | refine Ops.lenS T rfl (by decide) rfl rfl ?_)
  cases h : decide ((t.length : Int) ≤ (s.length : Int)) with
  | false =>
    repeat (first | refine Ops.nil ?_ | refine Ops.not rfl (by decide) ?_ | refine Ops.pure T rfl (by decide) rfl ?_)
    refine Run.fin (Run.ret1 (by rw [hCf]; exact Proofs.Tryz.func89) Proofs.Tryz.results89 rfl (hR _ _ _ ?_))
    have : decide (t.length ≤ s.length) = false := decide_eq_false (by have := of_decide_eq_false h; omega)
    exact ⟨rfl, by simp [starts, this]⟩
  | true =>
    have h' := of_decide_eq_true h
    have h2 : decide (t.length ≤ s.length) = true := decide_eq_true (by omega)
    repeat (first | refine Ops.nil ?_ | refine Ops.eqlStr rfl (by decide) rfl rfl ?_ | refine Ops.pure T rfl (by decide) rfl ?_ | refine Ops.lenS T rfl (by decide) rfl rfl ?_ | refine Ops.sliceStrHi rfl (by decide) (T.undOk rfl) rfl rfl (by first | omega | (simp only [List.length_cons, List.length_nil] ; omega) | (simp; omega)) (by first | omega | (simp only [List.length_cons, List.length_nil] ; omega) | (simp; omega)) ?_)
    refine Run.fin (Run.ret1 (by rw [hCf]; exact Proofs.Tryz.func89) Proofs.Tryz.results89 rfl (hR _ _ _ ?_))
    exact ⟨rfl, by rw [starts, h2]; rfl⟩
theorem strings_HasPrefix (s t : Tx) (I : Imm) (hs : s.length ≤ 4620000000000000000) (ht : t.length ≤ 4620000000000000000) : Pure Proofs.Tryz.prog 43 [str s, str t] I fun v J => v = .bool (starts t s) := by
  refine Spec.enter 8 [(0, _), (1, _)] Proofs.Tryz.func43 rfl Proofs.Tryz.ntmps43 (by simp) rfl ?_
  intro C hCf hR hCI
  repeat (first | refine Run.seq ?_ | refine Run.region ?_ | refine Ops.nil ?_ | refine Ops.pure T rfl (by decide) rfl ?_)
  refine Ops.call ((stringslite_HasPrefix s t I hs ht)) rfl (by decide) Proofs.Tryz.call89 rfl ?_
  rintro _ J1 l1 rfl
  repeat (first | refine Ops.nil ?_ | refine Ops.pure T rfl (by decide) rfl ?_)
  refine Run.fin (Run.ret1 (by rw [hCf]; exact Proofs.Tryz.func43) Proofs.Tryz.results43 rfl (hR _ _ _ ?_))
  exact ⟨rfl, rfl⟩
theorem stringslite_HasSuffix (s t : Tx) (I : Imm) (hs : s.length ≤ 4620000000000000000) (ht : t.length ≤ 4620000000000000000) : Pure Proofs.Tryz.prog 119 [str s, str t] I fun v J => v = .bool (endsT t s) := by
  refine Spec.enter 21 [(0, _), (1, _)] Proofs.Tryz.func119 rfl Proofs.Tryz.ntmps119 (by simp) rfl ?_
  intro C hCf hR hCI
  repeat (first | refine Run.seq ?_ | refine Run.region ?_ | refine Ops.nil ?_ | refine Ops.geq rfl (by decide) rfl rfl ?_ | refine Ops.pure T rfl (by decide) rfl ?_ | refine Ops.lenS T rfl (by decide) rfl rfl ?_)
  cases h : decide ((t.length : Int) ≤ (s.length : Int)) with
  | false =>
    repeat (first | refine Ops.nil ?_ | refine Ops.not rfl (by decide) ?_ | refine Ops.pure T rfl (by decide) rfl ?_)
    refine Run.fin (Run.ret1 (by rw [hCf]; exact Proofs.Tryz.func119) Proofs.Tryz.results119 rfl (hR _ _ _ ?_))
    have : decide (t.length ≤ s.length) = false := decide_eq_false (by have := of_decide_eq_false h; omega)
    exact ⟨rfl, by simp [endsT, this]⟩
  | true =>
    have h' := of_decide_eq_true h
    have h2 : decide (t.length ≤ s.length) = true := decide_eq_true (by omega)
    repeat (first | refine Ops.nil ?_ | refine Ops.eqlStr rfl (by decide) rfl rfl ?_ | refine Ops.sub rfl (by decide) rfl rfl (wI (by first | omega | (simp only [List.length_cons, List.length_nil] ; omega) | (simp; omega)) (by first | omega | (simp only [List.length_cons, List.length_nil] ; omega) | (simp; omega))) ?_ | refine Ops.pure T rfl (by decide) rfl ?_ | refine Ops.lenS T rfl (by decide) rfl rfl ?_ | refine Ops.sliceStrLo rfl (by decide) (T.undOk rfl) rfl rfl (by first | omega | (simp only [List.length_cons, List.length_nil] ; omega) | (simp; omega)) (by first | omega | (simp only [List.length_cons, List.length_nil] ; omega) | (simp; omega)) ?_)
    refine Run.fin (Run.ret1 (by rw [hCf]; exact Proofs.Tryz.func119) Proofs.Tryz.results119 rfl (hR _ _ _ ?_))
    refine ⟨rfl, ?_⟩
    rw [endsT, h2, show ((s.length : Int) - (t.length : Int)).toNat = s.length - t.length by omega]; rfl
theorem strings_HasSuffix (s t : Tx) (I : Imm) (hs : s.length ≤ 4620000000000000000) (ht : t.length ≤ 4620000000000000000) : Pure Proofs.Tryz.prog 108 [str s, str t] I fun v J => v = .bool (endsT t s) := by
  refine Spec.enter 8 [(0, _), (1, _)] Proofs.Tryz.func108 rfl Proofs.Tryz.ntmps108 (by simp) rfl ?_
  intro C hCf hR hCI
  repeat (first | refine Run.seq ?_ | refine Run.region ?_ | refine Ops.nil ?_ | refine Ops.pure T rfl (by decide) rfl ?_)
  refine Ops.call ((stringslite_HasSuffix s t I hs ht)) rfl (by decide) Proofs.Tryz.call119 rfl ?_
  rintro _ J1 l1 rfl
  repeat (first | refine Ops.nil ?_ | refine Ops.pure T rfl (by decide) rfl ?_)
  refine Run.fin (Run.ret1 (by rw [hCf]; exact Proofs.Tryz.func108) Proofs.Tryz.results108 rfl (hR _ _ _ ?_))
  exact ⟨rfl, rfl⟩
/-- an error, or none -/
def ErrIs (w : Value) (ok : Bool) : Prop := if ok then w = .nilIface else ∃ b, w = .iface 84 (.pointer (some ⟨b, 0, none⟩))
theorem ErrIs.nil : ErrIs .nilIface true := rfl
theorem ErrIs.err (b : Nat) : ErrIs (.iface 84 (.pointer (some ⟨b, 0, none⟩))) false := ⟨b, rfl⟩
theorem name_newErrBadName (I : Imm) (s : Tx) (v : Value) : Pure Proofs.Tryz.prog 44 [str s, v] I fun w J => ∃ b, w = .pointer (some ⟨b, 0, none⟩) := by
  refine Spec.enter 8 [(0, _), (1, _)] Proofs.Tryz.func44 rfl Proofs.Tryz.ntmps44 (by simp) rfl ?_
  intro C hCf hR hCI
  repeat (first | refine Run.seq ?_ | refine Run.region ?_ | refine Ops.nil ?_ | refine Ops.pure T rfl (by decide) rfl ?_)
  refine Ops.buildL bd104 rfl (by decide) rfl rfl ?_
  refine Ops.box rfl (by decide) rfl rfl (fun b => ?_)
  repeat (first | refine Ops.nil ?_ | refine Ops.pure T rfl (by decide) rfl ?_)
  refine Run.fin (Run.ret1 (by rw [hCf]; exact Proofs.Tryz.func44) Proofs.Tryz.results44 rfl (hR _ _ _ ?_))
  exact ⟨rfl, b, rfl⟩
end Go.V
