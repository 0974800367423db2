import Derived.Test.YtbalfblfkfbejaaGreatDoorWM14
import Derived.Test.YtbalfblfkfbejaaGreatDoorWM2
import Derived.Test.YtbalfblfkfbejaaGreatDoorWM3
import Derived.Test.YtbalfblfkfbejaaGreatDoorWM4
import Derived.Test.YtbalfblfkfbejaaGreatDoorWM5
namespace Go.V
set_option linter.unusedVariables false
set_option linter.unusedSimpArgs false
set_option maxRecDepth 10000
theorem hasB_false {c : UInt8} {s : Tx} : hasB c s = false ↔ ∀ b ∈ s, b ≠ c := by
  unfold hasB
  constructor
  · intro h b hb e
    subst e
    have : s.contains b = true := List.contains_iff_mem.2 hb
    rw [this] at h; cases h
  · intro h
    cases hc : s.contains c with
    | false => rfl
    | true => exact absurd rfl (h c (List.contains_iff_mem.1 hc))
theorem hasB_true {c : UInt8} {s : Tx} : hasB c s = true ↔ c ∈ s := List.contains_iff_mem
theorem hasB_app {c : UInt8} {s u : Tx} : hasB c (s ++ u) = (hasB c s || hasB c u) := by simp [hasB]
theorem hasB_cons {c b : UInt8} {u : Tx} : hasB c (b :: u) = (decide (b = c) || hasB c u) := by
  rw [Bool.eq_iff_iff]
  simp only [hasB_true, List.mem_cons, Bool.or_eq_true, decide_eq_true_eq]
  exact ⟨fun h => h.imp Eq.symm id, fun h => h.imp Eq.symm id⟩
theorem ix_none {c : UInt8} : ∀ {s : Tx}, ix c s = none ↔ hasB c s = false
  | [] => by simp [ix, hasB]
  | x :: r => by
    rw [hasB_cons]
    simp only [ix]
    by_cases h : x = c
    · simp [h]
    · rw [if_neg h, Option.map_eq_none_iff, ix_none (s := r)]
      simp [h]
theorem ix_app {c : UInt8} {y : Tx} : ∀ {x : Tx}, hasB c x = false → ix c (x ++ c :: y) = some x.length
  | [], _ => by simp [ix]
  | b :: r, h => by
    rw [hasB_cons, Bool.or_eq_false_iff] at h
    have h1 : b ≠ c := of_decide_eq_false h.1
    simp [ix, h1, ix_app h.2]
theorem ix_app2 {c : UInt8} {y : Tx} : ∀ {x : Tx} {k : Nat}, ix c x = some k → ix c (x ++ y) = some k
  | [], k, h => by simp [ix] at h
  | b :: r, k, h => by
    simp only [ix, List.cons_append] at h ⊢
    split at h
    · rename_i hb; rw [if_pos hb]; exact h
    · rename_i hb
      rw [if_neg hb]
      cases hr : ix c r with
      | none => rw [hr] at h; simp at h
      | some j => rw [hr] at h; rw [ix_app2 hr]; exact h
theorem lx_none {c : UInt8} : ∀ {s : Tx}, lx c s = none ↔ hasB c s = false
  | [] => by simp [lx, hasB]
  | x :: r => by
    rw [hasB_cons]
    simp only [lx]
    cases hr : lx c r with
    | none =>
      have := lx_none.1 hr
      by_cases h : x = c
      · simp [h]
      · simp [h, this]
    | some k =>
      have : hasB c r = true := by
        cases hb : hasB c r with
        | true => rfl
        | false => rw [lx_none.2 hb] at hr; cases hr
      simp [this]
theorem lx_split {c : UInt8} : ∀ {s : Tx} {k : Nat}, lx c s = some k → k < s.length ∧ s = s.take k ++ c :: s.drop (k + 1) ∧ hasB c (s.drop (k + 1)) = false
  | [], k, h => by simp [lx] at h
  | x :: r, k, h => by
    simp only [lx] at h
    cases hr : lx c r with
    | none =>
      rw [hr] at h
      simp only at h
      split at h
      · rename_i hx
        cases h
        subst hx
        exact ⟨by simp, by simp, by simpa using lx_none.1 hr⟩
      · cases h
    | some j =>
      rw [hr] at h
      simp only [Option.some.injEq] at h
      subst h
      obtain ⟨h1, h2, h3⟩ := lx_split hr
      refine ⟨by simp; omega, ?_, by simpa using h3⟩
      simpa using h2
theorem lx_app {c : UInt8} {y : Tx} (hy : hasB c y = false) : ∀ {x : Tx}, lx c (x ++ c :: y) = some x.length
  | [] => by simp [lx, lx_none.2 hy]
  | b :: r => by simp [lx, lx_app hy (x := r)]
theorem lx_app2 {c : UInt8} {y : Tx} (hy : hasB c y = false) : ∀ {x : Tx}, lx c (x ++ y) = lx c x
  | [] => by simpa [lx] using lx_none.2 hy
  | b :: r => by simp [lx, lx_app2 hy (x := r)]
theorem ix_split {c : UInt8} {s : Tx} {k : Nat} (h : ix c s = some k) : s = s.take k ++ c :: s.drop (k + 1) ∧ hasB c (s.take k) = false := by
  induction s generalizing k with
  | nil => simp [ix] at h
  | cons x r ih =>
    simp only [ix] at h
    split at h
    · rename_i hx
      cases h
      subst hx
      exact ⟨by simp, by simp [hasB]⟩
    · rename_i hx
      cases hr : ix c r with
      | none => rw [hr] at h; simp at h
      | some j =>
        rw [hr] at h
        simp only [Option.map_some, Option.some.injEq] at h
        subst h
        obtain ⟨h1, h2⟩ := ih hr
        refine ⟨by simpa using h1, ?_⟩
        rw [List.take_succ_cons, hasB_cons, h2]
        simp [hx]
theorem allIn_mem {cs s : Tx} : allIn cs s = true ↔ ∀ b ∈ s, b ∈ cs := by simp [allIn]
theorem allIn_not {cs s : Tx} (c : UInt8) (h : allIn cs s = true) (hc : cs.contains c = false) : hasB c s = false :=
  hasB_false.2 fun b hb e => by
    have := allIn_mem.1 h b hb
    subst e
    rw [List.contains_iff_mem.2 this] at hc; cases hc
theorem allIn_app {cs s u : Tx} : allIn cs (s ++ u) = (allIn cs s && allIn cs u) := by simp [allIn]
theorem sWithin_all {cs s : Tx} {a b : Nat} (h : sWithin s cs a b = true) : allIn cs s = true ∧ a ≤ s.length ∧ s.length ≤ b := by
  simpa [sWithin] using h
theorem hp_all {s : Tx} (h : hp s = true) : allIn (smallT ++ capT) s = true := by
  simp only [hp, Bool.and_eq_true] at h
  exact (sWithin_all h.1).1
def hostT : Tx := (smallT ++ capT) ++ [58]
theorem dig_host : ∀ b ∈ digT, b ∈ hostT := by decide
theorem host_bad : ∀ b ∈ hostT, badB b = false := by decide
theorem hostPlain_all {s : Tx} (h : hostPlain s = true) : allIn hostT s = true := by
  unfold hostPlain at h
  cases hk : ix 58 s with
  | none =>
    rw [hk] at h
    exact allIn_mem.2 fun b hb => List.mem_append_left _ (allIn_mem.1 (hp_all h) b hb)
  | some k =>
    rw [hk] at h
    simp only [Bool.and_eq_true] at h
    obtain ⟨e, _⟩ := ix_split hk
    have h1 := (sWithin_all h.1).1
    have h2 := hp_all h.2
    refine allIn_mem.2 fun b hb => ?_
    rw [e] at hb
    rcases List.mem_append.1 hb with hb | hb
    · exact List.mem_append_left _ (allIn_mem.1 h2 b hb)
    · rcases List.mem_cons.1 hb with rfl | hb
      · decide
      · exact dig_host b (allIn_mem.1 h1 b hb)
theorem hostPlain_no {s : Tx} (c : UInt8) (h : hostPlain s = true) (hc : hostT.contains c = false) : hasB c s = false := allIn_not c (hostPlain_all h) hc
theorem hostPlain_good {s : Tx} (h : hostPlain s = true) : hostBad s = false := by
  cases hb : hostBad s with
  | false => rfl
  | true =>
    exfalso
    obtain ⟨b, hb1, hb2⟩ := List.any_eq_true.1 hb
    rw [host_bad b (allIn_mem.1 (hostPlain_all h) b hb1)] at hb2
    cases hb2
theorem hosted_ne {s : Tx} (h : hosted s = true) : s ≠ [] := by rintro rfl; revert h; decide
theorem alias_ne {s : Tx} : aliasT (aliasT s) = aliasT s := by
  unfold aliasT
  split
  · decide
  · rename_i h; first | rfl | rw [if_neg h]
theorem alias_plain {s : Tx} (h : hostPlain s = true) : hostPlain (aliasT s) = true := by
  unfold aliasT; split
  · decide
  · exact h
theorem alias_hosted {s : Tx} (h : hosted s = true) : hosted (aliasT s) = true := by
  unfold aliasT; split
  · decide
  · exact h
theorem alias_nil {s : Tx} (h : s ≠ []) : aliasT s ≠ [] := by
  unfold aliasT; split
  · decide
  · exact h
theorem lib_all : allIn (smallT ++ [47]) libT = true := by decide
theorem hostCut_repo {r p : Tx} (h1 : hostPlain r = true) (h2 : hosted r = true) : hostCut (repoT r p) = (r, p) := by
  have h3 := hostPlain_no 47 h1 (by decide)
  have h4 : ix 47 (repoT r p) = some r.length := by
    unfold repoT
    rw [List.append_assoc]
    exact ix_app h3
  unfold hostCut
  rw [h4]
  simp [repoT, h2]
theorem fullP_idem {r p : Tx} : fullP r (fullP r p) = fullP r p := by
  unfold fullP
  by_cases h : (decide (r = hubT) && !hasB 47 p) = true
  · rw [if_pos h]
    have : hasB 47 (libT ++ p) = true := by rw [hasB_app]; simp [show hasB 47 libT = true by decide]
    simp [this]
  · rw [if_neg h, if_neg h]
theorem fullP_not {r p : Tx} : implNs r (fullP r p) = false := by
  unfold fullP implNs
  by_cases h : (decide (r = hubT) && !hasB 47 p) = true
  · rw [if_pos h]
    have : hasB 47 (libT ++ p) = true := by rw [hasB_app]; simp [show hasB 47 libT = true by decide]
    simp [this]
  · rw [if_neg h]; simpa using h
theorem pathGood_all {p : Tx} (h : pathGood p = true) : allIn (smallT ++ [47]) p = true ∧ 1 ≤ p.length ∧ p.length ≤ 255 := sWithin_all h
theorem fullP_all {r p : Tx} (h : pathGood p = true) : allIn (smallT ++ [47]) (fullP r p) = true ∧ 1 ≤ (fullP r p).length := by
  obtain ⟨h1, h2, _⟩ := pathGood_all h
  unfold fullP; split
  · rw [allIn_app, lib_all, h1]; exact ⟨rfl, by simp; omega⟩
  · exact ⟨h1, h2⟩
theorem pathGood_of {p : Tx} (h : allIn (smallT ++ [47]) p = true) (h1 : 1 ≤ p.length) (h2 : p.length ≤ 255) : pathGood p = true := by
  simp [pathGood, sWithin, h, h1, h2]
structure RepoOk (r p : Tx) : Prop where
  plain : hostPlain r = true
  al : aliasT r = r
  ne : r ≠ []
  full : fullP r p = p
  chars : allIn (smallT ++ [47]) p = true
  pos : 1 ≤ p.length
def regOk (reg : Tx) : Prop := reg = [] ∨ hostNamed reg = true
theorem hub_named {reg : Tx} (h : regOk reg) : hostPlain (hub reg) = true ∧ hosted (hub reg) = true := by
  unfold hub
  rcases h with rfl | h
  · decide
  · simp only [hostNamed, Bool.and_eq_true] at h
    split
    · decide
    · exact h
theorem sReg_ok {b : Bool} {reg s r : Tx} (hr : regOk reg) (h : sReg b reg s = (r, true, false)) : hostPlain r = true ∧ aliasT r = r ∧ r ≠ [] ∧ r = aliasT (if s = [] then hub reg else s) ∧ hostPlain s = true ∧ hostBad s = false := by
  unfold sReg at h
  split at h
  · simp at h
  rename_i h0
  simp only [Prod.mk.injEq, true_and] at h
  obtain ⟨rfl, h⟩ := h
  have hp : hostPlain s = true := by simpa using h
  obtain ⟨h1, h2⟩ := hub_named hr
  refine ⟨alias_plain ?_, alias_ne, alias_nil ?_, rfl, hp, hostPlain_good hp⟩
  · split
    · exact h1
    · exact hp
  · split
    · exact hosted_ne h2
    · rename_i h; exact h
theorem hostCut_spec (s : Tx) : (hostCut s).1 = [] ∨ hosted (hostCut s).1 = true := by
  unfold hostCut; split
  · split
    · rename_i h; exact .inr h
    · exact .inl rfl
  · exact .inl rfl
theorem sRepo_ok {b : Bool} {reg s r p : Tx} (hr : regOk reg) (h : sRepo b reg s = (r, p, true, false)) : RepoOk r p ∧ hosted r = true ∧ sReg false reg (hostCut s).1 = (r, true, false) ∧ pathGood (hostCut s).2 = true ∧ p = fullP r (hostCut s).2 := by
  unfold sRepo at h
  simp only at h
  split at h
  · simp at h
  rename_i h0
  split at h
  · simp at h
  rename_i h1
  simp only [Prod.mk.injEq, true_and] at h
  obtain ⟨hr1, hp1, h2⟩ := h
  simp only [Bool.or_eq_true, Bool.not_eq_true', not_or, Bool.not_eq_false, Bool.and_eq_true, decide_eq_true_eq] at h0
  obtain ⟨⟨h3, h4⟩, h5⟩ := h0
  have hs : sReg false reg (hostCut s).1 = (r, true, false) := Prod.ext hr1 (Prod.ext h4 h2)
  obtain ⟨g1, g2, g3, g4, g5, g6⟩ := sReg_ok hr hs
  rw [hr1] at hp1
  obtain ⟨k1, k2⟩ := fullP_all (r := r) h3
  subst hp1
  refine ⟨⟨g1, g2, g3, fullP_idem, k1, k2⟩, ?_, hs, h3, rfl⟩
  rw [g4]
  refine alias_hosted ?_
  split
  · exact (hub_named hr).2
  · rename_i he
    rcases hostCut_spec s with h | h
    · exact absurd h he
    · exact h
theorem sReg_again {b : Bool} {reg r : Tx} (h1 : hostPlain r = true) (h2 : aliasT r = r) (h3 : r ≠ []) : sReg b reg r = (r, true, false) := by
  unfold sReg
  rw [hostPlain_good h1]
  simp [h3, h2, h1]
theorem sRepo_again {b : Bool} {reg r p : Tx} (h : RepoOk r p) (h2 : hosted r = true) (hl : p.length ≤ 255) : sRepo b reg (repoT r p) = (r, p, true, false) := by
  unfold sRepo
  rw [hostCut_repo h.plain h2]
  simp only
  rw [sReg_again h.plain h.al h.ne]
  have hg := pathGood_of h.chars h.pos hl
  have hf := fullP_not (r := r) (p := p)
  rw [h.full] at hf
  simp [hg, h.ne, hf, h.full]
theorem cutTag_none {r p : Tx} (hp : hasB 58 p = false) : cutTag (repoT r p) = none := by
  unfold cutTag
  have e : lx 58 (repoT r p) = lx 58 r := by
    unfold repoT
    rw [List.append_assoc]
    refine lx_app2 ?_
    rw [hasB_app, hp]; decide
  rw [e]
  cases hk : lx 58 r with
  | none => rfl
  | some k =>
    obtain ⟨h1, _⟩ := lx_split hk
    have : hasB 47 ((repoT r p).drop k) = true := by
      unfold repoT
      rw [List.append_assoc, List.drop_append_of_le_length (Nat.le_of_lt h1), hasB_app, hasB_app]
      simp [show hasB 47 [47] = true by decide]
    simp [this]
theorem cutTag_some {x t : Tx} (h1 : hasB 58 t = false) (h2 : hasB 47 t = false) : cutTag (x ++ 58 :: t) = some (x, t) := by
  unfold cutTag
  rw [lx_app h1]
  simp [hasB_cons, h2]
theorem cutTag_eq {s x t : Tx} (h : cutTag s = some (x, t)) : s = x ++ 58 :: t ∧ hasB 58 t = false ∧ hasB 47 t = false := by
  unfold cutTag at h
  cases hk : lx 58 s with
  | none => rw [hk] at h; cases h
  | some k =>
    rw [hk] at h
    simp only at h
    split at h
    · cases h
    · rename_i hb
      cases h
      obtain ⟨h1, h2, h3⟩ := lx_split hk
      refine ⟨h2, h3, ?_⟩
      have e : s.drop k = 58 :: s.drop (k + 1) := by
        conv => lhs; rw [h2]
        rw [List.drop_append_of_le_length (by simp; omega)]
        simp
      rw [e, hasB_cons] at hb
      simpa using hb
theorem tagGood_no {t : Tx} (h : tagGood t = true) : hasB 58 t = false ∧ hasB 47 t = false ∧ hasB 64 t = false ∧ t ≠ [] := by
  obtain ⟨h1, h2, h3⟩ := sWithin_all h
  exact ⟨allIn_not _ h1 (by decide), allIn_not _ h1 (by decide), allIn_not _ h1 (by decide), fun e => by subst e; simp at h2⟩
theorem path_no {p : Tx} (h : allIn (smallT ++ [47]) p = true) : hasB 58 p = false ∧ hasB 64 p = false := ⟨allIn_not _ h (by decide), allIn_not _ h (by decide)⟩
end Go.V
namespace Go.V
set_option linter.unusedVariables false
set_option linter.unusedSimpArgs false
set_option maxRecDepth 10000
def RegAns (b : Bool) (reg s : Tx) (a : Option Tx) : Prop := ∀ r ok, sReg b reg s = (r, ok, false) → a = if ok then some r else none
def RepoAns (b : Bool) (reg s : Tx) (a : Option (Tx × Tx)) : Prop := ∀ r p ok, sRepo b reg s = (r, p, ok, false) → match a with
  | some x => ok = true ∧ x.1 = r ∧ fullP r x.2 = p
  | none => ok = false
def TagAns (o : NOpt) (s : Tx) (a : Option (Tx × Tx × Tx)) : Prop := ∀ r p t ok, sTag o s = (r, p, t, ok, false) → match a with
  | some x => ok = true ∧ x.1 = r ∧ fullP r x.2.1 = p ∧ x.2.2 = t
  | none => ok = false
def DigAns (o : NOpt) (s : Tx) (a : Option (Tx × Tx × Tx)) : Prop := ∀ r p t ok, sDig o s = (r, p, t, ok, false) → match a with
  | some x => ok = true ∧ x.1 = r ∧ fullP r x.2.1 = p ∧ x.2.2 = t
  | none => ok = false
theorem RepoAns.of {b : Bool} {reg s : Tx} {a : Option Tx} (h1 : RegAns b reg (hostCut s).1 a) : RepoAns b reg s (if pathGood (hostCut s).2 then (match a with
    | some r => if implNs r (hostCut s).2 && b then none else some (r, (hostCut s).2)
    | none => none) else none) := by
  intro r p ok h
  unfold sRepo at h
  simp only at h
  cases hp : pathGood (hostCut s).2 with
  | false => rw [hp] at h; simp at h; simp; exact h.2.2.1
  | true =>
    rw [hp] at h
    simp only [Bool.not_true, Bool.false_or] at h
    rw [if_pos rfl]
    by_cases hb : b = true ∧ (hostCut s).1 = []
    · obtain ⟨hb1, hb2⟩ := hb
      subst hb1
      rw [hb2] at h h1
      have ha : a = none := by
        have := h1 [] false (by simp [sReg])
        simpa using this
      subst ha
      simp [sReg, show hostBad [] = false by decide] at h
      simpa using h.2.2.1
    · have hbf : (b && decide ((hostCut s).1 = [])) = false := by
        cases b with
        | false => rfl
        | true => simp at hb; simp [hb]
      have he : sReg b reg (hostCut s).1 = sReg false reg (hostCut s).1 := by unfold sReg; rw [hbf]; simp
      rw [hbf] at h
      rw [RegAns, he] at h1
      cases hs : sReg false reg (hostCut s).1 with
      | mk r1 x =>
        obtain ⟨ok1, op1⟩ := x
        rw [hs] at h
        simp only [Bool.or_false] at h
        cases ok1 with
        | false =>
          simp only [Bool.not_false, if_true, Prod.mk.injEq] at h
          obtain ⟨_, _, rfl, rfl⟩ := h
          have := h1 r1 false hs
          simp only [Bool.false_eq_true, if_false] at this
          subst this
          rfl
        | true =>
          simp only [Bool.not_true, Bool.false_eq_true, if_false] at h
          by_cases hi : (implNs r1 (hostCut s).2 && b) = true
          · rw [if_pos hi] at h
            simp only [Prod.mk.injEq] at h
            obtain ⟨_, _, rfl, rfl⟩ := h
            have := h1 r1 true hs
            rw [if_pos rfl] at this
            subst this
            simp only [hi, if_true]
          · rw [if_neg hi] at h
            simp only [Prod.mk.injEq] at h
            obtain ⟨rfl, rfl, rfl, rfl⟩ := h
            have := h1 r1 true hs
            rw [if_pos rfl] at this
            subst this
            simp only [hi]
            exact ⟨trivial, rfl, rfl⟩
theorem TagAns.of {o : NOpt} {s : Tx} {a : Option (Tx × Tx)} {rest t : Tx} (hc : cutTag s = some (rest, t)) (ht : tagGood t = true) (h : RepoAns o.strict o.reg rest a) : TagAns o s (a.map fun x => (x.1, x.2, t)) := by
  intro r p t' ok hs
  unfold sTag at hs
  rw [hc] at hs
  simp only [ht, if_true, Prod.mk.injEq] at hs
  obtain ⟨h1, h2, h3, h4, h5⟩ := hs
  have := h r p ok (Prod.ext h1 (Prod.ext h2 (Prod.ext h4 h5)))
  cases a with
  | none => exact this
  | some x => exact ⟨this.1, this.2.1, this.2.2, h3⟩
theorem TagAns.no {o : NOpt} {s : Tx} {rest t : Tx} (hc : cutTag s = some (rest, t)) (ht : tagGood t = false) : TagAns o s none := by
  intro r p t' ok hs
  unfold sTag at hs
  rw [hc] at hs
  simp [ht] at hs
  exact hs.2.2.2
theorem TagAns.strict {o : NOpt} {s : Tx} (hc : cutTag s = none) (ht : o.strict = true) : TagAns o s none := by
  intro r p t' ok hs
  unfold sTag at hs
  rw [hc] at hs
  simp [ht] at hs
  exact hs.2.2.2
theorem pathBad {p : Tx} (h : hasB 58 p = true) : pathGood p = false := by
  cases hp : pathGood p with
  | false => rfl
  | true => rw [(path_no (pathGood_all hp).1).1] at h; cases h
theorem hostCut_more {x t : Tx} (h : hasB 47 t = false) : (hostCut (x ++ 58 :: t)).1 = (hostCut x).1 ∧ (hostCut (x ++ 58 :: t)).2 = (hostCut x).2 ++ 58 :: t := by
  unfold hostCut
  cases hk : ix 47 x with
  | some k =>
    have hlt := ix_lt hk
    rw [ix_app2 hk]
    simp only
    rw [List.take_append_of_le_length (by omega)]
    by_cases hh : hosted (x.take k) = true
    · rw [if_pos hh, if_pos hh, List.drop_append_of_le_length (by omega)]
      exact ⟨rfl, rfl⟩
    · rw [if_neg hh, if_neg hh]
      exact ⟨rfl, rfl⟩
  | none =>
    have : ix 47 (x ++ 58 :: t) = none := ix_none.2 (by rw [hasB_app, hasB_cons, ix_none.1 hk, h]; rfl)
    rw [this]
    exact ⟨rfl, rfl⟩
theorem sRepo_bad {b : Bool} {reg x t : Tx} (h : hasB 47 t = false) {r p : Tx} {ok : Bool} (hs : sRepo b reg x = (r, p, ok, false)) : sRepo b reg (x ++ 58 :: t) = ([], [], false, false) := by
  obtain ⟨h1, h2⟩ := hostCut_more (x := x) h
  have hop : (sReg false reg (hostCut x).1).2.2 = false := by
    unfold sRepo at hs
    simp only at hs
    split at hs
    · simp at hs; exact hs.2.2.2
    · split at hs
      · simp at hs; exact hs.2.2.2
      · simp at hs; exact hs.2.2.2
  unfold sRepo
  simp only [h1, h2]
  rw [pathBad (by rw [hasB_app, hasB_cons]; simp)]
  simp [hop]
theorem DigAns.of {o : NOpt} {s : Tx} {k : Nat} {at_ : Option (Tx × Tx × Tx)} {ar : Option (Tx × Tx)} (hr : regOk o.reg) (h1 : ix 64 s = some k) (h2 : lx 64 s = some k) (hd : digGood (s.drop (k + 1)) = true)
    (ht : TagAns o (s.take k) at_) (ha : RepoAns o.strict o.reg (match at_ with
      | some x => repoT x.1 (fullP x.1 x.2.1)
      | none => s.take k) ar) : DigAns o s (ar.map fun x => (x.1, x.2, s.drop (k + 1))) := by
  intro r p t ok hs
  unfold sDig at hs
  rw [h1] at hs
  simp only [h2, if_true, hd, Prod.mk.injEq, Bool.or_eq_false_iff, decide_eq_false_iff_not, Nat.not_lt] at hs
  obtain ⟨e1, e2, e3, e4, e5, e6⟩ := hs
  have hS : sRepo o.strict o.reg (offTag (s.take k)) = (r, p, ok, false) := Prod.ext e1 (Prod.ext e2 (Prod.ext e4 e5))
  rw [e2] at e6
  subst e3
  -- what is said of the tag
  have key : ∀ x, sTag o (s.take k) = (r, p, x, ok, false) → (match (generalizing := false) at_ with
      | some y => ok = true ∧ y.1 = r ∧ fullP r y.2.1 = p
      | none => ok = false) := by
    intro x hx
    have := ht r p x ok hx
    cases at_ with
    | none => exact this
    | some y => exact ⟨this.1, this.2.1, this.2.2.1⟩
  have fin : (∃ x, sTag o (s.take k) = (r, p, x, ok, false)) → ok = true → (match (ar.map fun x => (x.1, x.2, s.drop (k + 1))) with
      | some x => ok = true ∧ x.1 = r ∧ fullP r x.2.1 = p ∧ x.2.2 = s.drop (k + 1)
      | none => ok = false) := by
    rintro ⟨x, hx⟩ rfl
    have := key x hx
    cases at_ with
    | none => cases this
    | some y =>
      obtain ⟨_, y1, y2⟩ := this
      simp only [y1, y2] at ha
      obtain ⟨g1, g2, _⟩ := sRepo_ok hr hS
      have := ha r p true (sRepo_again g1 g2 e6)
      cases ar with
      | none => cases this
      | some z => exact ⟨rfl, this.2.1, this.2.2, rfl⟩
  have fin2 : at_ = none → (∃ r' p', sRepo o.strict o.reg (s.take k) = (r', p', false, false)) → ok = false → (match (ar.map fun x => (x.1, x.2, s.drop (k + 1))) with
      | some x => ok = true ∧ x.1 = r ∧ fullP r x.2.1 = p ∧ x.2.2 = s.drop (k + 1)
      | none => ok = false) := by
    rintro rfl ⟨r', p', h⟩ rfl
    have := ha r' p' false h
    cases ar with
    | none => rfl
    | some z => exact absurd this.1 (by decide)
  cases hc : cutTag (s.take k) with
  | some y =>
    obtain ⟨rest, tg⟩ := y
    cases htg : tagGood tg with
    | true =>
      have ho : offTag (s.take k) = rest := by simp [offTag, hc, htg]
      rw [ho] at hS
      have hT : sTag o (s.take k) = (r, p, tg, ok, false) := by simp [sTag, hc, htg, hS]
      cases ok with
      | true => exact fin ⟨_, hT⟩ rfl
      | false =>
        have hn := key _ hT
        cases at_ with
        | some y => exact absurd hn.1 (by decide)
        | none =>
          obtain ⟨he, _, h47⟩ := cutTag_eq hc
          exact fin2 rfl ⟨[], [], by rw [he]; exact sRepo_bad h47 hS⟩ rfl
    | false =>
      have ho : offTag (s.take k) = s.take k := by simp [offTag, hc, htg]
      rw [ho] at hS
      have hn := (TagAns.no (o := o) hc htg)
      have hT : sTag o (s.take k) = ([], [], [], false, false) := by simp [sTag, hc, htg]
      have ha0 := ht _ _ _ _ hT
      cases at_ with
      | some y => exact absurd ha0.1 (by decide)
      | none =>
        have := ha r p ok hS
        cases ar with
        | none => exact this
        | some z => exact ⟨this.1, this.2.1, this.2.2, rfl⟩
  | none =>
    have ho : offTag (s.take k) = s.take k := by simp [offTag, hc]
    rw [ho] at hS
    cases hst : o.strict with
    | true =>
      have hT : sTag o (s.take k) = ([], [], [], false, false) := by simp [sTag, hc, hst]
      have ha0 := ht _ _ _ _ hT
      cases at_ with
      | some y => exact absurd ha0.1 (by decide)
      | none =>
        have := ha r p ok hS
        cases ar with
        | none => exact this
        | some z => exact ⟨this.1, this.2.1, this.2.2, rfl⟩
    | false =>
      rw [hst] at hS
      have hT : sTag o (s.take k) = (r, p, tagOr o.tag, ok, false) := by simp [sTag, hc, hst, hS]
      cases ok with
      | true => exact fin ⟨_, hT⟩ rfl
      | false =>
        have hn := key _ hT
        cases at_ with
        | some y => exact absurd hn.1 (by decide)
        | none => exact fin2 rfl ⟨r, p, by rw [hst]; exact hS⟩ rfl
theorem DigAns.no {o : NOpt} {s : Tx} (h : ∀ r p t, sDig o s ≠ (r, p, t, true, false)) : DigAns o s none := by
  intro r p t ok hs
  cases ok with
  | false => rfl
  | true => exact absurd hs (h r p t)
end Go.V
namespace Go.V
set_option linter.unusedVariables false
set_option linter.unusedSimpArgs false
set_option maxRecDepth 10000
theorem digGood_no {t : Tx} (h : digGood t = true) : hasB 64 t = false := by
  simp only [digGood, Bool.and_eq_true, decide_eq_true_eq] at h
  obtain ⟨_, h1, h2⟩ := h
  rw [← List.take_append_drop 7 t, hasB_app, h1, allIn_not 64 (sWithin_all h2).1 (by decide)]
  decide
theorem sTag_ok {o : NOpt} {s r p t : Tx} (hr : regOk o.reg) (h : sTag o s = (r, p, t, true, false)) : RepoOk r p ∧ hosted r = true ∧ (tagGood t = true ∨ t = tagOr o.tag) := by
  unfold sTag at h
  split at h
  · split at h
    · rename_i hg
      simp only [Prod.mk.injEq] at h
      obtain ⟨h1, h2, rfl, h4, h5⟩ := h
      obtain ⟨g1, g2, _⟩ := sRepo_ok hr (show sRepo o.strict o.reg _ = (r, p, true, false) from Prod.ext h1 (Prod.ext h2 (Prod.ext h4 h5)))
      exact ⟨g1, g2, .inl hg⟩
    · simp at h
  · split at h
    · simp at h
    · simp only [Prod.mk.injEq] at h
      obtain ⟨h1, h2, rfl, h4, h5⟩ := h
      obtain ⟨g1, g2, _⟩ := sRepo_ok hr (show sRepo o.strict o.reg s = (r, p, true, false) from Prod.ext h1 (Prod.ext h2 (Prod.ext h4 h5)))
      exact ⟨g1, g2, .inr rfl⟩
theorem sDig_ok {o : NOpt} {s r p t : Tx} (hr : regOk o.reg) (h : sDig o s = (r, p, t, true, false)) : RepoOk r p ∧ hosted r = true ∧ digGood t = true := by
  unfold sDig at h
  split at h
  · simp at h
  · split at h
    · split at h
      · rename_i hg
        simp only [Prod.mk.injEq, Bool.or_eq_false_iff] at h
        obtain ⟨h1, h2, rfl, h4, h5, _⟩ := h
        obtain ⟨g1, g2, _⟩ := sRepo_ok hr (show sRepo o.strict o.reg _ = (r, p, true, false) from Prod.ext h1 (Prod.ext h2 (Prod.ext h4 h5)))
        exact ⟨g1, g2, hg⟩
      · simp at h
    · simp at h
theorem repo_no {r p : Tx} (h : RepoOk r p) : hasB 64 (repoT r p) = false := by
  unfold repoT
  rw [hasB_app, hasB_app, hostPlain_no 64 h.plain (by decide), (path_no h.chars).2]; decide
theorem sTag_again {b ins : Bool} {r p t : Tx} (h : RepoOk r p) (h2 : hosted r = true) (hl : p.length ≤ 255) (ht : tagGood t = true) : sTag ⟨b, ins, [], []⟩ (repoT r p ++ [58] ++ t) = (r, p, t, true, false) := by
  obtain ⟨t1, t2, _⟩ := tagGood_no ht
  have hc : cutTag (repoT r p ++ [58] ++ t) = some (repoT r p, t) := by rw [List.append_assoc]; exact cutTag_some t1 t2
  unfold sTag
  rw [hc]
  simp only [ht, if_true, sRepo_again h h2 hl]
theorem sDig_again {b ins : Bool} {r p t : Tx} (h : RepoOk r p) (h2 : hosted r = true) (hl : p.length ≤ 255) (ht : digGood t = true) : sDig ⟨b, ins, [], []⟩ (repoT r p ++ [64] ++ t) = (r, p, t, true, false) := by
  have h64 := repo_no h
  have e1 : ix 64 (repoT r p ++ [64] ++ t) = some (repoT r p).length := by rw [List.append_assoc]; exact ix_app h64
  have e2 : lx 64 (repoT r p ++ [64] ++ t) = some (repoT r p).length := by rw [List.append_assoc]; exact lx_app (digGood_no ht)
  have e3 : (repoT r p ++ [64] ++ t).drop ((repoT r p).length + 1) = t := by simp
  have e4 : (repoT r p ++ [64] ++ t).take (repoT r p).length = repoT r p := by rw [List.append_assoc, List.take_left']; rfl
  have e5 : offTag (repoT r p) = repoT r p := by simp [offTag, cutTag_none (path_no h.chars).1]
  unfold sDig
  rw [e1]
  simp only [e2, if_true, e3, ht, e4, e5, sRepo_again h h2 hl]
  simp [hl]
theorem again {o : NOpt} {which k : Int} {s r p id : Tx} (hr : regOk o.reg) (hw : 0 ≤ which ∧ which ≤ 4) (h : sParts o which s = (k, r, p, id, true, false)) (htag : o.tag = []) (hl : p.length ≤ 255) (sch : Bool) (text : Tx) (ins : Bool) :
    1 ≤ k ∧ k ≤ 4 ∧ sParts ⟨true, ins, [], []⟩ k (nmd sch k r p id text).name = (k, r, p, id, true, false) := by
  have hT : ∀ t, sTag o s = (r, p, t, true, false) → sParts ⟨true, ins, [], []⟩ 3 (nmd sch 3 r p t text).name = (3, r, p, t, true, false) := by
    intro t ht
    obtain ⟨g1, g2, g3⟩ := sTag_ok hr ht
    have hg : tagGood t = true := by
      rcases g3 with g | rfl
      · exact g
      · rw [htag]; decide
    have := sTag_again (b := true) (ins := ins) g1 g2 hl hg
    simp [sParts, nmd, List.append_assoc] at this ⊢
    simp [this]
  have hD : ∀ t, sDig o s = (r, p, t, true, false) → sParts ⟨true, ins, [], []⟩ 4 (nmd sch 4 r p t text).name = (4, r, p, t, true, false) := by
    intro t ht
    obtain ⟨g1, g2, g3⟩ := sDig_ok hr ht
    have := sDig_again (b := true) (ins := ins) g1 g2 hl g3
    simp [sParts, nmd, List.append_assoc] at this ⊢
    simp [this]
  unfold sParts at h
  by_cases h1 : which = 1
  · rw [if_pos h1] at h
    simp only [Prod.mk.injEq] at h
    obtain ⟨rfl, e1, rfl, rfl, e2, e3⟩ := h
    obtain ⟨g1, g2, g3, _⟩ := sReg_ok hr (show sReg o.strict o.reg s = (r, true, false) from Prod.ext e1 (Prod.ext e2 e3))
    refine ⟨by decide, by decide, ?_⟩
    simp [sParts, nmd, sReg_again g1 g2 g3]
  rw [if_neg h1] at h
  by_cases h2 : which = 2
  · rw [if_pos h2] at h
    simp only [Prod.mk.injEq] at h
    obtain ⟨rfl, e1, e4, rfl, e2, e3⟩ := h
    obtain ⟨g1, g2, _⟩ := sRepo_ok hr (show sRepo o.strict o.reg s = (r, p, true, false) from Prod.ext e1 (Prod.ext e4 (Prod.ext e2 e3)))
    refine ⟨by decide, by decide, ?_⟩
    simp [sParts, nmd, sRepo_again g1 g2 hl]
  rw [if_neg h2] at h
  by_cases h3 : which = 3
  · rw [if_pos h3] at h
    simp only [Prod.mk.injEq] at h
    obtain ⟨rfl, e1, e2, e3, e4, e5⟩ := h
    exact ⟨by decide, by decide, hT id (Prod.ext e1 (Prod.ext e2 (Prod.ext e3 (Prod.ext e4 e5))))⟩
  rw [if_neg h3] at h
  by_cases h4 : which = 4
  · rw [if_pos h4] at h
    simp only [Prod.mk.injEq] at h
    obtain ⟨rfl, e1, e2, e3, e4, e5⟩ := h
    exact ⟨by decide, by decide, hD id (Prod.ext e1 (Prod.ext e2 (Prod.ext e3 (Prod.ext e4 e5))))⟩
  rw [if_neg h4] at h
  simp only at h
  split at h
  · simp only [Prod.mk.injEq] at h
    obtain ⟨rfl, e1, e2, e3, e4, e5⟩ := h
    exact ⟨by decide, by decide, hD id (Prod.ext e1 (Prod.ext e2 (Prod.ext e3 (Prod.ext e4 e5))))⟩
  · simp only [Prod.mk.injEq] at h
    obtain ⟨rfl, e1, e2, e3, e4, e5⟩ := h
    exact ⟨by decide, by decide, hT id (Prod.ext e1 (Prod.ext e2 (Prod.ext e3 (Prod.ext e4 e5))))⟩
end Go.V
namespace Go.V
set_option linter.unusedVariables false
set_option linter.unusedSimpArgs false
def okRune (r : Nat) : Prop := r < 55296 ∨ (57343 < r ∧ r ≤ 1114111)
theorem cont_big {x : Nat} (h : (x / 64 == 2) = true) : 128 ≤ x := by
  have : x / 64 = 2 := by simpa using h
  omega
theorem ba_size (s : Tx) : (ba s).size = s.length := str_size s
theorem runeAt_big (s : Tx) (p : Nat) (hp : p < s.length) (h : ¬ (s.getD p 0).toNat < 128) :
    128 ≤ (runeAt s p).1 ∧ okRune (runeAt s p).1 ∧ p + (runeAt s p).2 ≤ s.length ∧ ∀ q, p ≤ q → q < p + (runeAt s p).2 → 128 ≤ (s.getD q 0).toNat := by
  have bad : (128 ≤ 0xFFFD ∧ okRune 0xFFFD ∧ p + 1 ≤ s.length ∧ ∀ q, p ≤ q → q < p + 1 → 128 ≤ (s.getD q 0).toNat) :=
    ⟨by decide, .inr (by decide), by omega, fun q h1 h2 => by obtain rfl : q = p := by omega
                                                              omega⟩
  unfold runeAt Utf8.decode
  simp only [Nat.add_zero, ba_get, ba_size]
  rw [if_neg h]
  split
  · rename_i h2
    simp only [Bool.and_eq_true, decide_eq_true_eq] at h2
    obtain ⟨_, h3, h4⟩ := h2
    have := cont_big h4
    split
    · refine ⟨by simp only; omega, .inl (by simp only; omega), by simp only; omega, fun q q1 q2 => ?_⟩
      simp only at q2
      have : q = p ∨ q = p + 1 := by omega
      rcases this with rfl | rfl <;> omega
    · exact bad
  · split
    · rename_i h2
      simp only [Bool.and_eq_true, decide_eq_true_eq] at h2
      obtain ⟨⟨_, h3, h4⟩, h5, h6⟩ := h2
      have := cont_big h4
      have := cont_big h6
      split
      · rename_i h7
        simp only [Bool.and_eq_true, decide_eq_true_eq, Utf8.valid, Bool.or_eq_true] at h7
        refine ⟨by simp only; omega, ?_, by simp only; omega, fun q q1 q2 => ?_⟩
        · simp only [okRune]; omega
        · simp only at q2
          have : q = p ∨ q = p + 1 ∨ q = p + 2 := by omega
          rcases this with rfl | rfl | rfl <;> omega
      · exact bad
    · split
      · rename_i h2
        simp only [Bool.and_eq_true, decide_eq_true_eq] at h2
        obtain ⟨⟨⟨_, h3, h4⟩, h5, h6⟩, h8, h9⟩ := h2
        have := cont_big h4
        have := cont_big h6
        have := cont_big h9
        split
        · rename_i h7
          simp only [Bool.and_eq_true, decide_eq_true_eq, Utf8.valid, Bool.or_eq_true] at h7
          refine ⟨by simp only; omega, ?_, by simp only; omega, fun q q1 q2 => ?_⟩
          · simp only [okRune]; omega
          · simp only at q2
            have : q = p ∨ q = p + 1 ∨ q = p + 2 ∨ q = p + 3 := by omega
            rcases this with rfl | rfl | rfl | rfl <;> omega
        · exact bad
      · exact bad
def runesW (s : Tx) (p : Nat) : List Nat := if p < s.length then (runeAt s p).1 :: runesW s (p + (runeAt s p).2) else []
termination_by s.length - p
decreasing_by
  have := runeAt_width s p
  omega
theorem runesW_lt {s : Tx} {p : Nat} (h : p < s.length) : runesW s p = (runeAt s p).1 :: runesW s (p + (runeAt s p).2) := by rw [runesW, if_pos h]
theorem runesW_end {s : Tx} {p : Nat} (h : ¬ p < s.length) : runesW s p = [] := by rw [runesW, if_neg h]
theorem drop_cons {s : Tx} {p : Nat} (h : p < s.length) : s.drop p = s.getD p 0 :: s.drop (p + 1) := by
  rw [List.drop_eq_getElem_cons h]; simp [List.getD_eq_getElem?_getD, h]
theorem runes_step {s : Tx} {p : Nat} (hp : p < s.length) : ∃ ys, s.drop p = ys ++ s.drop (p + (runeAt s p).2) ∧ p + (runeAt s p).2 ≤ s.length ∧ okRune (runeAt s p).1 ∧
    ((∃ b : UInt8, ys = [b] ∧ (runeAt s p).1 = b.toNat ∧ b.toNat < 128) ∨ (ys ≠ [] ∧ (∀ y ∈ ys, 128 ≤ y.toNat) ∧ 128 ≤ (runeAt s p).1)) := by
  by_cases h : (s.getD p 0).toNat < 128
  · rw [runeAt_ascii s p h]
    exact ⟨[s.getD p 0], by simpa using drop_cons hp, by simp only; omega, .inl (by simp only; omega), .inl ⟨_, rfl, rfl, h⟩⟩
  · obtain ⟨h1, h2, h3, h4⟩ := runeAt_big s p hp h
    have hw := runeAt_width s p
    refine ⟨(s.drop p).take (runeAt s p).2, ?_, h3, h2, .inr ⟨?_, ?_, h1⟩⟩
    · rw [← List.drop_drop, List.take_append_drop]
    · intro e
      have := congrArg List.length e
      simp at this; omega
    · intro y hy
      obtain ⟨j, hj, rfl⟩ := List.mem_iff_getElem.1 hy
      simp only [List.length_take, List.length_drop] at hj
      have := h4 (p + j) (by omega) (by omega)
      rw [List.getD_eq_getElem?_getD, List.getElem?_eq_getElem (by omega)] at this
      simpa using this
def ascii (cs : Tx) : Prop := ∀ c ∈ cs, c.toNat < 128
theorem runes_map {s : Tx} (hs : ascii s) : ∀ (n p : Nat), s.length - p ≤ n → runesW s p = (s.drop p).map UInt8.toNat
  | 0, p, h => by rw [runesW_end (by omega), List.drop_eq_nil_of_le (by omega)]; rfl
  | n + 1, p, h => by
    by_cases hp : p < s.length
    · have hb : (s.getD p 0).toNat < 128 := by
        rw [List.getD_eq_getElem?_getD, List.getElem?_eq_getElem hp]
        exact hs _ (List.getElem_mem hp)
      rw [runesW_lt hp, runeAt_ascii s p hb, runes_map hs n (p + 1) (by omega), drop_cons hp]
      rfl
    · rw [runesW_end hp, List.drop_eq_nil_of_le (by omega)]; rfl
theorem runes0 {s : Tx} (hs : ascii s) : runesW s 0 = s.map UInt8.toNat := by simpa using runes_map hs s.length 0 (by omega)
theorem inCs {cs : Tx} (hc : ascii cs) (r : Nat) : r ∈ runesW cs 0 ↔ ∃ c ∈ cs, c.toNat = r := by
  rw [runes0 hc]; simp
theorem runes_all {s cs : Tx} (hc : ascii cs) : ∀ (n p : Nat), s.length - p ≤ n → ((runesW s p).all fun r => decide (r ∈ runesW cs 0)) = allIn cs (s.drop p)
  | 0, p, h => by rw [runesW_end (by omega), List.drop_eq_nil_of_le (by omega)]; rfl
  | n + 1, p, h => by
    by_cases hp : p < s.length
    · rw [runesW_lt hp]
      obtain ⟨ys, e, _, _, h3⟩ := runes_step hp
      have hw := runeAt_width s p
      rw [List.all_cons, runes_all hc n (p + (runeAt s p).2) (by omega), e, allIn_app]
      congr 1
      rcases h3 with ⟨b, rfl, hb, hb'⟩ | ⟨h6, h4, h5⟩
      · rw [hb, Bool.eq_iff_iff, decide_eq_true_eq, inCs hc, allIn_mem]
        constructor
        · rintro ⟨c, h1, h2⟩ y hy
          rw [List.mem_singleton] at hy
          subst hy
          rw [← UInt8.toNat_inj.1 h2]; exact h1
        · intro h
          exact ⟨b, h b List.mem_cons_self, rfl⟩
      · have e1 : decide ((runeAt s p).1 ∈ runesW cs 0) = false := decide_eq_false fun hm => by
          obtain ⟨c, h1, h2⟩ := (inCs hc _).1 hm
          have := hc c h1
          omega
        rw [e1]
        cases hys : allIn cs ys with
        | false => rfl
        | true =>
          cases ys with
          | nil => exact absurd rfl h6
          | cons y t =>
            have h7 := allIn_mem.1 hys y List.mem_cons_self
            have h8 := hc y h7
            have h9 := h4 y List.mem_cons_self
            omega
    · rw [runesW_end hp, List.drop_eq_nil_of_le (by omega)]; rfl
theorem allIn_ascii {s cs : Tx} (hc : ascii cs) (h : allIn cs s = true) : ascii s := fun c hm => hc c (allIn_mem.1 h c hm)
theorem within_eq {s cs : Tx} {a b : Nat} (hc : ascii cs) : (((runesW s 0).all fun r => decide (r ∈ runesW cs 0)) && (decide (a ≤ (runesW s 0).length) && decide ((runesW s 0).length ≤ b))) = sWithin s cs a b := by
  have h := runes_all (s := s) hc s.length 0 (by omega)
  rw [List.drop_zero] at h
  rw [h, sWithin]
  cases ha : allIn cs s with
  | false => rfl
  | true => rw [runes0 (allIn_ascii hc ha), List.length_map]
theorem ascii_hex : ascii hexT := by unfold ascii; decide
end Go.V
namespace Go.V
open Go.Proofs.Tryz
open Go.RowKit
set_option linter.unusedVariables false
set_option linter.unusedSimpArgs false
set_option maxRecDepth 10000
attribute [local irreducible] Run Ops
def u8 (c : UInt8) : Value := .int .u8 (c.toNat : Int)
theorem spec_firstOf (s : List UInt8) (c : UInt8) (I : Imm) (hs : s.length ≤ 4620000000000000000) :
    Pure prog 115 [str s, u8 c] I fun v J => v = .int .i64 (ixI c s) := by
  refine Spec.enter 18 [(0, _), (1, _)] func115 rfl ntmps115 (by simp) rfl ?_
  intro C hCf hR hCI
  repeat (first | refine Run.seq ?_ | refine Run.region ?_ | refine Ops.nil ?_ | refine Run.block ?_ | refine Ops.pure T rfl (by decide) rfl ?_ | refine Ops.lenS T rfl (by decide) rfl rfl ?_)
  refine Run.keep [0, 1, 7, 8] [_, _, _, _] rfl ?_
  refine Run.rounds (fun m env L J => ∃ i : Nat, m = s.length - i ∧ i ≤ s.length ∧ ix c s = (ix c (s.drop i)).map (· + i) ∧ env = [(0, str s), (1, u8 c), (7, .int .i64 s.length), (8, .int .i64 i)] ∧ L = [] ∧ J = I) s.length ⟨0, by omega, by omega, by simp, rfl, rfl, rfl⟩ ?_
  rintro m env L J ⟨i, rfl, hi, hix, rfl, rfl, rfl⟩ ih
  repeat (first | refine Run.seq ?_ | refine Run.region ?_ | refine Ops.nil ?_ | refine Ops.lss rfl (by decide) rfl rfl ?_)
  refine Run.cond rfl rfl (fun h => ?_) (fun h => ?_)
  all_goals (try rw [h])
  all_goals (try simp only [decide_eq_true_eq, decide_eq_false_iff_not, Bool.not_eq_true', Bool.not_eq_false', Bool.and_eq_true, Bool.or_eq_true, Bool.and_eq_false_imp, Bool.or_eq_false_iff] at h)
  · have hi' : i < s.length := by omega
    have hx := ix_drop c s i hi'
    repeat (first | refine Run.seq ?_ | refine Run.region ?_ | refine Ops.nil ?_ | refine Run.skip ?_ | refine Run.block ?_ | refine Ops.eql rfl (by decide) rfl rfl ?_ | refine Ops.pure T rfl (by decide) rfl ?_ | refine Ops.indexStr rfl (by decide) (T.undOk rfl) rfl rfl (by first | omega | (simp only [List.length_cons, List.length_nil] ; omega) | (simp; omega)) (by first | omega | (simp only [List.length_cons, List.length_nil] ; omega) | (simp; omega)) ?_)
    refine Run.cond rfl rfl (fun h2 => ?_) (fun h2 => ?_)
    all_goals (try rw [h2])
    all_goals (try simp only [decide_eq_true_eq, decide_eq_false_iff_not, Bool.not_eq_true', Bool.not_eq_false', Bool.and_eq_true, Bool.or_eq_true, Bool.and_eq_false_imp, Bool.or_eq_false_iff] at h2)
    · have h3 : s.getD i 0 = c := u8_inj.1 h2
      rw [if_pos h3] at hx
      rw [hx] at hix
      repeat (first | refine Run.seq ?_ | refine Run.region ?_ | refine Ops.nil ?_ | refine Ops.pure T rfl (by decide) rfl ?_)
      refine Run.fin (Run.ret1 (by rw [hCf]; exact func115) results115 rfl (hR _ _ _ ?_))
      exact ⟨rfl, by simp [ixI, hix]⟩
    · have h3 : ¬ s.getD i 0 = c := fun h => h2 (u8_inj.2 h)
      rw [if_neg h3] at hx
      repeat (first | refine Run.region ?_ | refine Ops.nil ?_ | refine Run.skip ?_ | refine Run.inBlock ?_ | refine Ops.add rfl (by decide) rfl rfl (wI (by first | omega | (simp only [List.length_cons, List.length_nil] ; omega) | (simp; omega)) (by first | omega | (simp only [List.length_cons, List.length_nil] ; omega) | (simp; omega))) ?_ | refine Ops.pure T rfl (by decide) rfl ?_)
      refine Run.keep [0, 1, 7, 8] [_, _, _, _] rfl ?_
      refine ih (s.length - (i + 1)) _ _ _ (by omega) ⟨i + 1, rfl, by omega, ?_, rfl, rfl, rfl⟩
      rw [hix, hx]; simp [Option.map_map]; congr 1; funext x; simp; omega
  · have hi' : i = s.length := by omega
    subst hi'
    repeat (first | refine Run.seq ?_ | refine Run.region ?_ | refine Ops.nil ?_ | refine Run.exit rfl ?_ | refine Ops.pure T rfl (by decide) rfl ?_)
    refine Run.fin (Run.ret1 (by rw [hCf]; exact func115) results115 rfl (hR _ _ _ ?_))
    simp [ix] at hix
    exact ⟨rfl, by simp [ixI, hix]⟩
def lxI (c : UInt8) (s : Tx) : Int := match lx c s with
  | some k => k
  | none => -1
theorem spec_lastOf (s : Tx) (c : UInt8) (I : Imm) (hs : s.length ≤ 4620000000000000000) :
    Pure prog 116 [str s, u8 c] I fun v J => v = .int .i64 (lxI c s) := by
  refine Spec.enter 19 [(0, _), (1, _)] func116 rfl ntmps116 (by simp) rfl ?_
  intro C hCf hR hCI
  repeat (first | refine Run.seq ?_ | refine Run.region ?_ | refine Ops.nil ?_ | refine Run.block ?_ | refine Ops.sub rfl (by decide) rfl rfl (wI (by first | omega | (simp only [List.length_cons, List.length_nil] ; omega) | (simp; omega)) (by first | omega | (simp only [List.length_cons, List.length_nil] ; omega) | (simp; omega))) ?_ | refine Ops.pure T rfl (by decide) rfl ?_ | refine Ops.lenS T rfl (by decide) rfl rfl ?_)
  refine Run.keep [0, 1, 5] [_, _, _] rfl ?_
  refine Run.rounds (fun m env L J => ∃ j : Nat, m = j ∧ j ≤ s.length ∧ hasB c (s.drop j) = false ∧ env = [(0, str s), (1, u8 c), (5, .int .i64 ((j : Int) - 1))] ∧ L = [] ∧ J = I) s.length ⟨s.length, rfl, by omega, by simp [hasB], rfl, rfl, rfl⟩ ?_
  rintro j env L J ⟨_, rfl, hj, hno, rfl, rfl, rfl⟩ ih
  repeat (first | refine Run.seq ?_ | refine Run.region ?_ | refine Ops.nil ?_ | refine Ops.geq rfl (by decide) rfl rfl ?_ | refine Ops.pure T rfl (by decide) rfl ?_)
  refine Run.cond rfl rfl (fun h => ?_) (fun h => ?_)
  all_goals (try rw [h])
  all_goals (try simp only [decide_eq_true_eq, decide_eq_false_iff_not, Bool.not_eq_true', Bool.not_eq_false', Bool.and_eq_true, Bool.or_eq_true, Bool.and_eq_false_imp, Bool.or_eq_false_iff] at h)
  · obtain ⟨i, rfl⟩ : ∃ i, j = i + 1 := ⟨j - 1, by omega⟩
    have hi' : i < s.length := by omega
    have e1 : ((i + 1 : Nat) : Int) - 1 = i := by omega
    rw [e1]
    repeat (first | refine Run.seq ?_ | refine Run.region ?_ | refine Ops.nil ?_ | refine Run.skip ?_ | refine Run.block ?_ | refine Ops.eql rfl (by decide) rfl rfl ?_ | refine Ops.pure T rfl (by decide) rfl ?_ | refine Ops.indexStr rfl (by decide) (T.undOk rfl) rfl rfl (by first | omega | (simp only [List.length_cons, List.length_nil] ; omega) | (simp; omega)) (by first | omega | (simp only [List.length_cons, List.length_nil] ; omega) | (simp; omega)) ?_)
    have hd := drop_cons hi'
    refine Run.cond rfl rfl (fun h2 => ?_) (fun h2 => ?_)
    all_goals (try rw [h2])
    all_goals (try simp only [decide_eq_true_eq, decide_eq_false_iff_not, Bool.not_eq_true', Bool.not_eq_false', Bool.and_eq_true, Bool.or_eq_true, Bool.and_eq_false_imp, Bool.or_eq_false_iff] at h2)
    · have h3 : s.getD i 0 = c := u8_inj.1 (by simpa using h2)
      repeat (first | refine Run.seq ?_ | refine Run.region ?_ | refine Ops.nil ?_ | refine Ops.pure T rfl (by decide) rfl ?_)
      refine Run.fin (Run.ret1 (by rw [hCf]; exact func116) results116 rfl (hR _ _ _ ?_))
      refine ⟨rfl, ?_⟩
      have : lx c s = some i := by
        conv => lhs; rw [← List.take_append_drop i s, hd, h3]
        rw [lx_app hno]; simp; omega
      simp [lxI, this]
    · have h3 : ¬ s.getD i 0 = c := fun h => h2 (by simpa using u8_inj.2 h)
      repeat (first | refine Run.region ?_ | refine Ops.nil ?_ | refine Run.skip ?_ | refine Run.inBlock ?_ | refine Ops.sub rfl (by decide) rfl rfl (wI (by first | omega | (simp only [List.length_cons, List.length_nil] ; omega) | (simp; omega)) (by first | omega | (simp only [List.length_cons, List.length_nil] ; omega) | (simp; omega))) ?_ | refine Ops.pure T rfl (by decide) rfl ?_)
      refine Run.keep [0, 1, 5] [_, _, _] rfl ?_
      refine ih i _ _ _ (by omega) ⟨i, rfl, by omega, ?_, rfl, rfl, rfl⟩
      rw [hd, hasB_cons, hno, decide_eq_false h3]; rfl
  · obtain rfl : j = 0 := by omega
    repeat (first | refine Run.seq ?_ | refine Run.region ?_ | refine Ops.nil ?_ | refine Run.exit rfl ?_ | refine Ops.pure T rfl (by decide) rfl ?_)
    refine Run.fin (Run.ret1 (by rw [hCf]; exact func116) results116 rfl (hR _ _ _ ?_))
    refine ⟨rfl, ?_⟩
    have : lx c s = none := lx_none.2 (by simpa using hno)
    simp [lxI, this]
def inR (r : Nat) (cs : Tx) : Bool := decide (r ∈ runesW cs 0)
def allR (s cs : Tx) : Bool := (runesW s 0).all fun r => inR r cs
theorem memD (r x : Nat) (l : List Nat) : decide (r ∈ x :: l) = (decide ((r : Int) = (x : Int)) || decide (r ∈ l)) := by
  by_cases h : r = x
  · subst h; simp
  · have : decide ((r : Int) = (x : Int)) = false := decide_eq_false (by omega)
    rw [this]; simp [h]
set_option maxHeartbeats 2000000 in
theorem spec_within (I : Imm) (s cs : Tx) (a b : Nat) (hs : s.length ≤ 4620000000000000000) (hc : cs.length ≤ 4620000000000000000) : Pure prog 138 [str s, str cs, .int .i64 a, .int .i64 b] I fun w J =>
    w = .bool (allR s cs && (decide (a ≤ (runesW s 0).length) && decide ((runesW s 0).length ≤ b))) := by
  refine Spec.enter 43 [(0, _), (1, _), (2, _), (3, _)] func138 rfl ntmps138 (by simp) rfl ?_
  intro C hCf hR hCI
  repeat (first | refine Run.seq ?_ | refine Run.region ?_ | refine Ops.nil ?_ | refine Ops.pure T rfl (by decide) rfl ?_)
  refine Ops.rangeStr T rfl (by decide) rfl rfl (fun b1 => ?_)
  repeat (first | refine Ops.nil ?_ | refine Run.block ?_)
  refine Run.keep [0, 1, 2, 3, 9, 16] [_, _, _, _, _, _] rfl ?_
  refine Run.rounds (fun m env L J => ∃ p k : Nat, m = s.length - p ∧ p ≤ s.length ∧ k ≤ p ∧ k + (runesW s p).length = (runesW s 0).length ∧ ((runesW s p).all fun r => inR r cs) = allR s cs ∧
    env = [(0, str s), (1, str cs), (2, .int .i64 a), (3, .int .i64 b), (9, .int .i64 k), (16, .pointer (some ⟨b1, 0, none⟩))] ∧ L = [(b1, .stringIter (ba s) p)] ∧ J = I) s.length ⟨0, 0, by omega, by omega, by omega, by simp, rfl, rfl, rfl, rfl⟩ ?_
  rintro m env L J ⟨p, k, rfl, hp, hk, hlen, hall, rfl, rfl, rfl⟩ ih
  by_cases hlt : p < s.length
  · have hw := runeAt_width s p
    obtain ⟨_, _, hpw, _, _⟩ := runes_step hlt
    rw [runesW_lt hlt] at hlen hall
    repeat (first | refine Run.seq ?_ | refine Run.region ?_)
    refine Ops.nextStr 0 rfl (by decide) rfl rfl hlt ?_
    generalize runeAt s p = rw at *
    obtain ⟨r, w⟩ := rw
    simp only at hw hpw hlen hall
    repeat (first | refine Run.seq ?_ | refine Run.region ?_ | refine Ops.nil ?_ | refine Run.skip ?_ | refine Run.block ?_ | refine Run.cond_t rfl ?_ | refine Ops.add rfl (by decide) rfl rfl (wI (by first | omega | (simp only [List.length_cons, List.length_nil] ; omega) | (simp; omega)) (by first | omega | (simp only [List.length_cons, List.length_nil] ; omega) | (simp; omega))) ?_ | refine Ops.pure T rfl (by decide) rfl ?_)
    refine Ops.rangeStr T rfl (by decide) rfl rfl (fun b2 => ?_)
    repeat (first | refine Ops.nil ?_ | refine Run.block ?_)
    refine Run.keep [0, 1, 2, 3, 9, 16, 11, 12, 23] [_, _, _, _, _, _, _, _, _] rfl ?_
    refine Run.rounds (fun m env L K => ∃ (q : Nat) (fd : Bool), m = cs.length - q ∧ q ≤ cs.length ∧ (fd || decide (r ∈ runesW cs q)) = inR r cs ∧
      env = [(0, str s), (1, str cs), (2, .int .i64 a), (3, .int .i64 b), (9, .int .i64 ((k : Int) + 1)), (16, .pointer (some ⟨b1, 0, none⟩)), (11, .int .i32 r), (12, .bool fd), (23, .pointer (some ⟨b2, 0, none⟩))] ∧
      L = [(b2, .stringIter (ba cs) q), (b1, .stringIter (ba s) (p + w))] ∧ K = J) cs.length ⟨0, false, by omega, by omega, by simp [inR], rfl, rfl, rfl⟩ ?_
    rintro m env L K ⟨q, fd, rfl, hq, hfd, rfl, rfl, rfl⟩ ih2
    by_cases hqt : q < cs.length
    · have hw2 := runeAt_width cs q
      obtain ⟨_, _, hpw2, _, _⟩ := runes_step hqt
      rw [runesW_lt hqt, memD, ← Bool.or_assoc] at hfd
      repeat (first | refine Run.seq ?_ | refine Run.region ?_)
      refine Ops.nextStr 0 rfl (by decide) rfl rfl hqt ?_
      generalize runeAt cs q = rw at *
      obtain ⟨x, w2⟩ := rw
      simp only at hw2 hpw2 hfd
      cases fd with
      | true =>
        repeat (first | refine Run.seq ?_ | refine Run.region ?_ | refine Ops.nil ?_ | refine Run.skip ?_ | refine Run.block ?_ | refine Run.inBlock ?_ | refine Run.cond_t rfl ?_ | refine Ops.not rfl (by decide) ?_ | refine Ops.pure T rfl (by decide) rfl ?_)
        refine Run.keep [0, 1, 2, 3, 9, 16, 11, 12, 23] [_, _, _, _, _, _, _, _, _] rfl ?_
        refine ih2 (cs.length - (q + w2)) _ _ _ (by omega) ⟨q + w2, true, rfl, by omega, by simpa using hfd, rfl, rfl, rfl⟩
      | false =>
        repeat (first | refine Run.seq ?_ | refine Run.region ?_ | refine Ops.nil ?_ | refine Run.skip ?_ | refine Run.block ?_ | refine Run.inBlock ?_ | refine Run.cond_t rfl ?_ | refine Ops.eql rfl (by decide) rfl rfl ?_ | refine Ops.pure T rfl (by decide) rfl ?_)
        refine Run.keep [0, 1, 2, 3, 9, 16, 11, 12, 23] [_, _, _, _, _, _, _, _, _] rfl ?_
        refine ih2 (cs.length - (q + w2)) _ _ _ (by omega) ⟨q + w2, decide ((r : Int) = (x : Int)), rfl, by omega, by simpa using hfd, rfl, rfl, rfl⟩
    · rw [runesW_end hqt] at hfd
      repeat (first | refine Run.seq ?_ | refine Run.region ?_)
      refine Ops.nextStrEnd 0 rfl (by decide) rfl rfl hqt ?_
      cases fd with
      | false =>
        repeat (first | refine Run.seq ?_ | refine Run.region ?_ | refine Ops.nil ?_ | refine Run.exit rfl ?_ | refine Run.cond_t rfl ?_ | refine Run.cond_f rfl ?_ | refine Ops.pure T rfl (by decide) rfl ?_)
        refine Run.fin (Run.ret1 (by rw [hCf]; exact func138) results138 rfl (hR _ _ _ ?_))
        refine ⟨rfl, ?_⟩
        have : inR r cs = false := by rw [← hfd]; simp
        rw [← hall, List.all_cons, this]; rfl
      | true =>
        have hi : inR r cs = true := by rw [← hfd]; simp
        rw [List.all_cons, hi, Bool.true_and] at hall
        repeat (first | refine Run.seq ?_ | refine Run.region ?_ | refine Ops.nil ?_ | refine Run.skip ?_ | refine Run.inBlock ?_ | refine Run.exit rfl ?_ | refine Run.cond_f rfl ?_ | refine Ops.pure T rfl (by decide) rfl ?_)
        refine Run.dropL (List.sublist_cons_self _ _) ?_
        refine Run.keep [0, 1, 2, 3, 9, 16] [_, _, _, _, _, _] rfl ?_
        refine ih (s.length - (p + w)) _ _ _ (by omega) ⟨p + w, k + 1, rfl, by omega, by omega, by simp only [List.length_cons] at hlen; omega, hall, rfl, rfl, rfl⟩
  · rw [runesW_end hlt] at hlen hall
    repeat (first | refine Run.seq ?_ | refine Run.region ?_)
    refine Ops.nextStrEnd 0 rfl (by decide) rfl rfl hlt ?_
    repeat (first | refine Run.seq ?_ | refine Run.region ?_ | refine Ops.nil ?_ | refine Run.exit rfl ?_ | refine Run.cond_f rfl ?_ | refine Ops.geq rfl (by decide) rfl rfl ?_ | refine Ops.pure T rfl (by decide) rfl ?_)
    have hk' : k = (runesW s 0).length := by simpa using hlen
    cases h : decide ((a : Int) ≤ (k : Int)) with
    | false =>
      repeat (first | refine Ops.nil ?_ | refine Ops.not rfl (by decide) ?_ | refine Ops.pure T rfl (by decide) rfl ?_)
      refine Run.fin (Run.ret1 (by rw [hCf]; exact func138) results138 rfl (hR _ _ _ ?_))
      have := of_decide_eq_false h
      have h2 : decide (a ≤ (runesW s 0).length) = false := decide_eq_false (by omega)
      exact ⟨rfl, by rw [← hall, h2]; rfl⟩
    | true =>
      repeat (first | refine Ops.nil ?_ | refine Ops.leq rfl (by decide) rfl rfl ?_ | refine Ops.pure T rfl (by decide) rfl ?_)
      refine Run.fin (Run.ret1 (by rw [hCf]; exact func138) results138 rfl (hR _ _ _ ?_))
      have := of_decide_eq_true h
      have h2 : decide (a ≤ (runesW s 0).length) = true := decide_eq_true (by omega)
      refine ⟨rfl, ?_⟩
      rw [← hall, h2, ← hk']
      simp only [List.all_nil, Bool.true_and]
      congr 1
      rw [decide_eq_decide]; omega
theorem ixI_none {c : UInt8} {s : Tx} (h : ix c s = none) : ixI c s = -1 := by simp [ixI, h]
theorem ixI_eq {c : UInt8} {s : Tx} {k : Nat} (h : ix c s = some k) : ixI c s = k := by simp [ixI, h]
theorem spec_digestGood (I : Imm) (s : Tx) (hs : s.length ≤ 4620000000000000000) : Pure prog 117 [str s] I fun w J => w = .bool (digGood s) := by
  refine Spec.enter 16 [(0, _)] func117 rfl ntmps117 (by simp) rfl ?_
  intro C hCf hR hCI
  repeat (first | refine Run.seq ?_ | refine Run.region ?_ | refine Ops.nil ?_ | refine Ops.eql rfl (by decide) rfl rfl ?_ | refine Ops.pure T rfl (by decide) rfl ?_ | refine Ops.lenS T rfl (by decide) rfl rfl ?_)
  cases h : decide ((s.length : Int) = 71) with
  | false =>
    repeat (first | refine Ops.nil ?_ | refine Ops.not rfl (by decide) ?_ | refine Ops.pure T rfl (by decide) rfl ?_)
    refine Run.fin (Run.ret1 (by rw [hCf]; exact func117) results117 rfl (hR _ _ _ ?_))
    have h' := of_decide_eq_false h
    exact ⟨rfl, by rw [digGood, decide_eq_false (show ¬ s.length = 71 by omega)]; rfl⟩
  | true =>
    have h' := of_decide_eq_true h
    repeat (first | refine Ops.eqlStr rfl (by decide) rfl rfl ?_ | refine Ops.pure T rfl (by decide) rfl ?_ | refine Ops.sliceStrHi rfl (by decide) (T.undOk rfl) rfl rfl (by first | omega | (simp only [List.length_cons, List.length_nil] ; omega) | (simp; omega)) (by first | omega | (simp only [List.length_cons, List.length_nil] ; omega) | (simp; omega)) ?_)
    have e : decide (s.length = 71) = true := decide_eq_true (by omega)
    have e7 : (7 : Int).toNat = 7 := rfl
    rw [e7]
    cases h2 : decide (s.take 7 = [115, 104, 97, 50, 53, 54, 58]) with
    | false =>
      repeat (first | refine Ops.nil ?_ | refine Ops.not rfl (by decide) ?_ | refine Ops.pure T rfl (by decide) rfl ?_)
      refine Run.fin (Run.ret1 (by rw [hCf]; exact func117) results117 rfl (hR _ _ _ ?_))
      exact ⟨rfl, by rw [digGood, e, h2]; rfl⟩
    | true =>
      repeat (first | refine Ops.pure T rfl (by decide) rfl ?_ | refine Ops.sliceStrLo rfl (by decide) (T.undOk rfl) rfl rfl (by first | omega | (simp only [List.length_cons, List.length_nil] ; omega) | (simp; omega)) (by first | omega | (simp only [List.length_cons, List.length_nil] ; omega) | (simp; omega)) ?_)
      refine Ops.call ((spec_within I (s.drop 7) hexT 64 64 (by simp; omega) (by decide))) rfl (by decide) call138 rfl ?_
      rintro _ J l rfl
      repeat (first | refine Ops.nil ?_ | refine Ops.pure T rfl (by decide) rfl ?_)
      refine Run.fin (Run.ret1 (by rw [hCf]; exact func117) results117 rfl (hR _ _ _ ?_))
      refine ⟨rfl, ?_⟩
      rw [digGood, e, h2, ← within_eq ascii_hex]
      rfl
end Go.V
namespace Go.V
open Go.RowKit
set_option linter.unusedVariables false
set_option linter.unusedSimpArgs false
set_option maxRecDepth 10000
attribute [local irreducible] Run Ops QD
abbrev hashV (a h : Tx) : Value := .agg #[str a, str h]
end Go.V
namespace Go.V
open Go.RowKit
set_option linter.unusedVariables false
set_option linter.unusedSimpArgs false
set_option maxRecDepth 10000
attribute [local irreducible] Run Ops QD
abbrev sha256T' : Tx := [115, 104, 97, 50, 53, 54]
theorem digGood_split {s : Tx} (h : digGood s = true) : s = [115, 104, 97, 50, 53, 54, 58] ++ s.drop 7 ∧ (s.drop 7).length = 64 ∧ allIn hexT (s.drop 7) = true := by
  simp only [digGood, Bool.and_eq_true, decide_eq_true_eq, sWithin] at h
  obtain ⟨h1, h2, h3, h4, h5⟩ := h
  refine ⟨?_, by omega, h3⟩
  conv => lhs; rw [← List.take_append_drop 7 s, h2]
theorem ix_dig {s : Tx} (h : digGood s = true) : ix 58 s = some 6 := by
  rw [(digGood_split h).1]; exact ix_app (x := [115, 104, 97, 50, 53, 54]) (by decide)
abbrev zeroH : Value := hashV [] []
end Go.V
namespace Go.V
open Go.Proofs.Tryz
open Go.RowKit
set_option linter.unusedVariables false
set_option linter.unusedSimpArgs false
set_option maxRecDepth 10000
attribute [local irreducible] Run Ops QD
def otherAl (s : Tx) : Bool := match ix 58 s with
  | some k => decide (s.take k = [115, 104, 97, 53, 49, 50]) || decide (s.take k = [115, 104, 97, 51, 56, 52])
  | none => false
def hOpen (s : Tx) : Bool := decide (ixI 58 s = lxI 58 s) && !digGood s && otherAl s
theorem spec_HashRead (I : Imm) (s : Tx) (hs : s.length ≤ 4620000000000000000) : Pure prog 79 [str s] I fun w J =>
    w = .tuple #[if digGood s then hashV sha256T' (s.drop 7) else zeroH, .bool (digGood s), .bool (hOpen s)] := by
  refine Spec.enter 33 [(0, _)] func79 rfl ntmps79 (by simp) rfl ?_
  intro C hCf hR hCI
  repeat (first | refine Run.seq ?_)
  refine Run.region ?_
  refine Ops.alloc rfl (by decide) (T.zeroOk rfl) rfl (fun b2 => ?_)
  repeat (first | refine Run.seq ?_ | refine Run.region ?_ | refine Ops.nil ?_ | refine Ops.pure T rfl (by decide) rfl ?_)
  refine Ops.call ((spec_firstOf s 58 I hs)) rfl (by decide) call115 rfl ?_
  rintro _ J1 l1 rfl
  cases hk : ix 58 s with
  | none =>
    have hl : lxI 58 s = -1 := by rw [lxI, lx_none.2 (ix_none.1 hk)]
    have hd : digGood s = false := by
      cases h : digGood s with
      | false => rfl
      | true => rw [ix_dig h] at hk; cases hk
    have ho : hOpen s = false := by simp [hOpen, otherAl, hk]
    rw [ixI_none hk]
    repeat (first | refine Run.seq ?_ | refine Run.region ?_ | refine Ops.nil ?_ | refine Run.cond_t rfl ?_ | refine Ops.not rfl (by decide) ?_ | refine Ops.lss rfl (by decide) rfl rfl ?_ | refine Ops.pure T rfl (by decide) rfl ?_ | refine Ops.loadN 0 rfl (by decide) rfl rfl (T.aggOk rfl) (T.sizeOk rfl) rfl rfl ?_ | refine Ops.store 0 rfl rfl rfl rfl rfl (T.sizeOk rfl) rfl (Nat.le_of_ble_eq_true rfl) rfl rfl ?_)
    refine Run.retCTT T 0 (by rw [hCf]; exact func79) results79 rfl rfl rfl rfl rfl rfl rfl rfl (hR _ _ _ ?_)
    rw [hd, ho]; exact ⟨rfl, rfl⟩
  | some k =>
    have hlt := ix_lt hk
    rw [ixI_eq hk]
    repeat (first | refine Run.seq ?_ | refine Run.region ?_ | refine Ops.nil ?_ | refine Ops.lss rfl (by decide) rfl rfl ?_ | refine Ops.pure T rfl (by decide) rfl ?_)
    rw [decide_eq_false (show ¬ (k : Int) < 0 by omega)]
    skip
    refine Ops.call ((spec_lastOf s 58 J1 hs)) rfl (by decide) call116 rfl ?_
    rintro _ J2 l2 rfl
    repeat (first | refine Ops.nil ?_ | refine Ops.neq rfl (by decide) rfl rfl ?_ | refine Ops.pure T rfl (by decide) rfl ?_)
    cases hl : decide ((k : Int) = lxI 58 s) with
    | false =>
      have hd : digGood s = false := by
        cases h : digGood s with
        | false => rfl
        | true =>
          have e := ix_dig h
          rw [hk] at e; cases e
          have : lx 58 s = some 6 := by
            obtain ⟨e, h1, h2⟩ := digGood_split h
            rw [e]; exact lx_app (x := [115, 104, 97, 50, 53, 54]) (allIn_not 58 h2 (by decide))
          rw [lxI, this] at hl
          cases hl
      have ho : hOpen s = false := by simp only [hOpen, ixI_eq hk, hl, Bool.false_and]
      repeat (first | refine Run.seq ?_ | refine Run.region ?_ | refine Ops.nil ?_ | refine Run.cond_t rfl ?_ | refine Ops.pure T rfl (by decide) rfl ?_ | refine Ops.loadN 0 rfl (by decide) rfl rfl (T.aggOk rfl) (T.sizeOk rfl) rfl rfl ?_ | refine Ops.store 0 rfl rfl rfl rfl rfl (T.sizeOk rfl) rfl (Nat.le_of_ble_eq_true rfl) rfl rfl ?_)
      refine Run.retCTT T 0 (by rw [hCf]; exact func79) results79 rfl rfl rfl rfl rfl rfl rfl rfl (hR _ _ _ ?_)
      rw [hd, ho]; exact ⟨rfl, rfl⟩
    | true =>
      repeat (first | refine Run.seq ?_ | refine Run.region ?_ | refine Run.skip ?_ | refine Run.cond_f rfl ?_ | refine Ops.pure T rfl (by decide) rfl ?_)
      refine Ops.call ((spec_digestGood J2 s hs)) rfl (by decide) call117 rfl ?_
      rintro _ J3 l3 rfl
      have ho : hOpen s = (!digGood s && otherAl s) := by simp only [hOpen, ixI_eq hk, hl, Bool.true_and]
      cases hd : digGood s with
      | true =>
        have h7 : 7 ≤ s.length := by obtain ⟨e, h1, h2⟩ := digGood_split hd; simp at h1; omega
        repeat (first | refine Run.seq ?_ | refine Run.region ?_ | refine Ops.nil ?_ | refine Run.cond_t rfl ?_ | refine Ops.pure T rfl (by decide) rfl ?_ | refine Ops.sliceStrLo rfl (by decide) (T.undOk rfl) rfl rfl (by first | omega | (simp only [List.length_cons, List.length_nil] ; omega) | (simp; omega)) (by first | omega | (simp only [List.length_cons, List.length_nil] ; omega) | (simp; omega)) ?_)
        refine Ops.buildL bd44 rfl (by decide) rfl rfl ?_
        repeat (first | refine Ops.nil ?_ | refine Ops.pure T rfl (by decide) rfl ?_ | refine Ops.store 0 rfl rfl rfl rfl rfl (T.sizeOk rfl) rfl (Nat.le_of_ble_eq_true rfl) rfl rfl ?_)
        refine Run.retCTT T 0 (by rw [hCf]; exact func79) results79 rfl rfl rfl rfl rfl rfl rfl rfl (hR _ _ _ ?_)
        rw [ho, hd]; exact ⟨rfl, rfl⟩
      | false =>
        repeat (first | refine Run.seq ?_ | refine Ops.nil ?_ | refine Run.skip ?_ | refine Run.cond_f rfl ?_)
        have ho2 : otherAl s = (decide (s.take k = [115, 104, 97, 53, 49, 50]) || decide (s.take k = [115, 104, 97, 51, 56, 52])) := by simp [otherAl, hk]
        refine Run.regionAny (fun _ => True) (bl 14 0) (by kernel_rfl) (by kernel_rfl) ?_
        refine RAny.tk 1 (bl 14 2) rfl (by kernel_rfl) (by decide) (fun _ _ => trivial) (Yld.eval T rfl rfl) ?_
        refine RAny.tk 2 (bl 14 6) rfl (by kernel_rfl) (by decide) (fun _ _ => trivial) (Yld.eval T rfl rfl) ?_
        refine RAny.tk 3 (bl 14 14) rfl (by kernel_rfl) (by decide) (fun _ _ => trivial) (Yld.ev (Ev.cutSHi T rfl rfl rfl (by first | omega | (simp only [List.length_cons, List.length_nil] ; omega) | (simp; omega)) (by first | omega | (simp only [List.length_cons, List.length_nil] ; omega) | (simp; omega))) rfl) ?_
        refine RAny.tk 4 (bl 14 30) rfl (by kernel_rfl) (by decide) (fun _ _ => trivial) (Yld.ev (Ev.eqlS rfl rfl) rfl) ?_
        refine RAny.tk 5 (bl 14 62) rfl (by kernel_rfl) (by decide) (fun _ _ => trivial) (Yld.eval T rfl rfl) ?_
        rw [show ((k : Int)).toNat = k by omega]
        skip
        cases h1 : decide (s.take k = [115, 104, 97, 53, 49, 50]) with
        | true =>
          first | refine RAny.tk 6 (bl 14 126) rfl (by kernel_rfl) (by decide) (fun _ _ => trivial) (Yld.eval T rfl rfl) ?_ | refine RAny.tk 6 (bl 14 126) rfl (by kernel_rfl) (by decide) (fun _ _ => trivial) (Yld.off rfl) ?_ | refine RAny.tu 6 (bl 14 126) rfl (by kernel_rfl) (by decide) (fun _ _ => trivial) rfl ?_
          first | refine RAny.tk 7 (bl 14 254) rfl (by kernel_rfl) (by decide) (fun _ _ => trivial) (Yld.eval T rfl rfl) ?_ | refine RAny.tk 7 (bl 14 254) rfl (by kernel_rfl) (by decide) (fun _ _ => trivial) (Yld.off rfl) ?_ | refine RAny.tu 7 (bl 14 254) rfl (by kernel_rfl) (by decide) (fun _ _ => trivial) rfl ?_
          first | refine RAny.tk 8 (bl 14 510) rfl (by kernel_rfl) (by decide) (fun _ _ => trivial) (Yld.ev (Ev.cutSHi T rfl rfl rfl (by first | omega | (simp only [List.length_cons, List.length_nil] ; omega) | (simp; omega)) (by first | omega | (simp only [List.length_cons, List.length_nil] ; omega) | (simp; omega))) rfl) ?_ | refine RAny.tk 8 (bl 14 510) rfl (by kernel_rfl) (by decide) (fun _ _ => trivial) (Yld.off rfl) ?_ | refine RAny.tu 8 (bl 14 510) rfl (by kernel_rfl) (by decide) (fun _ _ => trivial) rfl ?_
          first | refine RAny.tk 9 (bl 14 1022) rfl (by kernel_rfl) (by decide) (fun _ _ => trivial) (Yld.ev (Ev.eqlS rfl rfl) rfl) ?_ | refine RAny.tk 9 (bl 14 1022) rfl (by kernel_rfl) (by decide) (fun _ _ => trivial) (Yld.off rfl) ?_ | refine RAny.tu 9 (bl 14 1022) rfl (by kernel_rfl) (by decide) (fun _ _ => trivial) rfl ?_
          refine RAny.tk 10 (bl 14 2046) rfl (by kernel_rfl) (by decide) (fun _ _ => trivial) (Yld.eval T rfl rfl) ?_
          refine RAny.on 0 (bl 14 2047) rfl (by kernel_rfl) rfl (by decide) (Eff.yv (Yv.loadN 0 T rfl rfl rfl rfl rfl rfl) ⟨fun _ _ => trivial, ?_⟩)
          refine RAny.os 11 (bl 14 4095) rfl (by kernel_rfl) rfl (Eff.store 0 rfl rfl rfl rfl (T.sizeOk rfl) rfl (Nat.le_of_ble_eq_true rfl) rfl rfl ⟨fun _ _ => trivial, ?_⟩)
          refine RAny.tk 12 (bl 14 8191) rfl (by kernel_rfl) (by decide) (fun _ _ => trivial) (Yld.eval T rfl rfl) ?_
          refine RAny.tk 13 (bl 14 16383) rfl (by kernel_rfl) (by decide) (fun _ _ => trivial) (Yld.eval T rfl rfl) ?_
          refine RAny.done _ (by kernel_rfl) ?_
          skip
          refine Run.retCTT T 0 (by rw [hCf]; exact func79) results79 rfl rfl rfl rfl rfl rfl rfl rfl (hR _ _ _ ?_)
          rw [ho, hd, ho2, h1]; exact ⟨rfl, rfl⟩
        | false =>
          skip
          first | refine RAny.tk 6 (bl 14 126) rfl (by kernel_rfl) (by decide) (fun _ _ => trivial) (Yld.eval T rfl rfl) ?_ | refine RAny.tk 6 (bl 14 126) rfl (by kernel_rfl) (by decide) (fun _ _ => trivial) (Yld.off rfl) ?_ | refine RAny.tu 6 (bl 14 126) rfl (by kernel_rfl) (by decide) (fun _ _ => trivial) rfl ?_
          first | refine RAny.tk 7 (bl 14 254) rfl (by kernel_rfl) (by decide) (fun _ _ => trivial) (Yld.eval T rfl rfl) ?_ | refine RAny.tk 7 (bl 14 254) rfl (by kernel_rfl) (by decide) (fun _ _ => trivial) (Yld.off rfl) ?_ | refine RAny.tu 7 (bl 14 254) rfl (by kernel_rfl) (by decide) (fun _ _ => trivial) rfl ?_
          first | refine RAny.tk 8 (bl 14 510) rfl (by kernel_rfl) (by decide) (fun _ _ => trivial) (Yld.ev (Ev.cutSHi T rfl rfl rfl (by first | omega | (simp only [List.length_cons, List.length_nil] ; omega) | (simp; omega)) (by first | omega | (simp only [List.length_cons, List.length_nil] ; omega) | (simp; omega))) rfl) ?_ | refine RAny.tk 8 (bl 14 510) rfl (by kernel_rfl) (by decide) (fun _ _ => trivial) (Yld.off rfl) ?_ | refine RAny.tu 8 (bl 14 510) rfl (by kernel_rfl) (by decide) (fun _ _ => trivial) rfl ?_
          first | refine RAny.tk 9 (bl 14 1022) rfl (by kernel_rfl) (by decide) (fun _ _ => trivial) (Yld.ev (Ev.eqlS rfl rfl) rfl) ?_ | refine RAny.tk 9 (bl 14 1022) rfl (by kernel_rfl) (by decide) (fun _ _ => trivial) (Yld.off rfl) ?_ | refine RAny.tu 9 (bl 14 1022) rfl (by kernel_rfl) (by decide) (fun _ _ => trivial) rfl ?_
          refine RAny.tk 10 (bl 14 2046) rfl (by kernel_rfl) (by decide) (fun _ _ => trivial) (Yld.eval T rfl rfl) ?_
          rw [show ((k : Int)).toNat = k by omega]
          refine RAny.on 0 (bl 14 2047) rfl (by kernel_rfl) rfl (by decide) (Eff.yv (Yv.loadN 0 T rfl rfl rfl rfl rfl rfl) ⟨fun _ _ => trivial, ?_⟩)
          refine RAny.os 11 (bl 14 4095) rfl (by kernel_rfl) rfl (Eff.store 0 rfl rfl rfl rfl (T.sizeOk rfl) rfl (Nat.le_of_ble_eq_true rfl) rfl rfl ⟨fun _ _ => trivial, ?_⟩)
          refine RAny.tk 12 (bl 14 8191) rfl (by kernel_rfl) (by decide) (fun _ _ => trivial) (Yld.eval T rfl rfl) ?_
          refine RAny.tk 13 (bl 14 16383) rfl (by kernel_rfl) (by decide) (fun _ _ => trivial) (Yld.eval T rfl rfl) ?_
          refine RAny.done _ (by kernel_rfl) ?_
          skip
          refine Run.retCTT T 0 (by rw [hCf]; exact func79) results79 rfl rfl rfl rfl rfl rfl rfl rfl (hR _ _ _ ?_)
          rw [ho, hd, ho2, h1]; exact ⟨rfl, rfl⟩
end Go.V
namespace Go.V
open Go.Proofs.Tryz
open Go.RowKit
set_option linter.unusedVariables false
set_option linter.unusedSimpArgs false
set_option maxRecDepth 10000
attribute [local irreducible] Run Ops QD
def hTell (h : K2) : Bs := h.1 ++ [58] ++ h.2
theorem spec_HashTell (I : Imm) (h : K2) (hf : fit2 h) : Pure prog 48 [.agg [str h.1, str h.2].toArray] I fun w J => w = str (hTell h) := by
  obtain ⟨a, x⟩ := h
  obtain ⟨h1, h2⟩ := hf
  simp only at h1 h2
  refine Spec.enter 9 [(0, _)] func48 rfl ntmps48 (by simp) rfl ?_
  intro C hCf hR hCI
  repeat (first | refine Run.seq ?_ | refine Run.region ?_)
  refine Ops.box rfl (by decide) rfl rfl (fun b => ?_)
  repeat (first | refine Run.seq ?_ | refine Run.region ?_ | refine Ops.nil ?_ | refine Ops.cat rfl (by decide) rfl rfl (by first | omega | (simp only [List.length_cons, List.length_nil] ; omega) | (simp; omega)) ?_ | refine Ops.pure T rfl (by decide) rfl ?_ | refine Ops.load 0 rfl (by decide) rfl rfl (T.aggOk rfl) rfl ?_)
  refine Run.fin (Run.ret1 (by rw [hCf]; exact func48) results48 rfl (hR _ _ _ ?_))
  exact ⟨rfl, rfl⟩
theorem laws_hashGood (I : Imm) (h : K2) (hf : fit2 h) : Pure prog 35 [.agg [str h.1, str h.2].toArray] I fun w J => w = .bool (digGood (hTell h)) := by
  have hl : (hTell h).length ≤ 4620000000000000000 := by obtain ⟨h1, h2⟩ := hf; unfold hTell; simp only [List.length_append, List.length_cons, List.length_nil]; omega
  refine Spec.enter 14 [(0, _)] func35 rfl ntmps35 (by simp) rfl ?_
  intro C hCf hR hCI
  repeat (first | refine Run.seq ?_)
  refine Run.region ?_
  refine Ops.box rfl (by decide) rfl rfl (fun b1 => ?_)
  refine Ops.pure T rfl (by decide) rfl ?_
  refine Ops.nil ?_
  repeat (first | refine Run.seq ?_)
  refine Run.regionP (D := [some 7, some 8, some 9, some 6, some 10, some 11, some 12, some 3, none, some 4, some 5]) [true] 1 rfl rfl rfl (by simp only [List.drop_succ_cons, List.drop_zero]; rfl) (fun Z hZ => ?_)
  first | refine QD.yv (by decide) rfl (Yv.loadN 0 T rfl rfl rfl rfl rfl rfl) ?_ | refine QD.yv (by decide) rfl (Yv.loadN 1 T rfl rfl rfl rfl rfl rfl) ?_ | refine QD.yv (by decide) rfl (Yv.loadN 2 T rfl rfl rfl rfl rfl rfl) ?_
  refine QD.nil (hZ _ ?_)
  clear hZ Z
  refine Ops.call ((spec_HashTell I h hf)) rfl (by decide) call48 rfl ?_
  rintro _ J1 l1 rfl
  refine Ops.call ((spec_HashRead J1 (hTell h) hl)) rfl (by decide) call79 rfl ?_
  rintro _ J2 l2 rfl
  cases hd : digGood (hTell h) with
  | true =>
    simp only [if_true]
    unfold hashV
    refine Ops.pure T rfl (by decide) rfl ?_
    refine Ops.pure T rfl (by decide) rfl ?_
    refine Ops.pure T rfl (by decide) rfl ?_
    refine Ops.pure T rfl (by decide) rfl ?_
    refine Ops.alloc rfl (by decide) (T.zeroOk rfl) rfl (fun b3 => ?_)
    first | refine Ops.store 0 rfl rfl rfl rfl rfl (T.sizeOk rfl) rfl (Nat.le_of_ble_eq_true rfl) rfl rfl ?_ | refine Ops.store 1 rfl rfl rfl rfl rfl (T.sizeOk rfl) rfl (Nat.le_of_ble_eq_true rfl) rfl rfl ?_ | refine Ops.store 2 rfl rfl rfl rfl rfl (T.sizeOk rfl) rfl (Nat.le_of_ble_eq_true rfl) rfl rfl ?_
    refine Ops.pure T rfl (by decide) rfl ?_
    refine Ops.pure T rfl (by decide) rfl ?_
    refine Ops.nil ?_
    repeat (first | refine Run.seq ?_)
    refine Run.regionO (D := [some 13, some 2]) [true, true] rfl rfl rfl (fun Z hZ => ?_)
    refine QD.ev T (by decide) rfl rfl ?_
    refine QD.ev T (by decide) rfl rfl ?_
    refine QD.nil (hZ _ ?_)
    clear hZ Z
    skip
    refine Run.fin (Run.ret1 (by rw [hCf]; exact func35) results35 rfl (hR _ _ _ ?_))
    exact ⟨rfl, by rw [hd]⟩
  | false =>
    simp only [Bool.false_eq_true, if_false]
    unfold zeroH hashV
    skip
    refine Ops.pure T rfl (by decide) rfl ?_
    refine Ops.pure T rfl (by decide) rfl ?_
    refine Ops.pure T rfl (by decide) rfl ?_
    refine Ops.pure T rfl (by decide) rfl ?_
    refine Ops.alloc rfl (by decide) (T.zeroOk rfl) rfl (fun b3 => ?_)
    first | refine Ops.store 0 rfl rfl rfl rfl rfl (T.sizeOk rfl) rfl (Nat.le_of_ble_eq_true rfl) rfl rfl ?_ | refine Ops.store 1 rfl rfl rfl rfl rfl (T.sizeOk rfl) rfl (Nat.le_of_ble_eq_true rfl) rfl rfl ?_ | refine Ops.store 2 rfl rfl rfl rfl rfl (T.sizeOk rfl) rfl (Nat.le_of_ble_eq_true rfl) rfl rfl ?_
    refine Ops.pure T rfl (by decide) rfl ?_
    refine Ops.pure T rfl (by decide) rfl ?_
    refine Ops.nil ?_
    repeat (first | refine Run.seq ?_)
    refine Run.regionO (D := [some 13, some 2]) [true, true] rfl rfl rfl (fun Z hZ => ?_)
    refine QD.ev T (by decide) rfl rfl ?_
    refine QD.ev T (by decide) rfl rfl ?_
    refine QD.nil (hZ _ ?_)
    clear hZ Z
    skip
    refine Run.fin (Run.ret1 (by rw [hCf]; exact func35) results35 rfl (hR _ _ _ ?_))
    exact ⟨rfl, by rw [hd]⟩
theorem Gr.lit {α : Type} {t : Ty α} {I : Imm} {e : TypeId} {b : Nat} {news : List Value} {ys : List α} (hC : Cells t I news ys) : Gr t I e (.slice (some ⟨b, 0, none⟩) ys.length ys.length) ys [(b, blk news e)] :=
  ⟨news, ⟨hC.flat_len, .inr ⟨b, ys.length, news.toArray, rfl, rfl, Nat.le_refl _, by simpa using hC.flat_len, by simp [← hC.flat_len]⟩⟩, hC⟩
def aTexts (l : List K2) : List Bs := l.flatMap fun p => [p.1, p.2]
theorem aTexts_len (l : List K2) : (aTexts l).length = 2 * l.length := by
  unfold aTexts
  induction l with
  | nil => rfl
  | cons x l ih => rw [List.flatMap_cons, List.length_append, ih]; simp; omega
theorem aTexts_fit {l : List K2} (h : ∀ x ∈ l, fit2 x) : ∀ s ∈ aTexts l, s.length ≤ 2147483647 := by
  intro s hs
  obtain ⟨x, hx, hm⟩ := List.mem_flatMap.1 hs
  have := h x hx
  simp only [List.mem_cons, List.not_mem_nil, or_false] at hm
  rcases hm with rfl | rfl
  · exact this.1
  · exact this.2
theorem Eff.appMany {P : Program} {n : Nat} {C : Cx} {env : Env} {L : Own} {I : Imm} {ty : TypeId} {ps : String} {af : Array Edge} {g : Option (Nat × Bool)} {d : Nat} {α : Type} {t : Ty α} {ys : List α} {s x : Operand} {ts e : TypeId} {bytes b q c : Nat} {M N : Own} {v : Value} {xs : List α} {news : List Value} {K : Value → Own → Imm → Prop} (hE : Elem P ts e t.size bytes) (hG : Gr t I e v xs M) (hC : Cells t I news ys) (hq : ys.length = q)
    (hs : opnd env s = some v) (hx : opnd env x = some (.slice (some ⟨b, 0, none⟩) q c)) (hb : (b, blk news e) ∈ L) (hL : L.Perm (M ++ N)) (h1 : one news = true)
    (hbytes : (2 * (xs.length + q) + 512) * bytes ≤ 281474976710656) (h63 : xs.length + q ≤ 4611686018427387904)
    (next : ∀ v' M', Gr t I e v' (xs ++ ys) M' → K v' (M' ++ N) I) :
    Eff P n C env L I ⟨some d, .call ⟨.builtin .append, #[s, x], #[ts, ts]⟩, ty, ps, af, g⟩ K := by
  obtain ⟨cs, hG1, hC1⟩ := hG
  have hlen : news.length = q * t.size := by rw [hC.flat_len, hq]
  refine Eff.append hE hs hx hL hG1 (q := q) (news := news) (fun W hi => ?_) hbytes h63 fun v' M' h => next v' M' ⟨cs ++ news, by simpa [hq] using h, hC1.append hC⟩
  have hW := hi.fits.own b _ hb
  exact Src.ofSlice W hE.under ⟨b, 0, none⟩ q c news hlen (fun j u hu => by rw [add_off, cell_blk hW]; simpa using hu) (one_spec h1)
end Go.V
