import Derived.Test.YtcegjgmmbbojdaaGreatDoorAW
import Derived.Test.YtcegjgmmbbojdaaGreatDoorAM3
import Derived.Lib.RuneBytes
import Derived.Lib.ValidU
import Derived.Shelf.Unicode.ValidAny
import Derived.Test.YtcegjgmmbbojdaaGreatDoorProg
import Derived.KernelRfl
import Derived.Shelf.Unicode.DecodeAny
import Derived.Shelf.Spec.DecodeRune
set_option linter.unusedVariables false
set_option linter.unusedSimpArgs false
namespace Go.V
set_option maxRecDepth 10000
inductive JV where
 | mk (kind : UInt8) (plain : Bool) (text : List UInt8) (kids : List JV) (keys : List (List UInt8))
def JV.kind : JV -> UInt8 | mk k _ _ _ _ => k
def JV.plain : JV -> Bool | mk _ p _ _ _ => p
def JV.text : JV -> List UInt8 | mk _ _ t _ _ => t
def JV.kids : JV -> List JV | mk _ _ _ k _ => k
def JV.keys : JV -> List (List UInt8) | mk _ _ _ _ k => k
abbrev Bs := List UInt8
def isBl (c : UInt8) : Bool := c == 32 || c == 9 || c == 10 || c == 13
def skipB (s : Bs) : Bs := s.dropWhile isBl
def wordR (w s : Bs) : Option Bs := if s.take w.length = w then some (s.drop w.length) else none
def hexV (c : UInt8) : Option Nat :=
 if 48 <= c.toNat /\ c.toNat <= 57 then some (c.toNat - 48) else if 97 <= c.toNat /\ c.toNat <= 102 then some (c.toNat - 87) else if 65 <= c.toNat /\ c.toNat <= 70 then some (c.toNat - 55) else none
def unitR : Nat -> Nat -> Bs -> Option (Nat × Bs)
 | 0, x, s => some (x, s)
 | _ + 1, _, [] => none
 | k + 1, x, c :: s => match hexV c with
  | none => none
  | some d => unitR k (x * 16 + d) s
def escU (s : Bs) : Option (Nat × Bs) := match unitR 4 0 s with
 | none => none
 | some (x, s1) => if 55296 <= x /\ x < 56320 then match wordR [92, 117] s1 with
   | none => some (x, s1)
   | some s2 => match unitR 4 0 s2 with
    | none => none
    | some (y, s3) => if 56320 <= y /\ y < 57344 then some (65536 + (x - 55296) * 1024 + (y - 56320), s3) else some (x, s1)
  else some (x, s1)
def escR (c : UInt8) (s : Bs) : Option (Bs × Bs) :=
 if c = 34 \/ c = 92 \/ c = 47 then some ([c], s)
 else if c = 98 then some ([8], s) else if c = 102 then some ([12], s) else if c = 110 then some ([10], s) else if c = 114 then some ([13], s) else if c = 116 then some ([9], s)
 else if c = 117 then (escU s).map fun p => (encR p.1, p.2)
 else none
def textR : Nat -> Bs -> Bs -> Option (Bs × Bs)
 | 0, _, _ => none
 | _ + 1, [], _ => none
 | n + 1, c :: s, out =>
  if c = 34 then some (out, s)
  else if c.toNat < 32 then none
  else if c = 92 then match s with
   | [] => none
   | d :: t => match escR d t with
    | none => none
    | some (x, r) => textR n r (out ++ x)
  else textR n ((c :: s).drop (runeAt (c :: s) 0).2) (out ++ encR (runeAt (c :: s) 0).1)
def strR (s : Bs) : Option (Bs × Bs) := textR (s.length + 1) s []
def isDg (c : UInt8) : Bool := decide (48 <= c.toNat) && decide (c.toNat <= 57)
def digsR (s : Bs) : Option Bs := match s with
 | [] => none
 | c :: t => if isDg c then some (t.dropWhile isDg) else none
def numR1 (s : Bs) : Bs := (wordR [45] s).getD s
def numR2 (s : Bs) : Option Bs := match wordR [48] s with
 | some r => some r
 | none => digsR s
def numR3 (s : Bs) : Option Bs := match wordR [46] s with
 | some r => digsR r
 | none => some s
def numR4 (s : Bs) : Option Bs := match wordR [101] s with
 | some r => digsR ((wordR [43] r).getD (numR1 r))
 | none => match wordR [69] s with
  | some r => digsR ((wordR [43] r).getD (numR1 r))
  | none => some s
def numR (s : Bs) : Option Bs := ((numR2 (numR1 s)).bind numR3).bind numR4
def elemsR (val : Bs -> Option (JV × Bs)) : Nat -> Bs -> List JV -> Option (List JV × Bs)
 | 0, _, _ => none
 | n + 1, s, acc => match val s with
  | none => none
  | some (x, s1) => match skipB s1 with
   | [] => none
   | c :: s2 => if c = 93 then some (acc ++ [x], s2) else if c = 44 then elemsR val n s2 (acc ++ [x]) else none
def keyR (s : Bs) : Option (Bs × Bs) := match skipB s with
 | [] => none
 | c :: s1 => if c = 34 then match strR s1 with
   | none => none
   | some (k, s2) => match skipB s2 with
    | [] => none
    | c :: s3 => if c = 58 then some (k, s3) else none
  else none
def membsR (val : Bs -> Option (JV × Bs)) : Nat -> Bs -> List Bs -> List JV -> Option (List Bs × List JV × Bs)
 | 0, _, _, _ => none
 | n + 1, s, ks, vs => match keyR s with
  | none => none
  | some (k, s1) => match val s1 with
   | none => none
   | some (x, s2) => match skipB s2 with
    | [] => none
    | c :: s3 => if c = 125 then some (ks ++ [k], vs ++ [x], s3) else if c = 44 then membsR val n s3 (ks ++ [k]) (vs ++ [x]) else none
def objR (val : Bs -> Option (JV × Bs)) (t : Bs) : Option (JV × Bs) := match wordR [125] (skipB t) with
 | some r => some (.mk 123 false [] [] [], r)
 | none => (membsR val (t.length + 1) (skipB t) [] []).map fun p => (.mk 123 false [] p.2.1 p.1, p.2.2)
def listR (val : Bs -> Option (JV × Bs)) (t : Bs) : Option (JV × Bs) := match wordR [93] (skipB t) with
 | some r => some (.mk 91 false [] [] [], r)
 | none => (elemsR val (t.length + 1) (skipB t) []).map fun p => (.mk 91 false [] p.1 [], p.2)
def eaten (s r : Bs) : Bs := s.take (s.length - r.length)
def stepR (sub : Option (Bs -> Option (JV × Bs))) (s : Bs) : Option (JV × Bs) := match skipB s with
 | [] => none
 | c :: t =>
  if c = 123 then sub.bind fun v => objR v t
  else if c = 91 then sub.bind fun v => listR v t
  else if c = 34 then (strR t).map fun p => (.mk 34 ((eaten (c :: t) p.2).all fun b => !(b == 92)) p.1 [] [], p.2)
  else if c = 116 then (wordR [116, 114, 117, 101] (c :: t)).map fun r => (.mk 116 false [] [] [], r)
  else if c = 102 then (wordR [102, 97, 108, 115, 101] (c :: t)).map fun r => (.mk 102 false [] [] [], r)
  else if c = 110 then (wordR [110, 117, 108, 108] (c :: t)).map fun r => (.mk 110 false [] [] [], r)
  else (numR (c :: t)).map fun r => (.mk 48 false (eaten (c :: t) r) [] [], r)
def rdV : Nat -> Bs -> Option (JV × Bs)
 | 0, s => stepR none s
 | f + 1, s => stepR (some (rdV f)) s
def Sfx (r s : Bs) : Prop := ∃ u, s = u ++ r
theorem Sfx.refl (s : Bs) : Sfx s s := ⟨[], rfl⟩
theorem Sfx.trans {a b c : Bs} (h : Sfx a b) (k : Sfx b c) : Sfx a c := by
 obtain ⟨u, rfl⟩ := h
 obtain ⟨v, rfl⟩ := k
 exact ⟨v ++ u, by simp⟩
theorem Sfx.cons (c : UInt8) (s : Bs) : Sfx s (c :: s) := ⟨[c], rfl⟩
theorem Sfx.len {r s : Bs} (h : Sfx r s) : r.length <= s.length := by obtain ⟨u, rfl⟩ := h; simp
theorem Sfx.dropN (s : Bs) (k : Nat) : Sfx (s.drop k) s := ⟨s.take k, (List.take_append_drop k s).symm⟩
theorem skip_sfx (s : Bs) : Sfx (skipB s) s := ⟨s.takeWhile isBl, List.takeWhile_append_dropWhile.symm⟩
theorem word_sfx {w s r : Bs} (h : wordR w s = some r) : Sfx r s /\ s = w ++ r := by
 unfold wordR at h
 split at h
 ·rename_i e
  cases h
  exact ⟨Sfx.dropN _ _, by have := List.take_append_drop w.length s; rw [e] at this; exact this.symm⟩
 ·cases h
theorem word_app (w r : Bs) : wordR w (w ++ r) = some r := by
 unfold wordR; simp
theorem word1 (c : UInt8) (t : Bs) : wordR [c] (c :: t) = some t := word_app [c] t
theorem unit_sfx : ∀ (k x : Nat) (s : Bs) {y : Nat} {r : Bs}, unitR k x s = some (y, r) -> Sfx r s
 | 0, x, s, y, r, h => by simp only [unitR, Option.some.injEq, Prod.mk.injEq] at h; rw [h.2]; exact Sfx.refl _
 | k + 1, x, [], y, r, h => by simp [unitR] at h
 | k + 1, x, c :: s, y, r, h => by
  simp only [unitR] at h
  split at h
  ·cases h
  ·exact (unit_sfx k _ s h).trans (Sfx.cons _ _)
theorem escU_sfx {s r : Bs} {x : Nat} (h : escU s = some (x, r)) : Sfx r s := by
 have out : ∀ {y z : Nat} {a b : Bs}, (some (y, a) : Option (Nat × Bs)) = some (z, b) -> a = b := fun h => (Prod.mk.inj (Option.some.inj h)).2
 unfold escU at h
 split at h
 ·exact absurd h (by simp)
 ·rename_i y s1 h1
  have k1 := unit_sfx _ _ _ h1
  split at h
  ·split at h
   ·rw [<- out h]; exact k1
   ·rename_i s2 h2
    have k2 := (word_sfx h2).1
    split at h
    ·exact absurd h (by simp)
    ·rename_i z s3 h3
     have k3 := unit_sfx _ _ _ h3
     split at h
     ·rw [<- out h]; exact (k3.trans k2).trans k1
     ·rw [<- out h]; exact k1
  ·rw [<- out h]; exact k1
theorem escR_sfx {c : UInt8} {s x r : Bs} (h : escR c s = some (x, r)) : Sfx r s := by
 have out : ∀ {y z : Bs} {a b : Bs}, (some (y, a) : Option (Bs × Bs)) = some (z, b) -> a = b := fun h => (Prod.mk.inj (Option.some.inj h)).2
 unfold escR at h
 split at h
 ·rw [<- out h]; exact Sfx.refl _
 split at h
 ·rw [<- out h]; exact Sfx.refl _
 split at h
 ·rw [<- out h]; exact Sfx.refl _
 split at h
 ·rw [<- out h]; exact Sfx.refl _
 split at h
 ·rw [<- out h]; exact Sfx.refl _
 split at h
 ·rw [<- out h]; exact Sfx.refl _
 split at h
 ·cases he : escU s with
  | none => rw [he] at h; exact absurd h (by simp)
  | some p =>
   obtain ⟨y, q⟩ := p
   rw [he] at h
   rw [<- out h]; exact escU_sfx he
 ·exact absurd h (by simp)
theorem text_sfx : ∀ (n : Nat) (s out : Bs) {t r : Bs}, textR n s out = some (t, r) -> Sfx r s /\ r.length < s.length
 | 0, s, out, t, r, h => by simp [textR] at h
 | n + 1, [], out, t, r, h => by simp [textR] at h
 | n + 1, c :: s, out, t, r, h => by
  simp only [textR] at h
  split at h
  ·cases h; exact ⟨Sfx.cons _ _, by simp⟩
  split at h
  ·cases h
  split at h
  ·cases s with
   | nil => simp at h
   | cons d u =>
    simp only at h
    split at h
    ·cases h
    ·rename_i x r' he
     obtain ⟨k1, k2⟩ := text_sfx n _ _ h
     have k3 := escR_sfx he
     exact ⟨((k1.trans k3).trans (Sfx.cons _ _)).trans (Sfx.cons _ _), by have := k3.len; simp only [List.length_cons]; omega⟩
  ·obtain ⟨k1, k2⟩ := text_sfx n _ _ h
   have := (Sfx.dropN (c :: s) (runeAt (c :: s) 0).2).len
   exact ⟨k1.trans (Sfx.dropN _ _), by omega⟩
theorem str_sfx {s t r : Bs} (h : strR s = some (t, r)) : Sfx r s /\ r.length < s.length := text_sfx _ _ _ h
theorem digs_sfx {s r : Bs} (h : digsR s = some r) : Sfx r s /\ r.length < s.length := by
 unfold digsR at h
 split at h
 ·cases h
 ·rename_i c t
  split at h
  ·cases h
   have k : Sfx (t.dropWhile isDg) t := ⟨t.takeWhile isDg, List.takeWhile_append_dropWhile.symm⟩
   exact ⟨k.trans (Sfx.cons _ _), by have := k.len; simp only [List.length_cons]; omega⟩
  ·cases h
theorem num1_sfx (s : Bs) : Sfx (numR1 s) s := by
 unfold numR1
 cases h : wordR [45] s with
 | none => exact Sfx.refl _
 | some r => exact (word_sfx h).1
theorem num2_sfx {s r : Bs} (h : numR2 s = some r) : Sfx r s /\ r.length < s.length := by
 unfold numR2 at h
 split at h
 ·rename_i q hq
  cases h
  obtain ⟨k1, k2⟩ := word_sfx hq
  exact ⟨k1, by rw [k2]; simp⟩
 ·exact digs_sfx h
theorem num3_sfx {s r : Bs} (h : numR3 s = some r) : Sfx r s := by
 unfold numR3 at h
 split at h
 ·rename_i q hq
  exact (digs_sfx h).1.trans (word_sfx hq).1
 ·cases h; exact Sfx.refl _
theorem sgn_sfx (s : Bs) : Sfx ((wordR [43] s).getD (numR1 s)) s := by
 cases h : wordR [43] s with
 | none => exact num1_sfx s
 | some r => exact (word_sfx h).1
theorem num4_sfx {s r : Bs} (h : numR4 s = some r) : Sfx r s := by
 unfold numR4 at h
 split at h
 ·rename_i q hq
  exact ((digs_sfx h).1.trans (sgn_sfx q)).trans (word_sfx hq).1
 ·split at h
  ·rename_i q hq
   exact ((digs_sfx h).1.trans (sgn_sfx q)).trans (word_sfx hq).1
  ·cases h; exact Sfx.refl _
theorem num_sfx {s r : Bs} (h : numR s = some r) : Sfx r s /\ r.length < s.length := by
 unfold numR at h
 cases h2 : numR2 (numR1 s) with
 | none => rw [h2] at h; cases h
 | some a =>
  rw [h2, Option.bind_some] at h
  cases h3 : numR3 a with
  | none => rw [h3] at h; cases h
  | some b =>
   rw [h3, Option.bind_some] at h
   obtain ⟨k1, k2⟩ := num2_sfx h2
   have k3 := num3_sfx h3
   have k4 := num4_sfx h
   have k0 := num1_sfx s
   exact ⟨((k4.trans k3).trans k1).trans k0, by have := k4.len; have := k3.len; have := k0.len; omega⟩
def Fwd (val : Bs -> Option (JV × Bs)) : Prop := ∀ {s v r}, val s = some (v, r) -> Sfx r s /\ r.length < s.length
theorem elems_sfx {val : Bs -> Option (JV × Bs)} (hv : Fwd val) : ∀ (n : Nat) (s : Bs) (acc : List JV) {l : List JV} {r : Bs}, elemsR val n s acc = some (l, r) -> Sfx r s /\ r.length < s.length
 | 0, s, acc, l, r, h => by simp [elemsR] at h
 | n + 1, s, acc, l, r, h => by
  simp only [elemsR] at h
  split at h
  ·cases h
  ·rename_i x s1 h1
   obtain ⟨k1, k2⟩ := hv h1
   have k3 := skip_sfx s1
   split at h
   ·cases h
   ·rename_i c s2 h2
    rw [h2] at k3
    have k4 := k3.len
    simp only [List.length_cons] at k4
    have k5 := ((Sfx.cons c s2).trans k3).trans k1
    split at h
    ·cases h; exact ⟨k5, by omega⟩
    ·split at h
     ·obtain ⟨a, b⟩ := elems_sfx hv n _ _ h
      exact ⟨a.trans k5, by omega⟩
     ·cases h
theorem key_sfx {s k r : Bs} (h : keyR s = some (k, r)) : Sfx r s /\ r.length < s.length := by
 unfold keyR at h
 have k1 := skip_sfx s
 split at h
 ·cases h
 ·rename_i c s1 h1
  rw [h1] at k1
  have l1 := k1.len
  split at h
  ·split at h
   ·cases h
   ·rename_i k' s2 h2
    obtain ⟨k2, l2⟩ := str_sfx h2
    have k3 := skip_sfx s2
    split at h
    ·cases h
    ·rename_i c' s3 h3
     rw [h3] at k3
     have l3 := k3.len
     split at h
     ·cases h
      refine ⟨((((Sfx.cons c' _).trans k3).trans k2).trans (Sfx.cons c s1)).trans k1, ?_⟩
      simp only [List.length_cons] at l1 l3; omega
     ·cases h
  ·cases h
theorem membs_sfx {val : Bs -> Option (JV × Bs)} (hv : Fwd val) : ∀ (n : Nat) (s : Bs) (ks : List Bs) (vs : List JV) {l : List Bs} {m : List JV} {r : Bs}, membsR val n s ks vs = some (l, m, r) -> Sfx r s /\ r.length < s.length
 | 0, s, ks, vs, l, m, r, h => by simp [membsR] at h
 | n + 1, s, ks, vs, l, m, r, h => by
  simp only [membsR] at h
  split at h
  ·cases h
  ·rename_i k s1 h1
   obtain ⟨k1, l1⟩ := key_sfx h1
   split at h
   ·cases h
   ·rename_i x s2 h2
    obtain ⟨k2, l2⟩ := hv h2
    have k3 := skip_sfx s2
    split at h
    ·cases h
    ·rename_i c s3 h3
     rw [h3] at k3
     have l3 := k3.len
     simp only [List.length_cons] at l3
     have k5 := (((Sfx.cons c s3).trans k3).trans k2).trans k1
     split at h
     ·cases h; exact ⟨k5, by omega⟩
     ·split at h
      ·obtain ⟨a, b⟩ := membs_sfx hv n _ _ _ h
       exact ⟨a.trans k5, by omega⟩
      ·cases h
theorem obj_sfx {val : Bs -> Option (JV × Bs)} (hv : Fwd val) {t r : Bs} {v : JV} (h : objR val t = some (v, r)) : Sfx r t /\ r.length <= t.length := by
 unfold objR at h
 split at h
 ·rename_i q hq
  cases h
  have := (word_sfx hq).1.trans (skip_sfx t)
  exact ⟨this, this.len⟩
 ·cases hm : membsR val (t.length + 1) (skipB t) [] [] with
  | none => rw [hm] at h; cases h
  | some p =>
   obtain ⟨a, b, c⟩ := p
   rw [hm] at h
   cases h
   have := (membs_sfx hv _ _ _ _ hm).1.trans (skip_sfx t)
   exact ⟨this, this.len⟩
theorem list_sfx {val : Bs -> Option (JV × Bs)} (hv : Fwd val) {t r : Bs} {v : JV} (h : listR val t = some (v, r)) : Sfx r t /\ r.length <= t.length := by
 unfold listR at h
 split at h
 ·rename_i q hq
  cases h
  have := (word_sfx hq).1.trans (skip_sfx t)
  exact ⟨this, this.len⟩
 ·cases hm : elemsR val (t.length + 1) (skipB t) [] with
  | none => rw [hm] at h; cases h
  | some p =>
   obtain ⟨a, c⟩ := p
   rw [hm] at h
   cases h
   have := (elems_sfx hv _ _ _ hm).1.trans (skip_sfx t)
   exact ⟨this, this.len⟩
theorem step_sfx {sub : Option (Bs -> Option (JV × Bs))} (hs : ∀ v, sub = some v -> Fwd v) {s r : Bs} {v : JV} (h : stepR sub s = some (v, r)) : Sfx r s /\ r.length < s.length := by
 unfold stepR at h
 have k0 := skip_sfx s
 split at h
 ·cases h
 ·rename_i c t ht
  rw [ht] at k0
  have l0 := k0.len
  simp only [List.length_cons] at l0
  have kt : ∀ r : Bs, Sfx r t -> Sfx r s /\ r.length < s.length := fun r hr => ⟨(hr.trans (Sfx.cons c t)).trans k0, by have := hr.len; omega⟩
  have kw : ∀ (w r : Bs), w ≠ [] -> wordR w (c :: t) = some r -> Sfx r s /\ r.length < s.length := fun w r hw hr => by
   obtain ⟨a, b⟩ := word_sfx hr
   refine ⟨a.trans k0, ?_⟩
   have := congrArg List.length b
   have : 0 < w.length := List.length_pos_iff.2 hw
   simp only [List.length_cons, List.length_append] at *; omega
  split at h
  ·cases sub with
   | none => cases h
   | some val => exact kt _ (obj_sfx (hs val rfl) h).1
  split at h
  ·cases sub with
   | none => cases h
   | some val => exact kt _ (list_sfx (hs val rfl) h).1
  split at h
  ·cases hq : strR t with
   | none => rw [hq] at h; cases h
   | some p => rw [hq] at h; cases h; exact kt _ (str_sfx hq).1
  split at h
  ·cases hq : wordR [116, 114, 117, 101] (c :: t) with
   | none => rw [hq] at h; cases h
   | some p => rw [hq] at h; cases h; exact kw _ _ (by decide) hq
  split at h
  ·cases hq : wordR [102, 97, 108, 115, 101] (c :: t) with
   | none => rw [hq] at h; cases h
   | some p => rw [hq] at h; cases h; exact kw _ _ (by decide) hq
  split at h
  ·cases hq : wordR [110, 117, 108, 108] (c :: t) with
   | none => rw [hq] at h; cases h
   | some p => rw [hq] at h; cases h; exact kw _ _ (by decide) hq
  ·cases hq : numR (c :: t) with
   | none => rw [hq] at h; cases h
   | some p =>
    rw [hq] at h; cases h
    obtain ⟨a, b⟩ := num_sfx hq
    simp only [List.length_cons] at b
    exact ⟨a.trans k0, by omega⟩
theorem rdV_fwd : ∀ f, Fwd (rdV f)
 | 0 => fun h => step_sfx (fun _ h => by cases h) h
 | f + 1 => fun h => step_sfx (fun _ e => by cases e; exact rdV_fwd f) h
end Go.V
namespace Go.V
set_option maxRecDepth 10000
def goodR (r : Nat) : Prop := r < 55296 \/ (57344 <= r /\ r <= 1114111)
def encs (rs : List Nat) : List UInt8 := rs.flatMap fun (r : Nat) => encR (r : Int)
theorem encs_cons (r : Nat) (rs : List Nat) : encs (r :: rs) = encR (r : Int) ++ encs rs := rfl
theorem encs_append (a b : List Nat) : encs (a ++ b) = encs a ++ encs b := by simp [encs]
theorem valid_of {r : Nat} (h : goodR r) : Utf8.valid (r : Int) = true := by
 unfold Utf8.valid goodR at *
 simp only [Bool.or_eq_true, Bool.and_eq_true, decide_eq_true_eq]
 omega
theorem of_valid {r : Nat} (h : Utf8.valid (r : Int) = true) : goodR r := by
 unfold Utf8.valid at h
 simp only [Bool.or_eq_true, Bool.and_eq_true, decide_eq_true_eq] at h
 unfold goodR
 omega
theorem encR_good {r : Nat} (h : goodR r) : encR (r : Int) =
  if r < 128 then [UInt8.ofNat r] else if r < 2048 then [UInt8.ofNat (192 + r / 64), UInt8.ofNat (128 + r % 64)]
  else if r < 65536 then [UInt8.ofNat (224 + r / 4096), UInt8.ofNat (128 + r / 64 % 64), UInt8.ofNat (128 + r % 64)]
  else [UInt8.ofNat (240 + r / 262144), UInt8.ofNat (128 + r / 4096 % 64), UInt8.ofNat (128 + r / 64 % 64), UInt8.ofNat (128 + r % 64)] := by
 unfold encR Utf8.encode
 simp only [valid_of h, if_true, Int.toNat_natCast]
 split
 ·rfl
 split
 ·rfl
 split <;> rfl
theorem encR_bad {r : Int} (h : Utf8.valid r = false) : encR r = [239, 191, 189] := by
 unfold encR Utf8.encode
 simp [h, Utf8.runeError]
theorem ofNat_nat {k : Nat} (h : k < 256) : (UInt8.ofNat k).toNat = k := by
 rw [UInt8.toNat_ofNat']; omega
theorem encR_len {r : Nat} (h : goodR r) : (encR (r : Int)).length = if r < 128 then 1 else if r < 2048 then 2 else if r < 65536 then 3 else 4 := by
 rw [encR_good h]
 split
 ·rfl
 split
 ·rfl
 split <;> rfl
theorem encR_pos (r : Nat) : 1 <= (encR (r : Int)).length /\ (encR (r : Int)).length <= 4 := by
 unfold encR Utf8.encode
 dsimp only
 generalize (if Utf8.valid (r : Int) = true then (r : Int).toNat else Utf8.runeError) = c
 split
 ·exact ⟨Nat.le_of_ble_eq_true rfl, Nat.le_of_ble_eq_true rfl⟩
 split
 ·exact ⟨Nat.le_of_ble_eq_true rfl, Nat.le_of_ble_eq_true rfl⟩
 split <;> exact ⟨Nat.le_of_ble_eq_true rfl, Nat.le_of_ble_eq_true rfl⟩
theorem runeAt_enc {r : Nat} (h : goodR r) (t : List UInt8) : runeAt (encR (r : Int) ++ t) 0 = (r, (encR (r : Int)).length) := by
 have hg := h
 unfold goodR at hg
 rw [encR_len h, encR_good h]
 unfold runeAt Utf8.decode
 simp only [Nat.zero_add, ba_get]
 by_cases h1 : r < 128
 ·simp only [if_pos h1, List.singleton_append, List.getD_cons_zero, ofNat_nat (show r < 256 by omega)]
 by_cases h2 : r < 2048
 ·have e0 : (UInt8.ofNat (192 + r / 64)).toNat = 192 + r / 64 := ofNat_nat (by omega)
  have e1 : (UInt8.ofNat (128 + r % 64)).toNat = 128 + r % 64 := ofNat_nat (by omega)
  have hs : ∀ a b : UInt8, (ba (a :: b :: t)).size = t.length + 2 := fun a b => by rw [show (ba (a :: b :: t)).size = _ from str_size _]; simp
  simp only [if_neg h1, if_pos h2, hs, List.cons_append, List.nil_append, List.getD_cons_zero, List.getD_cons_succ, e0, e1]
  rw [if_neg (by omega), if_pos (by simp only [Bool.and_eq_true, beq_iff_eq, decide_eq_true_eq]; omega), if_pos (by omega)]
  congr 1; omega
 by_cases h3 : r < 65536
 ·have e0 : (UInt8.ofNat (224 + r / 4096)).toNat = 224 + r / 4096 := ofNat_nat (by omega)
  have e1 : (UInt8.ofNat (128 + r / 64 % 64)).toNat = 128 + r / 64 % 64 := ofNat_nat (by omega)
  have e2 : (UInt8.ofNat (128 + r % 64)).toNat = 128 + r % 64 := ofNat_nat (by omega)
  have hs : ∀ a b c : UInt8, (ba (a :: b :: c :: t)).size = t.length + 3 := fun a b c => by rw [show (ba (a :: b :: c :: t)).size = _ from str_size _]; simp
  have ec : (224 + r / 4096) % 16 * 4096 + (128 + r / 64 % 64) % 64 * 64 + (128 + r % 64) % 64 = r := by omega
  simp only [if_neg h1, if_neg h2, if_pos h3, hs, List.cons_append, List.nil_append, List.getD_cons_zero, List.getD_cons_succ, e0, e1, e2, ec]
  rw [if_neg (by omega), if_neg (by simp only [Bool.and_eq_true, beq_iff_eq, decide_eq_true_eq]; omega), if_pos (by simp only [Bool.and_eq_true, beq_iff_eq, decide_eq_true_eq]; omega),
   if_pos (by simp only [Bool.and_eq_true, decide_eq_true_eq]; exact ⟨by omega, valid_of h⟩)]
 ·have e0 : (UInt8.ofNat (240 + r / 262144)).toNat = 240 + r / 262144 := ofNat_nat (by omega)
  have e1 : (UInt8.ofNat (128 + r / 4096 % 64)).toNat = 128 + r / 4096 % 64 := ofNat_nat (by omega)
  have e2 : (UInt8.ofNat (128 + r / 64 % 64)).toNat = 128 + r / 64 % 64 := ofNat_nat (by omega)
  have e3 : (UInt8.ofNat (128 + r % 64)).toNat = 128 + r % 64 := ofNat_nat (by omega)
  have hs : ∀ a b c d : UInt8, (ba (a :: b :: c :: d :: t)).size = t.length + 4 := fun a b c d => by rw [show (ba (a :: b :: c :: d :: t)).size = _ from str_size _]; simp
  have ec : (240 + r / 262144) % 8 * 262144 + (128 + r / 4096 % 64) % 64 * 4096 + (128 + r / 64 % 64) % 64 * 64 + (128 + r % 64) % 64 = r := by omega
  simp only [if_neg h1, if_neg h2, if_neg h3, hs, List.cons_append, List.nil_append, List.getD_cons_zero, List.getD_cons_succ, e0, e1, e2, e3, ec]
  rw [if_neg (by omega), if_neg (by simp only [Bool.and_eq_true, beq_iff_eq, decide_eq_true_eq]; omega), if_neg (by simp only [Bool.and_eq_true, beq_iff_eq, decide_eq_true_eq]; omega),
   if_pos (by simp only [Bool.and_eq_true, beq_iff_eq, decide_eq_true_eq]; omega), if_pos (by simp only [Bool.and_eq_true, decide_eq_true_eq]; exact ⟨by omega, valid_of h⟩)]
theorem u8_eq {a : UInt8} {k : Nat} (h : k = a.toNat) : UInt8.ofNat k = a := by subst h; simp
theorem dec_good {s : List UInt8} (hs : s ≠ []) (h : ¬ ((runeAt s 0).1 = 65533 /\ (runeAt s 0).2 = 1)) :
  goodR (runeAt s 0).1 /\ s = encR ((runeAt s 0).1 : Int) ++ s.drop (runeAt s 0).2 := by
 obtain ⟨a, t, rfl⟩ := List.exists_cons_of_ne_nil hs
 have key : ∀ (x : Nat × Nat) (ys : List UInt8), goodR x.1 -> encR (x.1 : Int) = ys -> a :: t = ys ++ (a :: t).drop x.2 -> goodR x.1 /\ a :: t = encR (x.1 : Int) ++ (a :: t).drop x.2 := by
  intro x ys h1 h2 h3; exact ⟨h1, by rw [h2]; exact h3⟩
 generalize hx : runeAt (a :: t) 0 = x at h ⊢
 unfold runeAt Utf8.decode at hx
 have hsz : (ba (a :: t)).size = t.length + 1 := by rw [show (ba (a :: t)).size = _ from str_size _]; simp
 simp only [Nat.zero_add, ba_get, hsz, List.getD_cons_zero] at hx
 have la := a.toNat_lt
 by_cases h1 : a.toNat < 128
 ·rw [if_pos h1] at hx
  subst hx
  have g : goodR a.toNat := .inl (by omega)
  refine key _ [a] g ?_ rfl
  rw [encR_good g, if_pos h1]; simp
 rw [if_neg h1] at hx
 split at hx
 ·rename_i hc
  simp only [Bool.and_eq_true, beq_iff_eq, decide_eq_true_eq] at hc
  obtain ⟨b, t, rfl⟩ := List.exists_cons_of_ne_nil (show t ≠ [] by intro e; subst e; simp at hc)
  simp only [List.getD_cons_succ, List.getD_cons_zero] at hx hc
  have lb := b.toNat_lt
  split at hx
  ·rename_i h2
   subst hx
   have g : goodR (a.toNat % 32 * 64 + b.toNat % 64) := .inl (by omega)
   refine key _ [a, b] g ?_ rfl
   rw [encR_good g, if_neg (by first | omega | (dsimp only; omega)), if_pos (by first | omega | (dsimp only; omega)), u8_eq (a := a) (by first | omega | (dsimp only; omega)), u8_eq (a := b) (by first | omega | (dsimp only; omega))]
  ·exact absurd (by rw [<- hx]; exact ⟨rfl, rfl⟩) h
 split at hx
 ·rename_i _ hc
  simp only [Bool.and_eq_true, beq_iff_eq, decide_eq_true_eq] at hc
  obtain ⟨b, t, rfl⟩ := List.exists_cons_of_ne_nil (show t ≠ [] by intro e; subst e; simp at hc)
  obtain ⟨c, t, rfl⟩ := List.exists_cons_of_ne_nil (show t ≠ [] by intro e; subst e; simp at hc)
  simp only [List.getD_cons_succ, List.getD_cons_zero] at hx hc
  have lb := b.toNat_lt
  have lc := c.toNat_lt
  split at hx
  ·rename_i h2
   simp only [Bool.and_eq_true, decide_eq_true_eq] at h2
   subst hx
   have g := of_valid h2.2
   have g' := g
   unfold goodR at g'
   refine key _ [a, b, c] g ?_ rfl
   rw [encR_good g, if_neg (by first | omega | (dsimp only; omega)), if_neg (by first | omega | (dsimp only; omega)), if_pos (by first | omega | (dsimp only; omega)), u8_eq (a := a) (by first | omega | (dsimp only; omega)), u8_eq (a := b) (by first | omega | (dsimp only; omega)), u8_eq (a := c) (by first | omega | (dsimp only; omega))]
  ·exact absurd (by rw [<- hx]; exact ⟨rfl, rfl⟩) h
 split at hx
 ·rename_i _ _ hc
  simp only [Bool.and_eq_true, beq_iff_eq, decide_eq_true_eq] at hc
  obtain ⟨b, t, rfl⟩ := List.exists_cons_of_ne_nil (show t ≠ [] by intro e; subst e; simp at hc)
  obtain ⟨c, t, rfl⟩ := List.exists_cons_of_ne_nil (show t ≠ [] by intro e; subst e; simp at hc)
  obtain ⟨d, t, rfl⟩ := List.exists_cons_of_ne_nil (show t ≠ [] by intro e; subst e; simp at hc)
  simp only [List.getD_cons_succ, List.getD_cons_zero] at hx hc
  have lb := b.toNat_lt
  have lc := c.toNat_lt
  have ld := d.toNat_lt
  split at hx
  ·rename_i h2
   simp only [Bool.and_eq_true, decide_eq_true_eq] at h2
   subst hx
   have g := of_valid h2.2
   have g' := g
   unfold goodR at g'
   refine key _ [a, b, c, d] g ?_ rfl
   rw [encR_good g, if_neg (by first | omega | (dsimp only; omega)), if_neg (by first | omega | (dsimp only; omega)), if_neg (by first | omega | (dsimp only; omega)), u8_eq (a := a) (by first | omega | (dsimp only; omega)), u8_eq (a := b) (by first | omega | (dsimp only; omega)), u8_eq (a := c) (by first | omega | (dsimp only; omega)), u8_eq (a := d) (by first | omega | (dsimp only; omega))]
  ·exact absurd (by rw [<- hx]; exact ⟨rfl, rfl⟩) h
 ·exact absurd (by rw [<- hx]; exact ⟨rfl, rfl⟩) h
def Runes (s : List UInt8) (rs : List Nat) : Prop := s = encs rs /\ ∀ r ∈ rs, goodR r
theorem decL (l : List UInt8) (h : l ≠ []) : Lib.decodeL l = runeAt l 0 := by
 rfl
theorem valid_runes : ∀ (n : Nat) (s : List UInt8), s.length <= n -> Lib.validGoD n s = true -> ∃ rs, Runes s rs
 | 0, s, hn, _ => ⟨[], by have : s = [] := List.eq_nil_of_length_eq_zero (by omega)
                          subst this; rfl, by simp⟩
 | n + 1, s, hn, h => by
  simp only [Lib.validGoD] at h
  split at h
  ·rename_i e; subst e; exact ⟨[], rfl, by simp⟩
  split at h
  ·cases h
  ·rename_i hs hb
   rw [decL s hs] at hb h
   obtain ⟨g, e⟩ := dec_good hs hb
   have hw := runeAt_width s 0
   obtain ⟨rs, h1, h2⟩ := valid_runes n _ (by simp only [List.length_drop]; omega) h
   refine ⟨(runeAt s 0).1 :: rs, ?_, ?_⟩
   ·rw [encs_cons, <- h1]; exact e
   ·intro r hr
    rcases List.mem_cons.1 hr with rfl | hr
    ·exact g
    ·exact h2 r hr
theorem runes_of_valid {s : List UInt8} (h : Lib.validD s = true) : ∃ rs, Runes s rs := valid_runes _ s (Nat.le_refl _) h
end Go.V
namespace Go.V
set_option maxRecDepth 10000
theorem text_fuel : ∀ (n m : Nat) (s out : Bs), s.length < n -> s.length < m -> textR n s out = textR m s out
 | 0, m, s, out, h, _ => by omega
 | n + 1, 0, s, out, _, h => by omega
 | n + 1, m + 1, [], out, _, _ => rfl
 | n + 1, m + 1, c :: s, out, hn, hm => by
  simp only [List.length_cons] at hn hm
  simp only [textR]
  split
  ·rfl
  split
  ·rfl
  split
  ·cases s with
   | nil => rfl
   | cons d t =>
    simp only
    split
    ·rfl
    ·rename_i x r he
     have := (escR_sfx he).len
     simp only [List.length_cons] at hn hm
     exact text_fuel n m _ _ (by omega) (by omega)
  ·have hw := runeAt_width (c :: s) 0
   exact text_fuel n m _ _ (by simp only [List.length_drop, List.length_cons]; omega) (by simp only [List.length_drop, List.length_cons]; omega)
def TR (s out : Bs) : Option (Bs × Bs) := textR (s.length + 1) s out
theorem textR_cons (n : Nat) (c : UInt8) (s out : Bs) : textR (n + 1) (c :: s) out = if c = 34 then some (out, s) else if c.toNat < 32 then none else if c = 92 then (match s with | [] => none | d :: t => match escR d t with | none => none | some (x, r) => textR n r (out ++ x))
  else textR n ((c :: s).drop (runeAt (c :: s) 0).2) (out ++ encR (runeAt (c :: s) 0).1) := by
 cases s <;> rfl
theorem escR_u (X : Bs) : escR 117 X = (escU X).map fun p => (encR p.1, p.2) := rfl
theorem strR_TR (s : Bs) : strR s = TR s [] := rfl
theorem TR_end (s out : Bs) : TR (34 :: s) out = some (out, s) := by simp [TR, textR]
theorem TR_esc {d : UInt8} {t x r : Bs} (out : Bs) (h : escR d t = some (x, r)) : TR (92 :: d :: t) out = TR r (out ++ x) := by
 have := (escR_sfx h).len
 show textR ((d :: t).length + 1 + 1) (92 :: d :: t) out = _
 rw [TR]
 simp only [textR, show ¬ ((92 : UInt8) = 34) by decide, show ¬ ((92 : UInt8).toNat < 32) by decide, if_false, if_true, h]
 exact text_fuel _ _ _ _ (by simp only [List.length_cons]; omega) (by omega)
theorem TR_raw {c : UInt8} {s : Bs} (out : Bs) (h1 : c ≠ 34) (h2 : ¬ c.toNat < 32) (h3 : c ≠ 92) : TR (c :: s) out = TR ((c :: s).drop (runeAt (c :: s) 0).2) (out ++ encR (runeAt (c :: s) 0).1) := by
 have hw := runeAt_width (c :: s) 0
 show textR (s.length + 1 + 1) (c :: s) out = _
 rw [textR_cons, if_neg h1, if_neg h2, if_neg h3]
 exact text_fuel _ _ _ _ (by simp only [List.length_drop, List.length_cons]; omega) (by omega)
def Piece (p : Bs) (r : Nat) : Prop := ∀ t out, TR (p ++ t) out = TR t (out ++ encR (r : Int))
theorem Piece.raw {r : Nat} (g : goodR r) (h1 : r ≠ 34) (h2 : ¬ r < 32) (h3 : r ≠ 92) : Piece (encR (r : Int)) r := by
 intro t out
 have hp := encR_pos r
 have hr := runeAt_enc g t
 have hb : ∀ c u, encR (r : Int) = c :: u -> c ≠ 34 /\ ¬ c.toNat < 32 /\ c ≠ 92 := by
  intro c u e
  rw [encR_good g] at e
  have hg := g
  unfold goodR at hg
  have hn : ∀ k : Nat, UInt8.ofNat k = c -> k < 256 -> 32 <= k -> k ≠ 34 -> k ≠ 92 -> c ≠ 34 /\ ¬ c.toNat < 32 /\ c ≠ 92 := by
   intro k e h0 h1 h2 h3
   subst e
   have := ofNat_nat h0
   refine ⟨fun e => ?_, by omega, fun e => ?_⟩
   ·rw [e] at this; exact h2 this.symm
   ·rw [e] at this; exact h3 this.symm
  split at e
  ·exact hn r (List.cons.inj e).1 (by omega) (by omega) h1 h3
  split at e
  ·exact hn _ (List.cons.inj e).1 (by omega) (by omega) (by omega) (by omega)
  split at e
  ·exact hn _ (List.cons.inj e).1 (by omega) (by omega) (by omega) (by omega)
  ·exact hn _ (List.cons.inj e).1 (by omega) (by omega) (by omega) (by omega)
 obtain ⟨c, u, e⟩ : ∃ c u, encR (r : Int) = c :: u := by
  cases h : encR (r : Int) with
  | nil => rw [h] at hp; simp at hp
  | cons c u => exact ⟨c, u, rfl⟩
 obtain ⟨b1, b2, b3⟩ := hb c u e
 have e2 : encR (r : Int) ++ t = c :: (u ++ t) := by rw [e]; rfl
 rw [e2] at hr ⊢
 rw [TR_raw out b1 b2 b3, hr, <- e2]
 simp only [List.drop_left]
def hexD (n : Nat) : UInt8 := if n % 16 < 10 then UInt8.ofNat (48 + n % 16) else UInt8.ofNat (87 + n % 16)
def hexes (n : Nat) : Bs := [hexD (n / 4096), hexD (n / 256), hexD (n / 16), hexD n]
theorem hexV_D (n : Nat) : hexV (hexD n) = some (n % 16) := by
 unfold hexV hexD
 split
 ·rw [ofNat_nat (by omega), if_pos (by omega)]; congr 1; omega
 ·rw [ofNat_nat (by omega), if_neg (by omega), if_pos (by omega)]; congr 1; omega
theorem unit_hexes {n : Nat} (h : n < 65536) (t : Bs) : unitR 4 0 (hexes n ++ t) = some (n, t) := by
 simp only [hexes, List.cons_append, List.nil_append, unitR, hexV_D]
 congr 2; omega
theorem Piece.u {r : Nat} (g : goodR r) (h : r < 65536) : Piece ([92, 117] ++ hexes r) r := by
 intro t out
 have e : escR 117 (hexes r ++ t) = some (encR (r : Int), t) := by
  have : escU (hexes r ++ t) = some (r, t) := by
   unfold escU
   rw [unit_hexes h]
   simp only
   rw [if_neg]
   unfold goodR at g; omega
  rw [escR_u, this]; rfl
 simpa using TR_esc out e
theorem Piece.pair {r : Nat} (g : goodR r) (h : ¬ r < 65536) : Piece ([92, 117] ++ hexes (55296 + (r - 65536) / 1024) ++ [92, 117] ++ hexes (56320 + (r - 65536) % 1024)) r := by
 intro t out
 have hg := g
 unfold goodR at hg
 have e : escR 117 (hexes (55296 + (r - 65536) / 1024) ++ ([92, 117] ++ (hexes (56320 + (r - 65536) % 1024) ++ t))) = some (encR (r : Int), t) := by
  have : escU (hexes (55296 + (r - 65536) / 1024) ++ ([92, 117] ++ (hexes (56320 + (r - 65536) % 1024) ++ t))) = some (r, t) := by
   unfold escU
   rw [unit_hexes (by omega)]
   simp only
   rw [if_pos (by omega), word_app]
   simp only
   rw [unit_hexes (by omega)]
   simp only
   rw [if_pos (by omega), show 65536 + (55296 + (r - 65536) / 1024 - 55296) * 1024 + (56320 + (r - 65536) % 1024 - 56320) = r by omega]
  rw [escR_u, this]; rfl
 have := TR_esc out e
 simpa [List.append_assoc] using this
theorem Piece.named {d : UInt8} {x : UInt8} (hd : ∀ t, escR d t = some ([x], t)) (hx : x.toNat < 128) : Piece [92, d] x.toNat := by
 intro t out
 have := TR_esc out (hd t)
 rw [encR_ascii _ (by omega) (by omega)]
 simpa using this
inductive Pieces : List Bs -> List Nat -> Prop
 | nil : Pieces [] []
 | cons {p r ps rs} : Piece p r -> Pieces ps rs -> Pieces (p :: ps) (r :: rs)
theorem Pieces.read {ps : List Bs} {rs : List Nat} (h : Pieces ps rs) (t out : Bs) : TR (ps.flatten ++ 34 :: t) out = some (out ++ encs rs, t) := by
 induction h generalizing out with
 | nil => simp [TR_end, encs]
 | cons hp _ ih => rw [List.flatten_cons, List.append_assoc, hp, ih, encs_cons, List.append_assoc]
def quo1 (c : Nat) : Bs :=
 if c = 34 \/ c = 92 then 92 :: encR (c : Int)
 else if c = 8 then [92, 98] else if c = 12 then [92, 102] else if c = 10 then [92, 110] else if c = 13 then [92, 114] else if c = 9 then [92, 116]
 else if c < 32 \/ c = 60 \/ c = 62 \/ c = 38 \/ c = 8232 \/ c = 8233 then [92, 117] ++ hexes c
 else encR (c : Int)
def quo (rs : List Nat) : Bs := [34] ++ rs.flatMap quo1 ++ [34]
theorem quo1_piece {c : Nat} (g : goodR c) : Piece (quo1 c) c := by
 unfold quo1
 split
 ·rename_i h
  rcases h with rfl | rfl
  ·exact Piece.named (d := 34) (x := 34) (fun t => by simp [escR]) (by decide)
  ·exact Piece.named (d := 92) (x := 92) (fun t => by simp [escR]) (by decide)
 rename_i h0
 split
 ·rename_i h; subst h; exact Piece.named (d := 98) (x := 8) (fun t => by simp [escR]) (by decide)
 split
 ·rename_i h; subst h; exact Piece.named (d := 102) (x := 12) (fun t => by simp [escR]) (by decide)
 split
 ·rename_i h; subst h; exact Piece.named (d := 110) (x := 10) (fun t => by simp [escR]) (by decide)
 split
 ·rename_i h; subst h; exact Piece.named (d := 114) (x := 13) (fun t => by simp [escR]) (by decide)
 split
 ·rename_i h; subst h; exact Piece.named (d := 116) (x := 9) (fun t => by simp [escR]) (by decide)
 split
 ·rename_i h; exact Piece.u g (by omega)
 ·exact Piece.raw g (by omega) (by omega) (by omega)
end Go.V
namespace Go.V
set_option maxRecDepth 10000
inductive Js where
 | mk (kind : UInt8) (text : List UInt8) (kids : List Js)
def Js.kind : Js -> UInt8 | mk k _ _ => k
def Js.text : Js -> List UInt8 | mk _ t _ => t
def Js.kids : Js -> List Js | mk _ _ k => k
def tk (n : Nat) : Bs -> Nat × Bs
 | [] => (0, [])
 | b :: t => (b.toNat % n, t)
def blks : List Bs := [[], [], [32], [10, 9], [13, 10, 32]]
def blk5 (w : Bs) : Bs × Bs := (blks.getD (tk 5 w).1 [], (tk 5 w).2)
theorem blk5_bl (w : Bs) : ∀ c ∈ (blk5 w).1, isBl c = true := by
 have h : ∀ b ∈ blks, ∀ c ∈ b, isBl c = true := by decide
 unfold blk5
 rw [List.getD_eq_getElem?_getD]
 cases hk : blks[(tk 5 w).1]? with
 | none => simp
 | some b => exact h b (List.mem_of_getElem? hk)
def wrune (c n : Nat) : Bs :=
 if c = 47 /\ n = 1 then [92, 47]
 else if n = 2 /\ c < 65536 then [92, 117] ++ hexes c
 else if n = 2 then [92, 117] ++ hexes (55296 + (c - 65536) / 1024) ++ [92, 117] ++ hexes (56320 + (c - 65536) % 1024)
 else if c = 60 \/ c = 62 \/ c = 38 then encR (c : Int)
 else quo1 c
def wtext : List Nat -> Bs -> Bs × Bs
 | [], w => ([], w)
 | c :: rs, w => (wrune c (tk 8 w).1 ++ (wtext rs (tk 8 w).2).1, (wtext rs (tk 8 w).2).2)
def runesN : Nat -> Bs -> List Nat
 | 0, _ => []
 | n + 1, s => if s = [] then [] else (runeAt s 0).1 :: runesN n (s.drop (runeAt s 0).2)
def runesOf (s : Bs) : List Nat := runesN s.length s
theorem encs_ne (r : Nat) (rs : List Nat) : encs (r :: rs) ≠ [] := by
 intro e
 have := congrArg List.length e
 rw [encs_cons, List.length_append, List.length_nil] at this
 have := encR_pos r
 omega
theorem runesN_encs : ∀ (rs : List Nat) (n : Nat), (∀ r ∈ rs, goodR r) -> (encs rs).length <= n -> runesN n (encs rs) = rs := by
 intro rs
 induction rs with
 | nil => intro n _ _; cases n <;> rfl
 | cons r rs ih =>
  intro n h hn
  have hp := encR_pos r
  rw [encs_cons, List.length_append] at hn
  obtain ⟨m, rfl⟩ : ∃ m, n = m + 1 := ⟨n - 1, by omega⟩
  rw [runesN, if_neg (encs_ne r rs), encs_cons, runeAt_enc (h r (by simp)), List.drop_left, ih m (fun x hx => h x (by simp [hx])) (by omega)]
theorem runesOf_encs {rs : List Nat} (h : ∀ r ∈ rs, goodR r) : runesOf (encs rs) = rs := runesN_encs rs _ h (Nat.le_refl _)
def wquo (s w : Bs) : Bs × Bs := ([34] ++ (wtext (runesOf s) w).1 ++ [34], (wtext (runesOf s) w).2)
theorem wrune_piece {c : Nat} (g : goodR c) (n : Nat) : Piece (wrune c n) c := by
 unfold wrune
 split
 ·rename_i h
  obtain ⟨rfl, _⟩ := h
  exact Piece.named (d := 47) (x := 47) (fun t => by simp [escR]) (by decide)
 split
 ·rename_i h; exact Piece.u g h.2
 split
 ·rename_i h1 h2
  exact Piece.pair g (fun h3 => h1 ⟨h2, h3⟩)
 split
 ·rename_i h; exact Piece.raw g (by omega) (by omega) (by omega)
 ·exact quo1_piece g
theorem wtext_pieces : ∀ {rs : List Nat} (w : Bs), (∀ r ∈ rs, goodR r) -> ∃ ps, Pieces ps rs /\ (wtext rs w).1 = ps.flatten
 | [], w, _ => ⟨[], .nil, rfl⟩
 | r :: rs, w, h => by
  obtain ⟨ps, h1, h2⟩ := wtext_pieces (rs := rs) (tk 8 w).2 fun x hx => h x (by simp [hx])
  exact ⟨_ :: ps, .cons (wrune_piece (h r (by simp)) (tk 8 w).1) h1, by simp [wtext, h2]⟩
def GoodT (s : Bs) : Prop := ∃ rs, Runes s rs
theorem wquo_read {s : Bs} (hs : GoodT s) (w t : Bs) : ∃ q, (wquo s w).1 = 34 :: q ++ [34] /\ strR (q ++ 34 :: t) = some (s, t) := by
 obtain ⟨rs, rfl, hg⟩ := hs
 unfold wquo
 rw [runesOf_encs hg]
 obtain ⟨ps, h1, h2⟩ := wtext_pieces w hg
 refine ⟨ps.flatten, by rw [h2]; simp, ?_⟩
 rw [strR_TR, h1.read]; simp
theorem skip_bl {b : Bs} (hb : ∀ c ∈ b, isBl c = true) (s : Bs) : skipB (b ++ s) = skipB s := by
 induction b with
 | nil => rfl
 | cons c b ih =>
  have := hb c (by simp)
  simp only [skipB, List.cons_append, List.dropWhile_cons, this, if_true]
  exact ih fun x hx => hb x (by simp [hx])
theorem skip_no {c : UInt8} (h : isBl c = false) (s : Bs) : skipB (c :: s) = c :: s := by simp [skipB, h]
theorem step_bl (sub : Option (Bs -> Option (JV × Bs))) {b : Bs} (hb : ∀ c ∈ b, isBl c = true) (s : Bs) : stepR sub (b ++ s) = stepR sub s := by
 unfold stepR; rw [skip_bl hb]
theorem rdV_bl (f : Nat) {b : Bs} (hb : ∀ c ∈ b, isBl c = true) (s : Bs) : rdV f (b ++ s) = rdV f s := by
 cases f with
 | zero => exact step_bl _ hb s
 | succ f => exact step_bl _ hb s
def Stop (r : Bs) : Prop := match r with
 | [] => False
 | c :: _ => c = 44 \/ c = 93 \/ c = 125 \/ isBl c = true
theorem Stop.bl {b r : Bs} (hb : ∀ c ∈ b, isBl c = true) (h : Stop r) : Stop (b ++ r) := by
 cases b with
 | nil => exact h
 | cons c b => exact .inr (.inr (.inr (hb c (by simp))))
theorem Stop.comma (r : Bs) : Stop (44 :: r) := .inl rfl
theorem Stop.brk (r : Bs) : Stop (93 :: r) := .inr (.inl rfl)
theorem Stop.brc (r : Bs) : Stop (125 :: r) := .inr (.inr (.inl rfl))
def Reads (S : Bs -> Prop) (f : Nat) (t : Bs) (v : JV) : Prop := ∃ a b, (∀ c ∈ b, isBl c = true) /\ t = a ++ b /\ ∀ r, S (b ++ r) -> rdV f (t ++ r) = some (v, b ++ r)
theorem rdV_eq (f : Nat) (s : Bs) : ∃ sub, rdV f s = stepR sub s /\ (∀ g, f = g + 1 -> sub = some (rdV g)) := by
 cases f with
 | zero => exact ⟨none, rfl, fun g h => by omega⟩
 | succ f =>
  refine ⟨some (rdV f), rfl, fun g h => ?_⟩
  have : f = g := by omega
  rw [this]
theorem rdV_str (f : Nat) {s q t : Bs} (h : strR (q ++ 34 :: t) = some (s, t)) : rdV f (34 :: q ++ 34 :: t) = some (.mk 34 ((34 :: q ++ [34]).all fun b => !(b == 92)) s [] [], t) := by
 obtain ⟨sub, e, _⟩ := rdV_eq f (34 :: q ++ 34 :: t)
 rw [e]
 unfold stepR
 rw [List.cons_append, skip_no (by decide)]
 have he : eaten (34 :: (q ++ 34 :: t)) t = 34 :: q ++ [34] := by
  unfold eaten
  have : (34 :: (q ++ 34 :: t) : Bs) = (34 :: q ++ [34]) ++ t := by simp
  rw [this, List.length_append, Nat.add_sub_cancel, List.take_left]
 simp [h, he]
theorem Reads.mono {S S' : Bs -> Prop} {f : Nat} {t : Bs} {v : JV} (h : Reads S f t v) (k : ∀ r, S' r -> S r) : Reads S' f t v := by
 obtain ⟨a, b, h1, h2, h3⟩ := h
 exact ⟨a, b, h1, h2, fun r hr => h3 r (k _ hr)⟩
theorem Reads.pre {S : Bs -> Prop} {f : Nat} {t : Bs} {v : JV} (h : Reads S f t v) {x : Bs} (hx : ∀ c ∈ x, isBl c = true) : Reads S f (x ++ t) v := by
 obtain ⟨a, b, h1, rfl, h3⟩ := h
 exact ⟨x ++ a, b, h1, by simp, fun r hr => by rw [List.append_assoc, rdV_bl f hx]; exact h3 r hr⟩
theorem Reads.post {S : Bs -> Prop} {f : Nat} {a : Bs} {v : JV} (h : ∀ r, S r -> rdV f (a ++ r) = some (v, r)) {b : Bs} (hb : ∀ c ∈ b, isBl c = true) : Reads S f (a ++ b) v :=
 ⟨a, b, hb, rfl, fun r hr => by rw [List.append_assoc]; exact h _ hr⟩
theorem Reads.str (f : Nat) {s : Bs} (hs : GoodT s) (w : Bs) {x b : Bs} (hx : ∀ c ∈ x, isBl c = true) (hb : ∀ c ∈ b, isBl c = true) : ∃ p, Reads (fun _ => True) f (x ++ ((wquo s w).1 ++ b)) (.mk 34 p s [] []) := by
 have hq : ∀ t, ∃ q, (wquo s w).1 = 34 :: q ++ [34] /\ strR (q ++ 34 :: t) = some (s, t) := wquo_read hs w
 obtain ⟨q, e, _⟩ := hq []
 have hr : ∀ t, strR (q ++ 34 :: t) = some (s, t) := fun t => by
  obtain ⟨q', e', h⟩ := hq t
  have : q' = q := by rw [e] at e'; simpa using e'.symm
  rw [this] at h; exact h
 refine ⟨((34 :: q ++ [34]).all fun b => !(b == 92)), (Reads.post (fun r _ => ?_) hb).pre hx⟩
 rw [e]
 have := rdV_str f (hr r)
 simpa using this
def joinC : List Bs -> Bs
 | [] => []
 | [t] => t
 | t :: u :: r => t ++ 44 :: joinC (u :: r)
theorem joinC_cons (t : Bs) (r : List Bs) : joinC (t :: r) = if r = [] then t else t ++ 44 :: joinC r := by
 cases r with
 | nil => rfl
 | cons u r => simp [joinC]
theorem joinC_snoc : ∀ (r : List Bs) (t : Bs), joinC (r ++ [t]) = if r = [] then t else joinC r ++ 44 :: t
 | [], t => rfl
 | [u], t => by simp [joinC]
 | u :: v :: r, t => by
  have := joinC_snoc (v :: r) t
  rw [List.cons_append, joinC_cons, if_neg (by simp), this, if_neg (by simp), if_neg (by simp), joinC_cons u, if_neg (by simp)]
  simp
theorem joinC_len : ∀ r : List Bs, r.length <= (joinC r).length + 1
 | [] => by simp
 | [t] => by simp
 | t :: u :: r => by
  have := joinC_len (u :: r)
  simp only [joinC, List.length_append, List.length_cons] at *; omega
inductive All2 {α β : Type} (R : α -> β -> Prop) : List α -> List β -> Prop
 | nil : All2 R [] []
 | cons {a b l m} : R a b -> All2 R l m -> All2 R (a :: l) (b :: m)
theorem All2.length {α β : Type} {R : α -> β -> Prop} {l : List α} {m : List β} (h : All2 R l m) : l.length = m.length := by
 induction h with
 | nil => rfl
 | cons _ _ ih => simp [ih]
theorem All2.append {α β : Type} {R : α -> β -> Prop} {l l' : List α} {m m' : List β} (h : All2 R l m) (k : All2 R l' m') : All2 R (l ++ l') (m ++ m') := by
 induction h with
 | nil => exact k
 | cons a _ ih => exact .cons a ih
theorem All2.perm {α β : Type} {R : α -> β -> Prop} {l l' : List α} (hp : l.Perm l') : ∀ {m : List β}, All2 R l m -> ∃ m', m.Perm m' /\ All2 R l' m' := by
 induction hp with
 | nil => intro m h; exact ⟨m, .refl _, h⟩
 | cons x _ ih =>
  intro m h
  cases h with
  | cons a h => obtain ⟨m', k1, k2⟩ := ih h; exact ⟨_ :: m', k1.cons _, .cons a k2⟩
 | swap x y l =>
  intro m h
  cases h with
  | cons a h => cases h with
   | cons b h => exact ⟨_, .swap _ _ _, .cons b (.cons a h)⟩
 | trans _ _ ih1 ih2 =>
  intro m h
  obtain ⟨m1, k1, k2⟩ := ih1 h
  obtain ⟨m2, k3, k4⟩ := ih2 k2
  exact ⟨m2, k1.trans k3, k4⟩
theorem elems_read {f : Nat} {ts : List Bs} {vs : List JV} (h : All2 (Reads Stop f) ts vs) (hne : ts ≠ []) {b : Bs} (hb : ∀ c ∈ b, isBl c = true) : ∀ (n : Nat) (acc : List JV) (r : Bs), ts.length <= n ->
  elemsR (rdV f) n (joinC ts ++ (b ++ 93 :: r)) acc = some (acc ++ vs, r) := by
 induction h with
 | nil => exact absurd rfl hne
 | @cons t v ts vs ht hts ih =>
  intro n acc r hn
  obtain ⟨m, rfl⟩ : ∃ m, n = m + 1 := ⟨n - 1, by simp only [List.length_cons] at hn; omega⟩
  obtain ⟨a, b', h1, rfl, h3⟩ := ht
  cases hts with
  | nil =>
   rw [joinC, elemsR, h3 _ (Stop.bl h1 (Stop.bl hb (Stop.brk r)))]
   simp only
   rw [skip_bl h1, skip_bl hb, skip_no (by decide)]
   simp
  | @cons t2 v2 ts2 vs2 ht2 hts2 =>
   rw [joinC, elemsR]
   rw [List.append_assoc (a ++ b'), h3 (44 :: joinC (t2 :: ts2) ++ (b ++ 93 :: r)) (Stop.bl h1 (Stop.comma _))]
   simp only
   rw [skip_bl h1, List.cons_append, skip_no (by decide)]
   simp only [show ¬ ((44 : UInt8) = 93) by decide, if_false, if_true]
   have := ih (by simp) m (acc ++ [v]) r (by simpa using hn)
   rw [this]; simp
def MReads (f : Nat) (t : Bs) (m : Bs × JV) : Prop := ∃ b, (∀ c ∈ b, isBl c = true) /\ ∀ r, Stop r -> ∃ s1, keyR (t ++ r) = some (m.1, s1) /\ rdV f s1 = some (m.2, b ++ r)
theorem membs_read {f : Nat} {ts : List Bs} {ms : List (Bs × JV)} (h : All2 (MReads f) ts ms) (hne : ts ≠ []) {b : Bs} (hb : ∀ c ∈ b, isBl c = true) : ∀ (n : Nat) (ks : List Bs) (vs : List JV) (r : Bs), ts.length <= n ->
  membsR (rdV f) n (joinC ts ++ (b ++ 125 :: r)) ks vs = some (ks ++ ms.map Prod.fst, vs ++ ms.map Prod.snd, r) := by
 induction h with
 | nil => exact absurd rfl hne
 | @cons t m ts ms ht hts ih =>
  intro n ks vs r hn
  obtain ⟨q, rfl⟩ : ∃ q, n = q + 1 := ⟨n - 1, by simp only [List.length_cons] at hn; omega⟩
  obtain ⟨b', h1, h3⟩ := ht
  cases hts with
  | nil =>
   obtain ⟨s1, e1, e2⟩ := h3 (b ++ 125 :: r) (Stop.bl hb (Stop.brc r))
   rw [joinC, membsR, e1]
   simp only [e2]
   rw [skip_bl h1, skip_bl hb, skip_no (by decide)]
   simp
  | @cons t2 m2 ts2 ms2 ht2 hts2 =>
   obtain ⟨s1, e1, e2⟩ := h3 (44 :: joinC (t2 :: ts2) ++ (b ++ 125 :: r)) (Stop.comma _)
   rw [joinC, membsR, List.append_assoc t, e1]
   simp only [e2]
   rw [skip_bl h1, List.cons_append, skip_no (by decide)]
   simp only [show ¬ ((44 : UInt8) = 125) by decide, if_false, if_true]
   have := ih (by simp) q (ks ++ [m.1]) (vs ++ [m.2]) r (by simpa using hn)
   rw [this]; simp
theorem word_no {c d : UInt8} (h : c ≠ d) (t : Bs) : wordR [d] (c :: t) = none := by
 unfold wordR
 rw [if_neg]
 simp [h]
theorem list_read {f : Nat} {ts : List Bs} {vs : List JV} (h : All2 (Reads Stop f) ts vs) {b : Bs} (hb : ∀ c ∈ b, isBl c = true) (r : Bs) :
  rdV (f + 1) (91 :: joinC ts ++ (b ++ 93 :: r)) = some (.mk 91 false [] vs [], r) := by
 show stepR (some (rdV f)) _ = _
 unfold stepR
 rw [List.cons_append, skip_no (by decide)]
 simp only [show ¬ ((91 : UInt8) = 123) by decide, if_false, if_true, Option.bind_some]
 cases h with
 | nil =>
  unfold listR
  simp only [joinC, List.nil_append]
  rw [skip_bl hb, skip_no (by decide), show (93 :: r : Bs) = [93] ++ r from rfl, word_app]
 | @cons t v ts vs ht hts =>
  have hall : All2 (Reads Stop f) (t :: ts) (v :: vs) := .cons ht hts
  unfold listR
  have hel := elems_read hall (by simp) hb ((joinC (t :: ts) ++ (b ++ 93 :: r)).length + 1) [] r (by have := joinC_len (t :: ts); rw [List.length_append]; omega)
  have hel' : elemsR (rdV f) ((joinC (t :: ts) ++ (b ++ 93 :: r)).length + 1) (skipB (joinC (t :: ts) ++ (b ++ 93 :: r))) [] = some (v :: vs, r) := by
   have e : ∀ n s, elemsR (rdV f) (n + 1) (skipB s) [] = elemsR (rdV f) (n + 1) s [] := by
    intro n s
    simp only [elemsR]
    have : rdV f (skipB s) = rdV f s := by
     have hs : s = s.takeWhile isBl ++ skipB s := List.takeWhile_append_dropWhile.symm
     conv => rhs; rw [hs]
     rw [rdV_bl]
     intro c hc
     exact List.all_eq_true.1 (List.all_takeWhile) c hc
    rw [this]
   rw [e]; simpa using hel
  cases hw : wordR [93] (skipB (joinC (t :: ts) ++ (b ++ 93 :: r))) with
  | some q =>
   exfalso
   obtain ⟨_, hq⟩ := word_sfx hw
   rw [hq, elemsR] at hel'
   have : rdV f ([93] ++ q) = none := by
    obtain ⟨sub, e, _⟩ := rdV_eq f ([93] ++ q)
    rw [e]
    unfold stepR
    rw [List.singleton_append, skip_no (by decide)]
    simp [wordR, numR, numR1, numR2, digsR, isDg]
   rw [this] at hel'
   cases hel'
  | none => simp only [hel', Option.map_some]
theorem obj_read {f : Nat} {ts : List Bs} {ms : List (Bs × JV)} (h : All2 (MReads f) ts ms) {b : Bs} (hb : ∀ c ∈ b, isBl c = true) (r : Bs) :
  rdV (f + 1) (123 :: joinC ts ++ (b ++ 125 :: r)) = some (.mk 123 false [] (ms.map Prod.snd) (ms.map Prod.fst), r) := by
 show stepR (some (rdV f)) _ = _
 unfold stepR
 rw [List.cons_append, skip_no (by decide)]
 simp only [if_true, Option.bind_some]
 cases h with
 | nil =>
  unfold objR
  simp only [joinC, List.nil_append]
  rw [skip_bl hb, skip_no (by decide), show (125 :: r : Bs) = [125] ++ r from rfl, word_app]
  rfl
 | @cons t m ts ms ht hts =>
  have hall : All2 (MReads f) (t :: ts) (m :: ms) := .cons ht hts
  unfold objR
  have hel := membs_read hall (by simp) hb ((joinC (t :: ts) ++ (b ++ 125 :: r)).length + 1) [] [] r (by have := joinC_len (t :: ts); rw [List.length_append]; omega)
  have hel' : membsR (rdV f) ((joinC (t :: ts) ++ (b ++ 125 :: r)).length + 1) (skipB (joinC (t :: ts) ++ (b ++ 125 :: r))) [] [] = some ((m :: ms).map Prod.fst, (m :: ms).map Prod.snd, r) := by
   have e : ∀ n s, membsR (rdV f) (n + 1) (skipB s) [] [] = membsR (rdV f) (n + 1) s [] [] := by
    intro n s
    simp only [membsR]
    have : keyR (skipB s) = keyR s := by
     unfold keyR
     have : skipB (skipB s) = skipB s := by
      have hs : s = s.takeWhile isBl ++ skipB s := List.takeWhile_append_dropWhile.symm
      have : skipB s = skipB (skipB s) := by
       conv => lhs; rw [hs]
       rw [skip_bl]
       intro c hc
       exact List.all_eq_true.1 (List.all_takeWhile) c hc
      exact this.symm
     rw [this]
    rw [this]
   rw [e]; simpa using hel
  cases hw : wordR [125] (skipB (joinC (t :: ts) ++ (b ++ 125 :: r))) with
  | some q =>
   exfalso
   obtain ⟨_, hq⟩ := word_sfx hw
   rw [hq, membsR] at hel'
   have : keyR ([125] ++ q) = none := by
    unfold keyR
    rw [List.singleton_append, skip_no (by decide)]
    simp
   rw [this] at hel'
   cases hel'
  | none => simp only [hel', Option.map_some]
end Go.V
namespace Go.V
set_option maxRecDepth 10000
def freeN (s : Bs) : Bool := s == [97, 110, 110, 111, 116, 97, 116, 105, 111, 110, 115] || s == [76, 97, 98, 101, 108, 115] || s == [86, 111, 108, 117, 109, 101, 115] || s == [69, 120, 112, 111, 115, 101, 100, 80, 111, 114, 116, 115]
def swapL {α : Type} (l : List α) (i k : Nat) : List α := match l[i]?, l[k]? with
 | some a, some b => (l.set i b).set k a
 | _, _ => l
def shuf {α : Type} : Nat -> List α -> Bs -> List α × Bs
 | 0, l, w => (l, w)
 | i + 1, l, w => shuf i (swapL l (i + 1) (tk (i + 2) w).1) (tk (i + 2) w).2
theorem swapL_perm {α : Type} (l : List α) (i k : Nat) : l.Perm (swapL l i k) := by
 unfold swapL
 split
 ·rename_i a b ha hb
  obtain ⟨hi, rfl⟩ := List.getElem?_eq_some_iff.1 ha
  obtain ⟨hk, rfl⟩ := List.getElem?_eq_some_iff.1 hb
  exact (List.set_set_perm hi hk).symm
 ·exact .refl _
theorem shuf_perm {α : Type} : ∀ (i : Nat) (l : List α) (w : Bs), l.Perm (shuf i l w).1
 | 0, l, w => .refl _
 | i + 1, l, w => (swapL_perm l _ _).trans (shuf_perm i _ _)
def unkT : Bs := [34, 120, 45, 117, 110, 107, 110, 111, 119, 110, 34, 32, 58, 32, 91, 49, 46, 53, 101, 51, 44, 32, 123, 34, 97, 34, 58, 110, 117, 108, 108, 125, 44, 32, 116, 114, 117, 101, 93]
def wlist (val : Js -> Bs -> Bs × Bs) : List Js -> Bs -> List Bs × Bs
 | [], w => ([], w)
 | j :: js, w => ((val j w).1 :: (wlist val js (val j w).2).1, (wlist val js (val j w).2).2)
def wmem (val : Js -> Bool -> Bs -> Bs × Bs) (fixed : Bool) (name v : Js) (w : Bs) : Bs × Bs :=
 let b1 := blk5 w
 let t := wquo name.text b1.2
 let b2 := blk5 t.2
 let x := val v (fixed && !(fixed && freeN name.text)) b2.2
 (b1.1 ++ t.1 ++ b2.1 ++ [58] ++ x.1, x.2)
def wpairs (val : Js -> Bool -> Bs -> Bs × Bs) (fixed : Bool) : List Js -> Bs -> List Bs × Bs
 | name :: v :: r, w => ((wmem val fixed name v w).1 :: (wpairs val fixed r (wmem val fixed name v w).2).1, (wpairs val fixed r (wmem val fixed name v w).2).2)
 | _, w => ([], w)
def wfix (fixed : Bool) (parts : List Bs) (w : Bs) : List Bs × Bs :=
 if fixed then
  let u := tk 4 w
  let p := if u.1 = 1 then parts ++ [unkT] else parts
  shuf (p.length - 1) p u.2
 else (parts, w)
def wval : Nat -> Js -> Bool -> Bs -> Bs × Bs
 | 0, _, _, w => ([], w)
 | d + 1, j, fixed, w =>
  let b1 := blk5 w
  if j.kind = 115 then
   let t := wquo j.text b1.2
   let b2 := blk5 t.2
   (b1.1 ++ t.1 ++ b2.1, b2.2)
  else if j.kind = 108 then
   let l := wlist (fun x w => wval d x fixed w) j.kids b1.2
   let b2 := blk5 l.2
   let b3 := blk5 b2.2
   (b1.1 ++ [91] ++ joinC l.1 ++ b2.1 ++ [93] ++ b3.1, b3.2)
  else if j.kind = 111 then
   let p := wpairs (wval d) fixed j.kids b1.2
   let q := wfix fixed p.1 p.2
   let b2 := blk5 q.2
   let b3 := blk5 b2.2
   (b1.1 ++ [123] ++ joinC q.1 ++ b2.1 ++ [125] ++ b3.1, b3.2)
  else
   let b2 := blk5 b1.2
   (b1.1 ++ j.text ++ b2.1, b2.2)
def LitR (t : Bs) (v : JV) : Prop := ∀ f r, Stop r -> rdV f (t ++ r) = some (v, r)
def Membs (R : Bool -> Js -> JV -> Prop) (fixed : Bool) : List Js -> List (Bs × JV) -> Prop
 | name :: v :: r, m :: ms => name.text = m.1 /\ R (fixed && !(fixed && freeN name.text)) v m.2 /\ Membs R fixed r ms
 | [], [] => True
 | _, _ => False
def unkM : Bs × JV := ([120, 45, 117, 110, 107, 110, 111, 119, 110], .mk 91 false [] [.mk 48 false [49, 46, 53, 101, 51] [] [], .mk 123 false [] [.mk 110 false [] [] []] [[97]], .mk 116 false [] [] []] [])
def Rep : Nat -> Bool -> Js -> JV -> Prop
 | 0, _, _, _ => False
 | d + 1, fixed, j, v =>
  if j.kind = 115 then ∃ p, v = .mk 34 p j.text [] []
  else if j.kind = 108 then ∃ vs, v = .mk 91 false [] vs [] /\ All2 (Rep d fixed) j.kids vs
  else if j.kind = 111 then ∃ base ms, v = .mk 123 false [] (ms.map Prod.snd) (ms.map Prod.fst) /\ Membs (Rep d) fixed j.kids base /\
   if fixed then base.Perm ms \/ (base ++ [unkM]).Perm ms else ms = base
  else LitR j.text v
def FineM (R : Js -> Prop) : List Js -> Prop
 | name :: v :: r => GoodT name.text /\ R v /\ FineM R r
 | [] => True
 | _ => False
def Fine : Nat -> Js -> Prop
 | 0, _ => False
 | d + 1, j =>
  if j.kind = 115 then GoodT j.text
  else if j.kind = 108 then ∀ x ∈ j.kids, Fine d x
  else if j.kind = 111 then FineM (Fine d) j.kids
  else ∃ v, LitR j.text v
theorem stop_dg {r : Bs} (hr : Stop r) : r.dropWhile isDg = r := by
 cases r with
 | nil => exact hr.elim
 | cons c r =>
  have : isDg c = false := by
   rcases hr with rfl | rfl | rfl | h
   ·decide
   ·decide
   ·decide
   ·have hb : ∀ k : Fin 256, isBl (UInt8.ofNat k.val) = true -> isDg (UInt8.ofNat k.val) = false := by decide
    have := hb ⟨c.toNat, c.toNat_lt⟩ (by simpa using h)
    simpa using this
  rw [List.dropWhile_cons, if_neg (by rw [this]; decide)]
theorem digs_one {c : UInt8} {t : Bs} (h : isDg c = true) : digsR (c :: t) = some (t.dropWhile isDg) := by rw [digsR, if_pos h]
theorem num_lit15 (r : Bs) (hr : Stop r) : numR ([49, 46, 53, 101, 51] ++ r) = some r := by
 show numR (49 :: 46 :: 53 :: 101 :: 51 :: r) = some r
 have e1 : numR1 (49 :: 46 :: 53 :: 101 :: 51 :: r) = 49 :: 46 :: 53 :: 101 :: 51 :: r := by rw [numR1, word_no (by decide)]; rfl
 have e2 : numR2 (49 :: 46 :: 53 :: 101 :: 51 :: r) = some (46 :: 53 :: 101 :: 51 :: r) := by
  rw [numR2, word_no (by decide)]
  simp only
  rw [digs_one (by decide), List.dropWhile_cons, if_neg (by decide)]
 have e3 : numR3 (46 :: 53 :: 101 :: 51 :: r) = some (101 :: 51 :: r) := by
  rw [numR3, word1]
  simp only
  rw [digs_one (by decide), List.dropWhile_cons, if_neg (by decide)]
 have e4 : numR4 (101 :: 51 :: r) = some r := by
  rw [numR4, word1]
  simp only
  rw [word_no (by decide), Option.getD_none, numR1, word_no (by decide), Option.getD_none, digs_one (by decide), stop_dg hr]
 rw [numR, e1, e2, Option.bind_some, e3, Option.bind_some, e4]
theorem rdV_num {t r : Bs} {c : UInt8} {u : Bs} (f : Nat) (ht : t = c :: u) (hc : (48 <= c.toNat /\ c.toNat <= 57) \/ c = 45) (h : numR (t ++ r) = some r) : rdV f (t ++ r) = some (.mk 48 false t [] [], r) := by
 obtain ⟨sub, e, _⟩ := rdV_eq f (t ++ r)
 rw [e]
 subst ht
 have hn : ∀ k : UInt8, (k.toNat < 45 \/ (45 < k.toNat /\ k.toNat < 48) \/ 57 < k.toNat) -> c ≠ k := by
  intro k hk e
  subst e
  rcases hc with hc | hc
  ·omega
  ·rw [hc] at hk; simp at hk
 have hbl : isBl c = false := by
  simp only [isBl, Bool.or_eq_false_iff, beq_eq_false_iff_ne]
  exact ⟨⟨⟨hn 32 (by decide), hn 9 (by decide)⟩, hn 10 (by decide)⟩, hn 13 (by decide)⟩
 unfold stepR
 rw [List.cons_append, skip_no hbl]
 simp only [if_neg (hn 123 (by decide)), if_neg (hn 91 (by decide)), if_neg (hn 34 (by decide)), if_neg (hn 116 (by decide)), if_neg (hn 102 (by decide)), if_neg (hn 110 (by decide))]
 rw [<- List.cons_append, h]
 have : eaten (c :: u ++ r) r = c :: u := by unfold eaten; rw [List.length_append, Nat.add_sub_cancel, List.take_left]
 simp only [Option.map_some, this]
theorem lit_null : LitR [110, 117, 108, 108] (.mk 110 false [] [] []) := by
 intro f r _
 obtain ⟨sub, e, _⟩ := rdV_eq f ([110, 117, 108, 108] ++ r)
 rw [e]
 unfold stepR
 rw [show ([110, 117, 108, 108] ++ r : Bs) = 110 :: ([117, 108, 108] ++ r) from rfl, skip_no (by decide)]
 have := word_app [110, 117, 108, 108] r
 simp only [List.cons_append, List.nil_append] at this
 simp [this]
theorem lit_true : LitR [116, 114, 117, 101] (.mk 116 false [] [] []) := by
 intro f r _
 obtain ⟨sub, e, _⟩ := rdV_eq f ([116, 114, 117, 101] ++ r)
 rw [e]
 unfold stepR
 rw [show ([116, 114, 117, 101] ++ r : Bs) = 116 :: ([114, 117, 101] ++ r) from rfl, skip_no (by decide)]
 have := word_app [116, 114, 117, 101] r
 simp only [List.cons_append, List.nil_append] at this
 simp [this]
theorem goodT_asc {s : Bs} (h : ∀ c ∈ s, c.toNat < 128) : GoodT s := by
 refine ⟨s.map UInt8.toNat, ?_, ?_⟩
 ·induction s with
  | nil => rfl
  | cons c s ih =>
   have hc := h c (by simp)
   rw [List.map_cons, encs_cons, encR_ascii _ (by omega) (by omega), <- ih fun x hx => h x (by simp [hx])]
   simp
 ·intro r hr
  obtain ⟨c, hc, rfl⟩ := List.mem_map.1 hr
  have := h c hc
  exact .inl (by omega)
theorem strR_plain {s : Bs} (h : ∀ c ∈ s, 32 <= c.toNat /\ c.toNat < 128 /\ c ≠ 34 /\ c ≠ 92) (t : Bs) : strR (s ++ 34 :: t) = some (s, t) := by
 rw [strR_TR]
 have : ∀ (s out : Bs), (∀ c ∈ s, 32 <= c.toNat /\ c.toNat < 128 /\ c ≠ 34 /\ c ≠ 92) -> TR (s ++ 34 :: t) out = some (out ++ s, t) := by
  intro s
  induction s with
  | nil => intro out _; rw [List.nil_append, TR_end, List.append_nil]
  | cons c s ih =>
   intro out h
   obtain ⟨h1, h2, h3, h4⟩ := h c (by simp)
   rw [List.cons_append, TR_raw out h3 (by omega) h4]
   have hr : runeAt (c :: (s ++ 34 :: t)) 0 = (c.toNat, 1) := runeAt_ascii _ 0 h2
   rw [hr]
   simp only [List.drop_succ_cons, List.drop_zero]
   rw [ih _ fun x hx => h x (by simp [hx]), encR_ascii _ (by omega) (by omega)]
   simp
 simpa using this s [] h
theorem unk_reads (f : Nat) : MReads (f + 2) unkT unkM := by
 refine ⟨[], by simp, fun r hr => ?_⟩
 refine ⟨[32, 91, 49, 46, 53, 101, 51, 44, 32, 123, 34, 97, 34, 58, 110, 117, 108, 108, 125, 44, 32, 116, 114, 117, 101, 93] ++ r, ?_, ?_⟩
 ·show keyR (34 :: ([120, 45, 117, 110, 107, 110, 111, 119, 110] ++ 34 :: ([32, 58, 32, 91, 49, 46, 53, 101, 51, 44, 32, 123, 34, 97, 34, 58, 110, 117, 108, 108, 125, 44, 32, 116, 114, 117, 101, 93] ++ r))) = _
  unfold keyR
  rw [skip_no (by decide)]
  simp only [if_true]
  rw [strR_plain (by decide)]
  simp only
  rw [show ([32, 58, 32, 91, 49, 46, 53, 101, 51, 44, 32, 123, 34, 97, 34, 58, 110, 117, 108, 108, 125, 44, 32, 116, 114, 117, 101, 93] ++ r : Bs) = [32] ++ (58 :: ([32, 91, 49, 46, 53, 101, 51, 44, 32, 123, 34, 97, 34, 58, 110, 117, 108, 108, 125, 44, 32, 116, 114, 117, 101, 93] ++ r)) from rfl, skip_bl (by decide), skip_no (by decide)]
  rfl
 ·have e1 : Reads Stop (f + 1) [49, 46, 53, 101, 51] (.mk 48 false [49, 46, 53, 101, 51] [] []) := ⟨[49, 46, 53, 101, 51], [], by simp, rfl, fun r hr => rdV_num _ rfl (.inl (by decide)) (num_lit15 _ hr)⟩
  have e2 : Reads Stop (f + 1) [32, 123, 34, 97, 34, 58, 110, 117, 108, 108, 125] (.mk 123 false [] [.mk 110 false [] [] []] [[97]]) := by
   refine ⟨[32, 123, 34, 97, 34, 58, 110, 117, 108, 108, 125], [], by simp, rfl, fun r hr => ?_⟩
   rw [List.nil_append]
   have hm : MReads f [34, 97, 34, 58, 110, 117, 108, 108] ([97], .mk 110 false [] [] []) := by
    refine ⟨[], by simp, fun r hr => ⟨[110, 117, 108, 108] ++ r, ?_, lit_null f r hr⟩⟩
    show keyR (34 :: ([97] ++ 34 :: (58 :: ([110, 117, 108, 108] ++ r)))) = _
    unfold keyR
    rw [skip_no (by decide)]
    simp only [if_true]
    rw [strR_plain (by decide)]
    simp only
    rw [skip_no (by decide)]
    rfl
   have := obj_read (All2.cons hm .nil) (b := []) (by simp) r
   have e : ([32, 123, 34, 97, 34, 58, 110, 117, 108, 108, 125] ++ r : Bs) = [32] ++ (123 :: joinC [[34, 97, 34, 58, 110, 117, 108, 108]] ++ ([] ++ 125 :: r)) := rfl
   rw [e, rdV_bl _ (by decide)]
   exact this
  have e3 : Reads Stop (f + 1) [32, 116, 114, 117, 101] (.mk 116 false [] [] []) := by
   refine ⟨[32, 116, 114, 117, 101], [], by simp, rfl, fun r hr => ?_⟩
   rw [show ([32, 116, 114, 117, 101] ++ r : Bs) = [32] ++ ([116, 114, 117, 101] ++ r) from rfl, rdV_bl _ (by decide)]
   exact lit_true _ r hr
  have := list_read (All2.cons e1 (.cons e2 (.cons e3 .nil))) (b := []) (by simp) r
  have e : ([32, 91, 49, 46, 53, 101, 51, 44, 32, 123, 34, 97, 34, 58, 110, 117, 108, 108, 125, 44, 32, 116, 114, 117, 101, 93] ++ r : Bs) = [32] ++ (91 :: joinC [[49, 46, 53, 101, 51], [32, 123, 34, 97, 34, 58, 110, 117, 108, 108, 125], [32, 116, 114, 117, 101]] ++ ([] ++ 93 :: r)) := rfl
  rw [e, rdV_bl _ (by decide)]
  exact this
theorem wval_reads : ∀ (d : Nat) (j : Js) (fixed : Bool) (w : Bs) (f : Nat), Fine d j -> d + 2 <= f -> ∃ v, Rep d fixed j v /\ Reads (fun r => j.kind = 115 \/ j.kind = 108 \/ j.kind = 111 \/ Stop r) f (wval d j fixed w).1 v
 | 0, j, fixed, w, f, h, _ => h.elim
 | d + 1, j, fixed, w, f, h, hf => by
  obtain ⟨g, rfl⟩ : ∃ g, f = g + 1 := ⟨f - 1, by omega⟩
  have hb1 := blk5_bl w
  have sub : ∀ (x : Js) (fx : Bool) (w : Bs), Fine d x -> ∃ v, Rep d fx x v /\ Reads Stop g (wval d x fx w).1 v := fun x fx w hx => by
   obtain ⟨v, h1, h2⟩ := wval_reads d x fx w g hx (by omega)
   exact ⟨v, h1, h2.mono fun r hr => .inr (.inr (.inr hr))⟩
  unfold Fine at h
  unfold wval Rep
  simp only
  by_cases hs : j.kind = 115
  ·rw [if_pos hs] at h
   simp only [if_pos hs]
   obtain ⟨p, hr⟩ := Reads.str (g + 1) h (blk5 w).2 hb1 (blk5_bl (wquo j.text (blk5 w).2).2)
   exact ⟨_, ⟨p, rfl⟩, by rw [List.append_assoc]; exact hr.mono fun _ _ => trivial⟩
  rw [if_neg hs] at h
  simp only [if_neg hs]
  by_cases hl : j.kind = 108
  ·rw [if_pos hl] at h
   simp only [if_pos hl]
   have key : ∀ (js : List Js) (w : Bs), (∀ x ∈ js, Fine d x) -> ∃ vs, All2 (Rep d fixed) js vs /\ All2 (Reads Stop g) (wlist (fun x w => wval d x fixed w) js w).1 vs := by
    intro js
    induction js with
    | nil => intro w _; exact ⟨[], .nil, .nil⟩
    | cons x js ih =>
     intro w hx
     obtain ⟨v, h1, h2⟩ := sub x fixed w (hx x (by simp))
     obtain ⟨vs, h3, h4⟩ := ih (wval d x fixed w).2 fun y hy => hx y (by simp [hy])
     exact ⟨v :: vs, .cons h1 h3, .cons h2 h4⟩
   obtain ⟨vs, h1, h2⟩ := key j.kids (blk5 w).2 h
   refine ⟨_, ⟨vs, rfl, h1⟩, ?_⟩
   generalize hL : wlist (fun x w => wval d x fixed w) j.kids (blk5 w).2 = l at h2 ⊢
   have hr := fun r => list_read h2 (blk5_bl l.2) r
   have := (Reads.post (S := fun r => j.kind = 115 \/ j.kind = 108 \/ j.kind = 111 \/ Stop r) (f := g + 1) (a := 91 :: joinC l.1 ++ ((blk5 l.2).1 ++ [93])) (b := (blk5 (blk5 l.2).2).1) (fun r _ => by
    have := hr r
    rw [<- this]; simp) (blk5_bl _)).pre hb1
   simpa [List.append_assoc] using this
  rw [if_neg hl] at h
  simp only [if_neg hl]
  by_cases ho : j.kind = 111
  ·rw [if_pos ho] at h
   simp only [if_pos ho]
   have key : ∀ (n : Nat) (js : List Js) (w : Bs), js.length <= n -> FineM (Fine d) js -> ∃ ms, Membs (Rep d) fixed js ms /\ All2 (MReads g) (wpairs (wval d) fixed js w).1 ms := by
    intro n
    induction n with
    | zero =>
     intro js w hn _
     have : js = [] := List.eq_nil_of_length_eq_zero (by omega)
     subst this
     exact ⟨[], trivial, .nil⟩
    | succ n ih =>
     intro js w hn hx
     match js, hx with
     | [], _ => exact ⟨[], trivial, .nil⟩
     | name :: x :: r, hx =>
      obtain ⟨k1, k2, k3⟩ := hx
      have hm : ∃ v, Rep d (fixed && !(fixed && freeN name.text)) x v /\ MReads g (wmem (wval d) fixed name x w).1 (name.text, v) := by
       obtain ⟨v, e1, b, _, hb, rfl', hr⟩ : ∃ v, Rep d (fixed && !(fixed && freeN name.text)) x v /\ Reads Stop g (wval d x (fixed && !(fixed && freeN name.text)) (blk5 (wquo name.text (blk5 w).2).2).2).1 v := sub _ _ _ k2
       refine ⟨v, e1, _, hb, fun r hS => ?_⟩
       have hS' := Stop.bl hb hS
       refine ⟨_, ?_, hr r hS'⟩
       obtain ⟨q, q1, q2⟩ := wquo_read k1 (blk5 w).2 ((blk5 (wquo name.text (blk5 w).2).2).1 ++ 58 :: ((wval d x (fixed && !(fixed && freeN name.text)) (blk5 (wquo name.text (blk5 w).2).2).2).1 ++ r))
       unfold wmem
       simp only
       unfold keyR
       rw [show (blk5 w).1 ++ (wquo name.text (blk5 w).2).1 ++ (blk5 (wquo name.text (blk5 w).2).2).1 ++ [58] ++ (wval d x (fixed && !(fixed && freeN name.text)) (blk5 (wquo name.text (blk5 w).2).2).2).1 ++ r =
        (blk5 w).1 ++ (34 :: (q ++ 34 :: ((blk5 (wquo name.text (blk5 w).2).2).1 ++ 58 :: ((wval d x (fixed && !(fixed && freeN name.text)) (blk5 (wquo name.text (blk5 w).2).2).2).1 ++ r)))) from by rw [q1]; simp]
       rw [skip_bl (blk5_bl _), skip_no (by decide)]
       simp only [if_true, q2]
       rw [skip_bl (blk5_bl _), skip_no (by decide)]
       rfl
      obtain ⟨v, m1, m2⟩ := hm
      obtain ⟨ms, i1, i2⟩ := ih r (wmem (wval d) fixed name x w).2 (by simp only [List.length_cons] at hn; omega) k3
      exact ⟨(name.text, v) :: ms, ⟨rfl, m1, i1⟩, .cons m2 i2⟩
     | [_], hx => exact hx.elim
   obtain ⟨base, h1, h2⟩ := key _ j.kids (blk5 w).2 (Nat.le_refl _) h
   generalize hP : wpairs (wval d) fixed j.kids (blk5 w).2 = p at h2 ⊢
   have hq : ∃ ms, (if fixed then base.Perm ms \/ (base ++ [unkM]).Perm ms else ms = base) /\ All2 (MReads g) (wfix fixed p.1 p.2).1 ms := by
    unfold wfix
    cases fixed with
    | false => exact ⟨base, rfl, h2⟩
    | true =>
     simp only [if_true]
     split
     ·have hu : MReads g unkT unkM := by
       obtain ⟨g', rfl⟩ : ∃ g', g = g' + 2 := ⟨g - 2, by omega⟩
       exact unk_reads g'
      obtain ⟨ms, k1, k2⟩ := All2.perm (shuf_perm _ _ _) (h2.append (All2.cons hu .nil))
      exact ⟨ms, .inr k1, k2⟩
     ·obtain ⟨ms, k1, k2⟩ := All2.perm (shuf_perm _ _ _) h2
      exact ⟨ms, .inl k1, k2⟩
   obtain ⟨ms, m1, m2⟩ := hq
   refine ⟨_, ⟨base, ms, rfl, h1, m1⟩, ?_⟩
   generalize wfix fixed p.1 p.2 = q at m2 ⊢
   have hr := fun r => obj_read m2 (blk5_bl q.2) r
   have := (Reads.post (S := fun r => j.kind = 115 \/ j.kind = 108 \/ j.kind = 111 \/ Stop r) (f := g + 1) (a := 123 :: joinC q.1 ++ ((blk5 q.2).1 ++ [125])) (b := (blk5 (blk5 q.2).2).1) (fun r _ => by
    have := hr r
    rw [<- this]; simp) (blk5_bl _)).pre hb1
   simpa [List.append_assoc] using this
  rw [if_neg ho] at h
  simp only [if_neg ho]
  obtain ⟨v, hv⟩ := h
  refine ⟨v, hv, ?_⟩
  have := (Reads.post (S := fun r => j.kind = 115 \/ j.kind = 108 \/ j.kind = 111 \/ Stop r) (f := g + 1) (a := j.text) (b := (blk5 (blk5 w).2).1) (fun r hr => hv _ _ (by
   rcases hr with h | h | h | h
   ·exact absurd h hs
   ·exact absurd h hl
   ·exact absurd h ho
   ·exact h)) (blk5_bl _)).pre hb1
  simpa [List.append_assoc] using this
end Go.V
namespace Go.V
set_option maxRecDepth 10000
def b64A : Bs := [65, 66, 67, 68, 69, 70, 71, 72, 73, 74, 75, 76, 77, 78, 79, 80, 81, 82, 83, 84, 85, 86, 87, 88, 89, 90, 97, 98, 99, 100, 101, 102, 103, 104, 105, 106, 107, 108, 109, 110, 111, 112, 113, 114, 115, 116, 117, 118, 119, 120, 121, 122, 48, 49, 50, 51, 52, 53, 54, 55, 56, 57, 43, 47]
def b64c (n : Nat) : UInt8 := b64A.getD (n % 64) 0
def b64 : Bs -> Bs
 | [] => []
 | [a] => [b64c (a.toNat / 4), b64c (a.toNat % 4 * 16), 61, 61]
 | [a, b] => [b64c (a.toNat / 4), b64c (a.toNat % 4 * 16 + b.toNat / 16), b64c (b.toNat % 16 * 4), 61]
 | a :: b :: c :: t => b64c (a.toNat / 4) :: b64c (a.toNat % 4 * 16 + b.toNat / 16) :: b64c (b.toNat % 16 * 4 + c.toNat / 64) :: b64c (c.toNat % 64) :: b64 t
theorem b64_len : ∀ s : Bs, (b64 s).length = (s.length + 2) / 3 * 4
 | [] => rfl
 | [a] => by simp only [b64, List.length_cons, List.length_nil]
 | [a, b] => by simp only [b64, List.length_cons, List.length_nil]
 | a :: b :: c :: t => by
  simp only [b64, List.length_cons, b64_len t]; omega
theorem b64c_asc_fin : ∀ k : Fin 64, 43 <= (b64A.getD k.val 0).toNat /\ (b64A.getD k.val 0).toNat < 123 /\ b64A.getD k.val 0 ≠ 61 /\ b64A.getD k.val 0 ≠ 92 /\ b64A.getD k.val 0 ≠ 58 := by decide
theorem b64c_asc (n : Nat) : 43 <= (b64c n).toNat /\ (b64c n).toNat < 123 /\ b64c n ≠ 61 /\ b64c n ≠ 92 /\ b64c n ≠ 58 := b64c_asc_fin ⟨n % 64, Nat.mod_lt _ (by decide)⟩
theorem b64_asc : ∀ s : Bs, ∀ c ∈ b64 s, 43 <= c.toNat /\ c.toNat < 123 /\ c ≠ 92
 | [], c, h => by simp [b64] at h
 | [a], c, h => by
  simp only [b64, List.mem_cons, List.not_mem_nil, or_false] at h
  rcases h with rfl | rfl | rfl | rfl
  ·exact ⟨(b64c_asc _).1, (b64c_asc _).2.1, (b64c_asc _).2.2.2.1⟩
  ·exact ⟨(b64c_asc _).1, (b64c_asc _).2.1, (b64c_asc _).2.2.2.1⟩
  ·decide
  ·decide
 | [a, b], c, h => by
  simp only [b64, List.mem_cons, List.not_mem_nil, or_false] at h
  rcases h with rfl | rfl | rfl | rfl
  ·exact ⟨(b64c_asc _).1, (b64c_asc _).2.1, (b64c_asc _).2.2.2.1⟩
  ·exact ⟨(b64c_asc _).1, (b64c_asc _).2.1, (b64c_asc _).2.2.2.1⟩
  ·exact ⟨(b64c_asc _).1, (b64c_asc _).2.1, (b64c_asc _).2.2.2.1⟩
  ·decide
 | a :: b :: d :: t, c, h => by
  simp only [b64, List.mem_cons] at h
  rcases h with rfl | rfl | rfl | rfl | h
  ·exact ⟨(b64c_asc _).1, (b64c_asc _).2.1, (b64c_asc _).2.2.2.1⟩
  ·exact ⟨(b64c_asc _).1, (b64c_asc _).2.1, (b64c_asc _).2.2.2.1⟩
  ·exact ⟨(b64c_asc _).1, (b64c_asc _).2.1, (b64c_asc _).2.2.2.1⟩
  ·exact ⟨(b64c_asc _).1, (b64c_asc _).2.1, (b64c_asc _).2.2.2.1⟩
  ·exact b64_asc t c h
end Go.V
namespace Go.V
open Go.Proofs.Tryz
open Go.Shelf Go.Proofs
set_option maxRecDepth 100000
def ren196 : Go.Shelf.Ren := ⟨fun | 196 => 34 | 259 => 51 | n => n, fun | 0 => 0 | 3 => 3 | 4 => 4 | 5 => 5 | 9 => 9 | 12 => 12 | 46 => 117 | 53 => 141 | 119 => 113 | 138 => 115 | 139 => 116 | n => n, fun | 3 => 0 | 4 => 1 | n => n⟩
theorem lays196 : Lays.n196 prog ren196 := {
 mixed := by kernel_rfl
 f196 := func34.trans (congrArg some (by kernel_rfl))
 f259 := func51.trans (congrArg some (by kernel_rfl))
 t0 := underlying0
 a0 := isAgg0
 z0 := sizeOf0
 v0 := zeroValue0
 t3 := underlying3
 a3 := isAgg3
 z3 := sizeOf3
 v3 := zeroValue3
 t4 := underlying4
 a4 := isAgg4
 z4 := sizeOf4
 v4 := zeroValue4
 t5 := underlying5
 a5 := isAgg5
 z5 := sizeOf5
 v5 := zeroValue5
 t9 := underlying9
 a9 := isAgg9
 z9 := sizeOf9
 v9 := zeroValue9
 t12 := underlying12
 a12 := isAgg12
 z12 := sizeOf12
 v12 := zeroValue12
 t46 := underlying117
 a46 := isAgg117
 z46 := sizeOf117
 v46 := zeroValue117
 t53 := underlying141
 a53 := isAgg141
 z53 := sizeOf141
 v53 := zeroValue141
 t119 := underlying113
 a119 := isAgg113
 z119 := sizeOf113
 t138 := underlying115
 a138 := isAgg115
 z138 := sizeOf115
 v138 := zeroValue115
 t139 := underlying116
 a139 := isAgg116
 z139 := sizeOf116
 v139 := zeroValue116
 g3 := by kernel_rfl
 g4 := by kernel_rfl }
end Go.V
namespace Go.V
open Go.Proofs.Tryz
open Go.Shelf Go.Proofs
set_option maxRecDepth 100000
def ren197 : Go.Shelf.Ren := ⟨fun | 197 => 113 | 260 => 122 | n => n, fun | 0 => 0 | 3 => 3 | 4 => 4 | 5 => 5 | 9 => 9 | 21 => 21 | 46 => 117 | 105 => 148 | 119 => 113 | 138 => 115 | 139 => 116 | n => n, fun | 3 => 0 | 4 => 1 | n => n⟩
theorem lays197 : Lays.n197 prog ren197 := {
 mixed := by kernel_rfl
 f197 := func113.trans (congrArg some (by kernel_rfl))
 f260 := func122.trans (congrArg some (by kernel_rfl))
 t0 := underlying0
 a0 := isAgg0
 z0 := sizeOf0
 v0 := zeroValue0
 t3 := underlying3
 a3 := isAgg3
 z3 := sizeOf3
 v3 := zeroValue3
 t4 := underlying4
 a4 := isAgg4
 z4 := sizeOf4
 v4 := zeroValue4
 t5 := underlying5
 a5 := isAgg5
 z5 := sizeOf5
 v5 := zeroValue5
 t9 := underlying9
 a9 := isAgg9
 z9 := sizeOf9
 v9 := zeroValue9
 t21 := underlying21
 a21 := isAgg21
 z21 := sizeOf21
 v21 := zeroValue21
 t46 := underlying117
 a46 := isAgg117
 z46 := sizeOf117
 v46 := zeroValue117
 t105 := underlying148
 a105 := isAgg148
 z105 := sizeOf148
 v105 := zeroValue148
 t119 := underlying113
 a119 := isAgg113
 z119 := sizeOf113
 t138 := underlying115
 a138 := isAgg115
 z138 := sizeOf115
 v138 := zeroValue115
 t139 := underlying116
 a139 := isAgg116
 z139 := sizeOf116
 v139 := zeroValue116
 g3 := by kernel_rfl
 g4 := by kernel_rfl }
end Go.V
namespace Go.V
open Go.Proofs.Tryz
open Go.Shelf Go.Proofs
set_option maxRecDepth 100000
def ren32 : Go.Shelf.Ren := ⟨fun | 32 => 69 | 49 => 73 | n => n, fun | 0 => 0 | 3 => 3 | 4 => 4 | 5 => 5 | 21 => 21 | 25 => 117 | 30 => 32 | 33 => 148 | 66 => 113 | 68 => 115 | 69 => 116 | n => n, fun | 2 => 0 | 3 => 1 | n => n⟩
theorem lays32 : Lays7.n32 prog ren32 := {
 mixed := by kernel_rfl
 f32 := func69.trans (congrArg some (by kernel_rfl))
 f49 := func73.trans (congrArg some (by kernel_rfl))
 t0 := underlying0
 a0 := isAgg0
 z0 := sizeOf0
 v0 := zeroValue0
 i0 := by kernel_rfl
 t3 := underlying3
 a3 := isAgg3
 z3 := sizeOf3
 v3 := zeroValue3
 i3 := by kernel_rfl
 t4 := underlying4
 a4 := isAgg4
 z4 := sizeOf4
 v4 := zeroValue4
 i4 := by kernel_rfl
 t5 := underlying5
 a5 := isAgg5
 z5 := sizeOf5
 v5 := zeroValue5
 i5 := by kernel_rfl
 t21 := underlying21
 a21 := isAgg21
 z21 := sizeOf21
 v21 := zeroValue21
 i21 := by kernel_rfl
 t25 := underlying117
 a25 := isAgg117
 z25 := sizeOf117
 v25 := zeroValue117
 i25 := by kernel_rfl
 t30 := underlying32
 a30 := isAgg32
 z30 := sizeOf32
 v30 := zeroValue32
 i30 := by kernel_rfl
 t33 := underlying148
 a33 := isAgg148
 z33 := sizeOf148
 v33 := zeroValue148
 i33 := by kernel_rfl
 t66 := underlying113
 a66 := isAgg113
 z66 := sizeOf113
 t68 := underlying115
 a68 := isAgg115
 z68 := sizeOf115
 v68 := zeroValue115
 i68 := by kernel_rfl
 t69 := underlying116
 a69 := isAgg116
 z69 := sizeOf116
 v69 := zeroValue116
 i69 := by kernel_rfl
 g2 := by kernel_rfl
 g3 := by kernel_rfl }
end Go.V
namespace Go.V
open Go.Proofs.Tryz
open Go.RowKit
set_option maxRecDepth 10000
attribute [local irreducible] Run Ops QD
def UT (I : Imm) : Prop := (∀ c, c < 256 -> At I 0 c [.int .u8 (Lib.firstT c)]) /\ ∀ i, i < 16 -> At I 1 (2 * i) [.int .u8 (Lib.accLo i)] /\ At I 1 (2 * i + 1) [.int .u8 (Lib.accHi i)]
theorem UT.mono {I J : Imm} (h : UT I) (hle : Le I J) : UT J := ⟨fun c hc => (h.1 c hc).mono hle, fun i hi => ⟨(h.2 i hi).1.mono hle, (h.2 i hi).2.mono hle⟩⟩
theorem At.cellF {I : Imm} {L : Own} {W : World} (h : Fits I L W) {b off : Nat} {v : Value} (hA : At I b off [v]) : W.cell? ⟨b, off, none⟩ = some v := by
 have := (show Holds I L W from ⟨h.imm, h.own⟩).cell hA 0 v rfl
 simpa using this
theorem UT.tabs {I : Imm} {L : Own} {W : World} (h : UT I) (hf : Fits I L W) : Lib.Utf8Tabs 0 1 W :=
 ⟨fun c hc => (h.1 c hc).cellF hf, fun i hi => ⟨(h.2 i hi).1.cellF hf, (h.2 i hi).2.cellF hf⟩⟩
theorem utf8_ValidString (I : Imm) (hU : UT I) (s : List UInt8) (hs : s.length <= 1099511627776) : Pure prog 34 [str s] I fun w J => w = .bool (Lib.validD s) /\ J = I :=
 Pure.ofBelow fun W hf => by
  have := Proofs.Any.utf8_ValidString lays196 ⟨s.toArray⟩ W (by rw [str_size]; omega) (hU.tabs hf)
  exact this
theorem decGo (s : List UInt8) (hs : s ≠ []) : Lib.decodeGo ⟨s.toArray⟩ = runeAt s 0 := by
 have : (⟨s.toArray⟩ : ByteArray).size ≠ 0 := by rw [str_size]; have := List.length_pos_iff.2 hs; omega
 unfold Lib.decodeGo
 rw [if_neg this]; rfl
theorem utf8_DecodeStr (I : Imm) (hU : UT I) (s : List UInt8) (hs : s ≠ []) : Pure prog 113 [str s] I fun w J => w = .tuple #[.int .i32 ((runeAt s 0).1 : Int), .int .i64 ((runeAt s 0).2 : Int)] /\ J = I :=
 Pure.ofBelow fun W hf => by
  have := Proofs.Any.utf8_DecodeRuneInString lays197 ⟨s.toArray⟩ W (hU.tabs hf)
  rw [decGo s hs] at this
  exact this
theorem utf8_Decode (I : Imm) (hU : UT I) (s : List UInt8) (v : Value) (db off c : Nat) (hR : Rd I v s db off c) (hs : s ≠ []) : Pure prog 69 [v] I fun w J => w = .tuple #[.int .i32 ((runeAt s 0).1 : Int), .int .i64 ((runeAt s 0).2 : Int)] /\ J = I :=
 Pure.ofBelow fun W hf => by
  obtain rfl := hR.eq
  have := Proofs.Any7.utf8_DecodeRune lays32 ⟨s.toArray⟩ db off c W (hU.tabs hf) (fun j hj => by
   rw [str_size] at hj
   have := (hR.at' j hj).cellF hf
   have e : (⟨s.toArray⟩ : ByteArray).get! j = s.getD j 0 := ba_get s j
   rw [e, <- this]
   congr 2; omega)
  rw [decGo s hs, str_size] at this
  exact this
theorem w8_nat {k : Nat} (h : k < 256) : Value.int .u8 (k : Int) = w8 (UInt8.ofNat k) := by unfold w8; rw [ofNat_nat h]
theorem shrL (a k : Nat) : (a : Int).fdiv (2 ^ k) = ((a / 2 ^ k : Nat) : Int) := by
 rw [Int.fdiv_eq_ediv_of_nonneg _ (Int.pow_nonneg (by decide))]
 simp
theorem and63 (a : Nat) : a &&& 63 = a % 64 := Nat.and_two_pow_sub_one_eq_mod a 6
theorem btB : Bt prog 32 5 := ⟨el32, t5, by kernel_rfl, rfl⟩
theorem wrapU32 {k : Nat} (h : k < 4294967296) : IntKind.u32.wrap (k : Int) = (k : Int) := by rw [wrap32]; omega
theorem wrapM8 (k : Nat) : IntKind.u8.wrap (k : Int) = ((k % 256 : Nat) : Int) := by rw [wrap8]; omega
theorem or128 (a : Nat) : 128 ||| a % 64 = 128 + a % 64 := orSh (a := 2) 6 (Nat.mod_lt _ (by decide))
set_option maxHeartbeats 1000000 in
theorem utf8_appendNon (I : Imm) (v : Value) (xs : List UInt8) (r : Nat) (M : Own) (hB : Buf 5 v xs M) (hx : xs.length <= 1099511627776) (h0 : 128 <= r) (h1 : r <= 1114111) :
  Spec prog 74 [v, .int .i32 (r : Int)] I M fun w J M' => Buf 5 w (xs ++ encR (r : Int)) M' /\ J = I := by
 refine Spec.enter 78 [(0, _), (1, _)] func74 rfl ntmps74 (by simp) rfl ?_
 intro C hCf hR hCI
 refine rS ?_
 refine rO (fun Z hZ => (eE rfl (zN hZ ((rS (rO (fun Z hZ => (eE rfl (fE (Ev.conv (a := (r : Int)) (r := (r : Int)) T rfl rfl rfl (wrapU32 (by omega))) (eE rfl (zN hZ ?_)))))))))))
 repeat (first | refine rS ?_ | refine rB ?_)
 refine rO (fun Z hZ => (eE rfl (fE (Ev.leq rfl rfl) (eE rfl (zN hZ ?_)))))
 by_cases c1 : r <= 2047
 ·rw [decide_eq_true (show (r : Int) <= 2047 by omega)]
  have g : goodR r := .inl (by omega)
  have e : encR (r : Int) = [UInt8.ofNat (192 + r / 64), UInt8.ofNat (128 + r % 64)] := by rw [encR_good g, if_neg (by omega), if_pos (by omega)]
  repeat (first | refine rS ?_ | refine rT rfl ?_)
  refine rP 9 (fun Z hZ => (eE rfl (eE rfl (fE (Ev.shrK rfl rfl dc dc (shrL r 6)) (fE (Ev.conv (r := ((r / 64 : Nat) : Int)) T rfl rfl rfl (wrapN8 (by omega))) (fE ((Ev.orK (a := 192) (c := 192 + r / 64) rfl rfl dc (by show _ < 256; omega) (orSh (a := 3) 6 (by omega)) (wrapN8 (by omega))).as (w8_nat (by omega))) (eE rfl (fE (Ev.conv (r := ((r % 256 : Nat) : Int)) T rfl rfl rfl (wrapM8 r)) (fE (Ev.andK (b := 63) (c := r % 64) rfl rfl (by show _ < 256; omega) dc (by rw [and63]; omega) (wrapN8 (by omega))) (fE ((Ev.orK (a := 128) (c := 128 + r % 64) rfl rfl dc (by show _ < 256; omega) (or128 r) (wrapN8 (by omega))).as (w8_nat (by omega))) (zN hZ ((Ops.lit T rfl rfl rfl dc rfl dc dc rfl rfl rfl rfl rfl (fun bq => (Ops.appLit [UInt8.ofNat (192 + r / 64), UInt8.ofNat (128 + r % 64)] (N := []) btB hB rfl dc rfl rfl rfl rfl rfl (by simp; omega) fun v1 M1 hB1 => (oP rfl (Ops.nil ?_)))))))))))))))))
  skip
  refine Run.ret1 (by rw [hCf]; exact func74) results74 rfl (hR _ _ _ ?_)
  rw [e]
  exact ⟨hB1, rfl⟩
 rw [decide_eq_false (show ¬ (r : Int) <= 2047 by omega)]
 repeat (first | refine rS ?_ | refine rF rfl ?_)
 refine rO (fun Z hZ => (eE rfl (fE (Ev.lss rfl rfl) (eE rfl (zN hZ ?_)))))
 by_cases c2 : r < 55296
 ·rw [decide_eq_true (show (r : Int) < 55296 by omega)]
  have e : encR (r : Int) = [UInt8.ofNat (224 + r / 4096), UInt8.ofNat (128 + r / 64 % 64), UInt8.ofNat (128 + r % 64)] := by rw [encR_good (.inl c2), if_neg (by omega), if_neg (by omega), if_pos (by omega)]
  repeat (first | refine rS ?_ | refine rK ?_ | refine rT rfl ?_)
  refine rP 14 (fun Z hZ => (eE rfl (eE rfl (fE (Ev.shrK rfl rfl dc dc (shrL r 12)) (fE (Ev.conv (r := ((r / 4096 : Nat) : Int)) T rfl rfl rfl (wrapN8 (by omega))) (fE ((Ev.orK (a := 224) (c := 224 + r / 4096) rfl rfl dc (by show _ < 256; omega) (orSh (a := 14) 4 (by omega)) (wrapN8 (by omega))).as (w8_nat (by omega))) (eE rfl (fE (Ev.shrK rfl rfl dc dc (shrL r 6)) (fE (Ev.conv (r := (((r / 64) % 256 : Nat) : Int)) T rfl rfl rfl (wrapM8 (r / 64))) (fE (Ev.andK (b := 63) (c := (r / 64) % 64) rfl rfl (by show _ < 256; omega) dc (by rw [and63]; omega) (wrapN8 (by omega))) (fE ((Ev.orK (a := 128) (c := 128 + (r / 64) % 64) rfl rfl dc (by show _ < 256; omega) (or128 (r / 64)) (wrapN8 (by omega))).as (w8_nat (by omega))) (eE rfl ?_))))))))))))
  refine fE (Ev.conv (r := (((r) % 256 : Nat) : Int)) T rfl rfl rfl (wrapM8 (r))) (fE (Ev.andK (b := 63) (c := (r) % 64) rfl rfl (by show _ < 256; omega) dc (by rw [and63]; omega) (wrapN8 (by omega))) (fE ((Ev.orK (a := 128) (c := 128 + (r) % 64) rfl rfl dc (by show _ < 256; omega) (or128 (r)) (wrapN8 (by omega))).as (w8_nat (by omega))) (zN hZ ((Ops.lit T rfl rfl rfl dc rfl dc dc rfl rfl rfl rfl rfl (fun bq => (Ops.appLit [UInt8.ofNat (224 + r / 4096), UInt8.ofNat (128 + r / 64 % 64), UInt8.ofNat (128 + r % 64)] (N := []) btB hB rfl dc rfl rfl rfl rfl rfl (by simp; omega) fun v1 M1 hB1 => (oP rfl (Ops.nil ?_)))))))))
  skip
  refine Run.ret1 (by rw [hCf]; exact func74) results74 rfl (hR _ _ _ ?_)
  rw [e]
  exact ⟨hB1, rfl⟩
 rw [decide_eq_false (show ¬ (r : Int) < 55296 by omega)]
 refine rF rfl ?_
 by_cases c3 : r <= 57343
 ·have e : encR (r : Int) = [239, 191, 189] := encR_bad (by
   cases h : Utf8.valid (r : Int) with
   | false => rfl
   | true => have := of_valid h; unfold goodR at this; omega)
  refine rO (fun Z hZ => (eE rfl (kF (Ev.lss rfl rfl) (by omega) (eE rfl (oF (oF (eE rfl (eE rfl (zN hZ ?_)))))))))
  repeat (first | refine rS ?_ | refine rF rfl ?_)
  refine rO (fun Z hZ => (eE rfl (kF (Ev.gtr rfl rfl) (by omega) (eE rfl (oF (oF (eE rfl (eE rfl (zN hZ ?_)))))))))
  repeat (first | refine rS ?_ | refine rF rfl ?_)
  refine rP 1 (fun Z hZ => (eE rfl (zN hZ ((Ops.lit T rfl rfl rfl dc rfl dc dc rfl rfl rfl rfl rfl (fun bq => (Ops.appLit [239, 191, 189] (N := []) btB hB rfl dc rfl rfl rfl rfl rfl (by simp; omega) fun v1 M1 hB1 => (oP rfl (Ops.nil ?_)))))))))
  skip
  refine Run.ret1 (by rw [hCf]; exact func74) results74 rfl (hR _ _ _ ?_)
  rw [e]
  exact ⟨hB1, rfl⟩
 by_cases c4 : r <= 65535
 ·have e : encR (r : Int) = [UInt8.ofNat (224 + r / 4096), UInt8.ofNat (128 + r / 64 % 64), UInt8.ofNat (128 + r % 64)] := by rw [encR_good (.inr (by omega)), if_neg (by omega), if_neg (by omega), if_pos (by omega)]
  refine rO (fun Z hZ => (eE rfl (kT (Ev.lss rfl rfl) (by omega) (eE rfl (eE rfl (kT (Ev.leq rfl rfl) (by omega) (eE rfl (eE rfl (zN hZ ?_)))))))))
  repeat (first | refine rS ?_ | refine rT rfl ?_)
  refine rP 14 (fun Z hZ => (eE rfl (eE rfl (fE (Ev.shrK rfl rfl dc dc (shrL r 12)) (fE (Ev.conv (r := ((r / 4096 : Nat) : Int)) T rfl rfl rfl (wrapN8 (by omega))) (fE ((Ev.orK (a := 224) (c := 224 + r / 4096) rfl rfl dc (by show _ < 256; omega) (orSh (a := 14) 4 (by omega)) (wrapN8 (by omega))).as (w8_nat (by omega))) (eE rfl (fE (Ev.shrK rfl rfl dc dc (shrL r 6)) (fE (Ev.conv (r := (((r / 64) % 256 : Nat) : Int)) T rfl rfl rfl (wrapM8 (r / 64))) (fE (Ev.andK (b := 63) (c := (r / 64) % 64) rfl rfl (by show _ < 256; omega) dc (by rw [and63]; omega) (wrapN8 (by omega))) (fE ((Ev.orK (a := 128) (c := 128 + (r / 64) % 64) rfl rfl dc (by show _ < 256; omega) (or128 (r / 64)) (wrapN8 (by omega))).as (w8_nat (by omega))) (eE rfl ?_))))))))))))
  refine fE (Ev.conv (r := (((r) % 256 : Nat) : Int)) T rfl rfl rfl (wrapM8 (r))) (fE (Ev.andK (b := 63) (c := (r) % 64) rfl rfl (by show _ < 256; omega) dc (by rw [and63]; omega) (wrapN8 (by omega))) (fE ((Ev.orK (a := 128) (c := 128 + (r) % 64) rfl rfl dc (by show _ < 256; omega) (or128 (r)) (wrapN8 (by omega))).as (w8_nat (by omega))) (zN hZ ((Ops.lit T rfl rfl rfl dc rfl dc dc rfl rfl rfl rfl rfl (fun bq => (Ops.appLit [UInt8.ofNat (224 + r / 4096), UInt8.ofNat (128 + r / 64 % 64), UInt8.ofNat (128 + r % 64)] (N := []) btB hB rfl dc rfl rfl rfl rfl rfl (by simp; omega) fun v1 M1 hB1 => (oP rfl (Ops.nil ?_)))))))))
  skip
  refine Run.ret1 (by rw [hCf]; exact func74) results74 rfl (hR _ _ _ ?_)
  rw [e]
  exact ⟨hB1, rfl⟩
 ·have e : encR (r : Int) = [UInt8.ofNat (240 + r / 262144), UInt8.ofNat (128 + r / 4096 % 64), UInt8.ofNat (128 + r / 64 % 64), UInt8.ofNat (128 + r % 64)] := by rw [encR_good (.inr (by omega)), if_neg (by omega), if_neg (by omega), if_neg (by omega)]
  refine rO (fun Z hZ => (eE rfl (kT (Ev.lss rfl rfl) (by omega) (eE rfl (eE rfl (kF (Ev.leq rfl rfl) (by omega) (eE rfl (eE rfl (zN hZ ?_)))))))))
  repeat (first | refine rS ?_ | refine rF rfl ?_)
  refine rO (fun Z hZ => (eE rfl (kT (Ev.gtr rfl rfl) (by omega) (eE rfl (eE rfl (kT (Ev.leq rfl rfl) (by omega) (eE rfl (eE rfl (zN hZ ?_)))))))))
  repeat (first | refine rS ?_ | refine rT rfl ?_)
  refine rP 19 (fun Z hZ => (eE rfl (eE rfl (fE (Ev.shrK rfl rfl dc dc (shrL r 18)) (fE (Ev.conv (r := ((r / 262144 : Nat) : Int)) T rfl rfl rfl (wrapN8 (by omega))) (fE ((Ev.orK (a := 240) (c := 240 + r / 262144) rfl rfl dc (by show _ < 256; omega) (orSh (a := 30) 3 (by omega)) (wrapN8 (by omega))).as (w8_nat (by omega))) (eE rfl (fE (Ev.shrK rfl rfl dc dc (shrL r 12)) (fE (Ev.conv (r := (((r / 4096) % 256 : Nat) : Int)) T rfl rfl rfl (wrapM8 (r / 4096))) (fE (Ev.andK (b := 63) (c := (r / 4096) % 64) rfl rfl (by show _ < 256; omega) dc (by rw [and63]; omega) (wrapN8 (by omega))) (fE ((Ev.orK (a := 128) (c := 128 + (r / 4096) % 64) rfl rfl dc (by show _ < 256; omega) (or128 (r / 4096)) (wrapN8 (by omega))).as (w8_nat (by omega))) (eE rfl (fE (Ev.shrK rfl rfl dc dc (shrL r 6)) ?_)))))))))))))
  refine fE (Ev.conv (r := (((r / 64) % 256 : Nat) : Int)) T rfl rfl rfl (wrapM8 (r / 64))) (fE (Ev.andK (b := 63) (c := (r / 64) % 64) rfl rfl (by show _ < 256; omega) dc (by rw [and63]; omega) (wrapN8 (by omega))) (fE ((Ev.orK (a := 128) (c := 128 + (r / 64) % 64) rfl rfl dc (by show _ < 256; omega) (or128 (r / 64)) (wrapN8 (by omega))).as (w8_nat (by omega))) (eE rfl (fE (Ev.conv (r := (((r) % 256 : Nat) : Int)) T rfl rfl rfl (wrapM8 (r))) (fE (Ev.andK (b := 63) (c := (r) % 64) rfl rfl (by show _ < 256; omega) dc (by rw [and63]; omega) (wrapN8 (by omega))) (fE ((Ev.orK (a := 128) (c := 128 + (r) % 64) rfl rfl dc (by show _ < 256; omega) (or128 (r)) (wrapN8 (by omega))).as (w8_nat (by omega))) (zN hZ ((Ops.lit T rfl rfl rfl dc rfl dc dc rfl rfl rfl rfl rfl (fun bq => ?_))))))))))
  refine Ops.appLit [UInt8.ofNat (240 + r / 262144), UInt8.ofNat (128 + r / 4096 % 64), UInt8.ofNat (128 + r / 64 % 64), UInt8.ofNat (128 + r % 64)] (N := []) btB hB rfl dc rfl rfl rfl rfl rfl (by simp; omega) fun v1 M1 hB1 => (oP rfl (Ops.nil ?_))
  skip
  refine Run.ret1 (by rw [hCf]; exact func74) results74 rfl (hR _ _ _ ?_)
  rw [e]
  exact ⟨hB1, rfl⟩
theorem utf8_Append (I : Imm) (v : Value) (xs : List UInt8) (r : Nat) (M : Own) (hB : Buf 5 v xs M) (hx : xs.length <= 1099511627776) (h1 : r <= 1114111) :
  Spec prog 70 [v, .int .i32 (r : Int)] I M fun w J M' => Buf 5 w (xs ++ encR (r : Int)) M' /\ J = I := by
 refine Spec.enter 16 [(0, _), (1, _)] func70 rfl ntmps70 (by simp) rfl ?_
 intro C hCf hR hCI
 refine rS ?_
 refine rO (fun Z hZ => (eE rfl (zN hZ ?_)))
 repeat refine rS ?_
 refine rO (fun Z hZ => (eE rfl (fE (Ev.conv (a := (r : Int)) (r := (r : Int)) T rfl rfl rfl (wrapU32 (by omega))) (fE (Ev.leq rfl rfl) (zN hZ ?_)))))
 by_cases h : r <= 127
 ·rw [decide_eq_true (show (r : Int) <= 127 by omega)]
  have e : encR (r : Int) = [UInt8.ofNat r] := by rw [encR_ascii _ (by omega) (by omega)]; simp
  repeat (first | refine rS ?_ | refine rT rfl ?_)
  refine rP 3 (fun Z hZ => (eE rfl (eE rfl (fE ((Ev.conv (a := (r : Int)) (r := (r : Int)) T rfl rfl rfl (wrapN8 (by omega))).as (w8_nat (by omega))) (zN hZ ((Ops.lit T rfl rfl rfl dc rfl dc dc rfl rfl rfl rfl rfl (fun bq => (Ops.appLit [UInt8.ofNat r] (N := []) btB hB rfl dc rfl rfl rfl rfl rfl (by simp; omega) fun v1 M1 hB1 => (oP rfl (Ops.nil ?_)))))))))))
  skip
  refine Run.ret1 (by rw [hCf]; exact func70) results70 rfl (hR _ _ _ ?_)
  rw [e]
  exact ⟨hB1, rfl⟩
 ·rw [decide_eq_false (show ¬ (r : Int) <= 127 by omega)]
  repeat (first | refine rS ?_ | refine rK ?_ | refine rF rfl ?_)
  refine rP 2 (fun Z hZ => (eE rfl (eE rfl (zN hZ ((Ops.callP (N := []) ((utf8_appendNon I v xs r M hB hx (by omega) h1)) (.refl _) rfl dc call74 rfl ?_))))))
  rintro v1 J1 M1 l1 ⟨hB1, rfl⟩
  refine oP rfl (Ops.nil ?_)
  skip
  refine Run.ret1 (by rw [hCf]; exact func70) results70 rfl (hR _ _ _ ?_)
  exact ⟨hB1, rfl⟩
end Go.V
