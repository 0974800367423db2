import Derived.Test.YteppnkblebknnaaDoorTM16
import Derived.Test.YteppnkblebknnaaDoorTM4
import Derived.Test.YteppnkblebknnaaDoorTM3
import Derived.Lib.LaidU8T
/-
  What was written is read as what it was.
-/
namespace Go.V
open Go.RowKit
set_option linter.unusedVariables false
set_option linter.unusedSimpArgs false
set_option maxRecDepth 10000
def pq (v : List Nat) : Bool := (34 :: v.flatMap quo1 ++ [34]).all fun b => !(b == 92)
def omM (kb : Bs) (v : List Nat) : List (Bs × JV) := if v = [] then [] else [(kb, .mk 34 (pq v) (encs v) [] [])]
theorem quo_cons (v : List Nat) (r : Bs) : quo v ++ r = 34 :: (v.flatMap quo1 ++ 34 :: r) := by unfold quo; simp
theorem memb_read (f : Nat) {kb : Bs} (hk : ∀ c ∈ kb, c.toNat < 128) {v : List Nat} (hv : ∀ r ∈ v, goodR r) : MReads f (quo (ascR kb) ++ 58 :: quo v) (kb, .mk 34 (pq v) (encs v) [] []) := by
  refine ⟨[], by simp, fun r _ => ⟨quo v ++ r, ?_, ?_⟩⟩
  · rw [List.append_assoc, quo_cons]
    unfold keyR
    rw [skip_no (by decide)]
    simp only [if_true]
    rw [quo_read (good_asc hk), encs_asc hk]
    simp only [List.cons_append]
    rw [skip_no (by decide)]
    simp only [if_true]
  · rw [quo_cons]
    have := rdV_str f (quo_read hv r)
    simpa [pq] using this
theorem omem_reads (f : Nat) {kb : Bs} (hk : ∀ c ∈ kb, c.toNat < 128) {v : List Nat} (hv : ∀ r ∈ v, goodR r) : All2 (MReads f) (omem (ascR kb) v) (omM kb v) := by
  unfold omem omM
  split
  · exact .nil
  · exact .cons (memb_read f hk hv) .nil
def Ru.ms (x : Ru) : List (Bs × JV) := omM uK x.u ++ omM pK x.p ++ omM aK x.a ++ omM iK x.i ++ omM rK x.r
theorem Ru.reads {x : Ru} (hx : x.Good) (f : Nat) : All2 (MReads f) x.mems x.ms :=
  ((((omem_reads f (by decide) hx.u).append (omem_reads f (by decide) hx.p)).append (omem_reads f (by decide) hx.a)).append (omem_reads f (by decide) hx.i)).append (omem_reads f (by decide) hx.r)
theorem Ru.read {x : Ru} (hx : x.Good) : rdV 10000 x.text = some (.mk 123 false [] (x.ms.map Prod.snd) (x.ms.map Prod.fst), []) := by
  have := obj_read (x.reads hx 9999) (b := []) (by simp) []
  simpa [Ru.text] using this
theorem field0 : fieldR uK auNames = 0 := by decide
theorem field1 : fieldR pK auNames = 1 := by decide
theorem field2 : fieldR aK auNames = 2 := by decide
theorem field3 : fieldR iK auNames = 3 := by decide
theorem field4 : fieldR rK auNames = 4 := by decide
theorem takes_append (b : Au) (l m : List (Bs × JV)) : b.takes (l ++ m) = (b.takes l).takes m := by unfold Au.takes; rw [List.foldl_append]
theorem omM_takes (b : Au) (kb : Bs) (v : List Nat) (k : Int) (hf : fieldR kb auNames = k) (hb : b.put k [] = b) : b.takes (omM kb v) = b.put k (encs v) := by
  unfold omM
  split
  · rename_i h; subst h; exact hb.symm
  · unfold Au.takes
    simp only [List.foldl_cons, List.foldl_nil, hf]
    rfl
theorem Ru.takes (x : Ru) : Au.zero.takes x.ms = x.au := by
  unfold Ru.ms
  rw [takes_append, takes_append, takes_append, takes_append]
  rw [omM_takes _ _ _ 0 field0 rfl, omM_takes _ _ _ 1 field1 rfl, omM_takes _ _ _ 2 field2 rfl, omM_takes _ _ _ 3 field3 rfl, omM_takes _ _ _ 4 field4 rfl]
  rfl
theorem omM_ok {kb : Bs} {v : List Nat} {k : Int} (hf : fieldR kb auNames = k) (h : k = 0 ∨ k = 1 ∨ k = 2 ∨ k = 3 ∨ k = 4) (hl : kb.length ≤ 137438953472) : ∀ m ∈ omM kb v, AuOk m := by
  intro m hm
  unfold omM at hm
  split at hm
  · cases hm
  · obtain rfl := List.mem_singleton.1 hm
    exact ⟨hl, by rw [show fieldR (kb, JV.mk 34 (pq v) (encs v) [] []).1 auNames = k from hf]; omega, fun _ => rfl⟩
theorem Ru.ok (x : Ru) : ∀ m ∈ x.ms, AuOk m := by
  intro m hm
  unfold Ru.ms at hm
  simp only [List.mem_append] at hm
  rcases hm with (((h | h) | h) | h) | h
  · exact omM_ok field0 (by decide) (by decide) m h
  · exact omM_ok field1 (by decide) (by decide) m h
  · exact omM_ok field2 (by decide) (by decide) m h
  · exact omM_ok field3 (by decide) (by decide) m h
  · exact omM_ok field4 (by decide) (by decide) m h
end Go.V
/-
  What one says to a registry does not hang on its members' order.
-/
namespace Go.V
open Go.RowKit
set_option linter.unusedVariables false
set_option linter.unusedSimpArgs false
set_option maxRecDepth 10000
theorem put_comm (a : Au) (k l : Int) (s t : Bs) (h : k ≠ l) : (a.put k s).put l t = (a.put l t).put k s := by
  have hk : k = 0 ∨ k = 1 ∨ k = 2 ∨ k = 3 ∨ k = 4 ∨ (k ≠ 0 ∧ k ≠ 1 ∧ k ≠ 2 ∧ k ≠ 3 ∧ k ≠ 4) := by omega
  have hl : l = 0 ∨ l = 1 ∨ l = 2 ∨ l = 3 ∨ l = 4 ∨ (l ≠ 0 ∧ l ≠ 1 ∧ l ≠ 2 ∧ l ≠ 3 ∧ l ≠ 4) := by omega
  rcases hk with rfl | rfl | rfl | rfl | rfl | ⟨k0, k1, k2, k3, k4⟩ <;> rcases hl with rfl | rfl | rfl | rfl | rfl | ⟨l0, l1, l2, l3, l4⟩ <;> first | rfl | exact absurd rfl h | simp_all [Au.put]
theorem takes_perm (a : Au) {l m : List (Bs × JV)} (hp : l.Perm m) (h : ∀ x ∈ l, ∀ y ∈ l, fieldR x.1 auNames = fieldR y.1 auNames → x.2.text = y.2.text) : a.takes l = a.takes m := by
  unfold Au.takes
  refine hp.foldl_eq' (fun x hx y hy z => ?_) a
  by_cases e : fieldR x.1 auNames = fieldR y.1 auNames
  · rw [e, h x hx y hy e]
  · exact put_comm _ _ _ _ _ e
theorem field_unk : fieldR unkM.1 auNames = -1 := by decide
theorem takes_unk (a : Au) (l : List (Bs × JV)) : a.takes (l ++ [unkM]) = a.takes l := by
  rw [takes_append]
  unfold Au.takes
  simp only [List.foldl_cons, List.foldl_nil, field_unk]
  rfl
end Go.V
/-
  The document's text of a name and a password is read as what it was.
-/
namespace Go.V
open Go.RowKit
set_option linter.unusedVariables false
set_option linter.unusedSimpArgs false
set_option maxRecDepth 10000
/-- names and texts by turns -/
def prJ (l : List (Bs × Bs)) : List Js := l.flatMap fun q => [txJ q.1, txJ q.2]
theorem membs_pr (fixed : Bool) : ∀ (l : List (Bs × Bs)) (base : List (Bs × JV)), Membs (Rep 1) fixed (prJ l) base → base.map (fun m => (m.1, m.2.text)) = l ∧ ∀ m ∈ base, m.2.kind = 34
  | [], base, h => by
    cases base with
    | nil => exact ⟨rfl, by simp⟩
    | cons m ms => exact h.elim
  | q :: l, base, h => by
    cases base with
    | nil => exact h.elim
    | cons m ms =>
      obtain ⟨h1, h2, h3⟩ := h
      obtain ⟨k1, k2⟩ := membs_pr fixed l ms h3
      unfold Rep at h2
      rw [if_pos (show (txJ q.2).kind = 115 from rfl)] at h2
      obtain ⟨p, h2⟩ := h2
      refine ⟨?_, ?_⟩
      · rw [List.map_cons, k1, ← h1, h2]; rfl
      · intro x hx
        rcases List.mem_cons.1 hx with rfl | hx
        · rw [h2]; rfl
        · exact k2 x hx
def auP (u p i r : Bs) (joined : Bool) : List (Bs × Bs) := (if joined then [(aK, b64 (jn u p))] else [(uK, u), (pK, p)]) ++ (if i = [] then [] else [(iK, i)]) ++ (if r = [] then [] else [(rK, r)])
theorem auJ_pr (u p i r : Bs) (joined : Bool) : (auJ u p i r joined).kids = prJ (auP u p i r joined) := by
  show auK u p joined ++ opJ iK i ++ opJ rK r = _
  unfold auK opJ auP prJ
  cases joined <;> (repeat' split) <;> simp
theorem auP_mem {u p i r : Bs} {joined : Bool} {x : Bs × Bs} (hx : x ∈ auP u p i r joined) : x = (aK, b64 (jn u p)) ∨ x = (uK, u) ∨ x = (pK, p) ∨ x = (iK, i) ∨ x = (rK, r) := by
  unfold auP at hx
  rcases List.mem_append.1 hx with hx | hx
  · rcases List.mem_append.1 hx with hx | hx
    · cases joined with
      | true => exact .inl (by simpa using hx)
      | false =>
        have : x = (uK, u) ∨ x = (pK, p) := by simpa using hx
        rcases this with h | h
        · exact .inr (.inl h)
        · exact .inr (.inr (.inl h))
    · split at hx
      · cases hx
      · exact .inr (.inr (.inr (.inl (by simpa using hx))))
  · split at hx
    · cases hx
    · exact .inr (.inr (.inr (.inr (by simpa using hx))))
theorem auP_inj {u p i r : Bs} {joined : Bool} {x y : Bs × Bs} (hx : x ∈ auP u p i r joined) (hy : y ∈ auP u p i r joined) (he : fieldR x.1 auNames = fieldR y.1 auNames) : x = y := by
  rcases auP_mem hx with rfl | rfl | rfl | rfl | rfl <;> rcases auP_mem hy with rfl | rfl | rfl | rfl | rfl <;> first | rfl | (simp only [field0, field1, field2, field3, field4] at he; exact absurd he (by decide))
theorem takes_map : ∀ (l : List (Bs × JV)) (a : Au), a.takes l = (l.map fun m => (m.1, m.2.text)).foldl (fun a q => a.put (fieldR q.1 auNames) q.2) a
  | [], a => rfl
  | m :: l, a => takes_map l (a.put (fieldR m.1 auNames) m.2.text)
theorem au_read (u p i r : Bs) (joined : Bool) (ws : Bs) (hF : Fine 2 (auJ u p i r joined)) : ∃ v ms t, rdV 10000 (wval 2 (auJ u p i r joined) true ws).1 = some (v, t) ∧ skipB t = [] ∧ v.kind = 123 ∧ v.keys = ms.map Prod.fst ∧ v.kids = ms.map Prod.snd ∧ ms.length ≤ 1000 ∧ (∀ m ∈ ms, AuOk m) ∧
    Au.zero.takes ms = (auP u p i r joined).foldl (fun a q => a.put (fieldR q.1 auNames) q.2) Au.zero := by
  obtain ⟨v, hrep, a, b, hb, e, hr⟩ := wval_reads 2 (auJ u p i r joined) true ws 10000 hF (by decide)
  have hr := hr [] (.inr (.inr (.inl rfl)))
  rw [List.append_nil, List.append_nil] at hr
  have hsk : skipB b = [] := by have := skip_bl hb []; rw [List.append_nil] at this; rw [this]; rfl
  unfold Rep at hrep
  rw [if_neg (show (auJ u p i r joined).kind ≠ 115 from (by decide : (111 : UInt8) ≠ 115)), if_neg (show (auJ u p i r joined).kind ≠ 108 from (by decide : (111 : UInt8) ≠ 108)), if_pos (show (auJ u p i r joined).kind = 111 from rfl)] at hrep
  obtain ⟨base, ms, rfl, hM, hp⟩ := hrep
  rw [auJ_pr] at hM
  obtain ⟨k1, k2⟩ := membs_pr true _ base hM
  have hmem : ∀ m ∈ base, (m.1, m.2.text) ∈ auP u p i r joined := fun m hm => by rw [← k1]; exact List.mem_map_of_mem hm
  have hbl : base.length ≤ 4 := by
    have := congrArg List.length k1
    rw [List.length_map] at this
    rw [this]; unfold auP
    cases joined <;> (repeat' split) <;> simp
  have hok : ∀ m ∈ base, AuOk m := fun m hm => by
    have hk := k2 m hm
    have hx := auP_mem (hmem m hm)
    have hc : m.1 = aK ∨ m.1 = uK ∨ m.1 = pK ∨ m.1 = iK ∨ m.1 = rK := by
      rcases hx with h | h | h | h | h
      · exact .inl (congrArg Prod.fst h)
      · exact .inr (.inl (congrArg Prod.fst h))
      · exact .inr (.inr (.inl (congrArg Prod.fst h)))
      · exact .inr (.inr (.inr (.inl (congrArg Prod.fst h))))
      · exact .inr (.inr (.inr (.inr (congrArg Prod.fst h))))
    unfold AuOk
    rcases hc with h | h | h | h | h <;> rw [h] <;> exact ⟨by decide, by decide, fun _ => hk⟩
  have hunk : AuOk unkM := ⟨by decide, by decide, fun h => absurd field_unk h⟩
  simp only [if_true] at hp
  refine ⟨_, ms, b, hr, hsk, rfl, rfl, rfl, ?_⟩
  rcases hp with hp | hp
  · refine ⟨by rw [← hp.length_eq]; omega, fun m hm => hok m (hp.symm.subset hm), ?_⟩
    rw [← takes_perm _ hp fun x hx y hy he => congrArg Prod.snd (auP_inj (hmem x hx) (hmem y hy) he), takes_map, k1]
  · refine ⟨by rw [← hp.length_eq, List.length_append]; simp; omega, fun m hm => ?_, ?_⟩
    · rcases List.mem_append.1 (hp.symm.subset hm) with h | h
      · exact hok m h
      · rw [List.mem_singleton.1 h]; exact hunk
    · have hfn : ∀ m ∈ base, fieldR m.1 auNames ≠ fieldR unkM.1 auNames := fun m hm => by
        rw [field_unk]
        have hx := auP_mem (hmem m hm)
        rcases hx with h | h | h | h | h <;> (have h' := congrArg Prod.fst h; simp only at h'; rw [h']; decide)
      have hd : ∀ x ∈ base ++ [unkM], ∀ y ∈ base ++ [unkM], fieldR x.1 auNames = fieldR y.1 auNames → x.2.text = y.2.text := by
        intro x hx y hy he
        rcases List.mem_append.1 hx with hx | hx <;> rcases List.mem_append.1 hy with hy | hy
        · exact congrArg Prod.snd (auP_inj (hmem x hx) (hmem y hy) he)
        · rw [List.mem_singleton.1 hy] at he; exact absurd he (hfn x hx)
        · rw [List.mem_singleton.1 hx] at he; exact absurd he.symm (hfn y hy)
        · rw [List.mem_singleton.1 hx, List.mem_singleton.1 hy]
      rw [← takes_perm _ hp hd, takes_unk, takes_map, k1]
end Go.V
/-
  The document's text of a name and a password is not long.
-/
namespace Go.V
set_option linter.unusedVariables false
set_option linter.unusedSimpArgs false
set_option maxRecDepth 10000
theorem blk5_len (w : Bs) : (blk5 w).1.length ≤ 3 := by
  have h : ∀ b ∈ blks, b.length ≤ 3 := by decide
  unfold blk5
  rw [List.getD_eq_getElem?_getD]
  cases hk : blks[(tk 5 w).1]? with
  | none => simp
  | some b => exact h b (List.mem_of_getElem? hk)
theorem wquo_len {s : Bs} (h : GoodT s) (w : Bs) : (wquo s w).1.length ≤ 12 * s.length + 2 := by
  obtain ⟨rs, rfl, hg⟩ := h
  have h1 := wtext_len rs w hg
  have h2 := encs_len_ge rs
  unfold wquo
  rw [runesOf_encs hg]
  simp only [List.length_append, List.length_cons, List.length_nil]; omega
theorem joinC_le (N : Nat) : ∀ l : List Bs, (∀ x ∈ l, x.length ≤ N) → (joinC l).length ≤ l.length * (N + 1)
  | [], _ => by simp [joinC]
  | t :: r, h => by
    have h1 := joinC_le N r fun x hx => h x (by simp [hx])
    have h2 := h t (by simp)
    rw [joinC_cons, List.length_cons, Nat.add_mul]
    split
    · omega
    · rw [List.length_append, List.length_cons]; omega
theorem wv1_len {s : Bs} (h : GoodT s) (fx : Bool) (w : Bs) : (wval 1 (txJ s) fx w).1.length ≤ 12 * s.length + 8 := by
  have h1 := blk5_len w
  have h2 := wquo_len h (blk5 w).2
  have h3 := blk5_len (wquo s (blk5 w).2).2
  unfold wval
  rw [if_pos (show (txJ s).kind = 115 from rfl)]
  show ((blk5 w).1 ++ (wquo s (blk5 w).2).1 ++ (blk5 (wquo s (blk5 w).2).2).1).length ≤ _
  simp only [List.length_append]; omega
theorem wpairs_le (N : Nat) (fixed : Bool) : ∀ (l : List (Bs × Bs)) (w : Bs), (∀ q ∈ l, GoodT q.1 ∧ GoodT q.2 ∧ 12 * (q.1.length + q.2.length) + 20 ≤ N) → (wpairs (wval 1) fixed (prJ l) w).1.length = l.length ∧ ∀ x ∈ (wpairs (wval 1) fixed (prJ l) w).1, x.length ≤ N
  | [], w, _ => ⟨rfl, by intro x hx; cases hx⟩
  | q :: l, w, h => by
    obtain ⟨g1, g2, g3⟩ := h q (by simp)
    obtain ⟨k1, k2⟩ := wpairs_le N fixed l (wmem (wval 1) fixed (txJ q.1) (txJ q.2) w).2 fun x hx => h x (by simp [hx])
    have hm : (wmem (wval 1) fixed (txJ q.1) (txJ q.2) w).1.length ≤ N := by
      have h1 := blk5_len w
      have h2 := wquo_len g1 (blk5 w).2
      have h3 := blk5_len (wquo q.1 (blk5 w).2).2
      have h4 := wv1_len g2 (fixed && !(fixed && freeN q.1)) (blk5 (wquo q.1 (blk5 w).2).2).2
      show ((blk5 w).1 ++ (wquo q.1 (blk5 w).2).1 ++ (blk5 (wquo q.1 (blk5 w).2).2).1 ++ [58] ++ (wval 1 (txJ q.2) (fixed && !(fixed && freeN q.1)) (blk5 (wquo q.1 (blk5 w).2).2).2).1).length ≤ N
      simp only [List.length_append, List.length_cons, List.length_nil]; omega
    have e : wpairs (wval 1) fixed (prJ (q :: l)) w = ((wmem (wval 1) fixed (txJ q.1) (txJ q.2) w).1 :: (wpairs (wval 1) fixed (prJ l) (wmem (wval 1) fixed (txJ q.1) (txJ q.2) w).2).1, (wpairs (wval 1) fixed (prJ l) (wmem (wval 1) fixed (txJ q.1) (txJ q.2) w).2).2) := rfl
    rw [e]
    refine ⟨by simp only [List.length_cons]; omega, fun x hx => ?_⟩
    rcases List.mem_cons.1 hx with rfl | hx
    · exact hm
    · exact k2 x hx
theorem fineM_pr : ∀ l : List (Bs × Bs), (∀ q ∈ l, GoodT q.1 ∧ GoodT q.2) → FineM (Fine 1) (prJ l)
  | [], _ => trivial
  | q :: l, h => by
    refine ⟨(h q (by simp)).1, ?_, fineM_pr l fun x hx => h x (by simp [hx])⟩
    show Fine 1 (txJ q.2)
    unfold Fine
    rw [if_pos (show (txJ q.2).kind = 115 from rfl)]
    exact (h q (by simp)).2
theorem au_fine (u p i r : Bs) (joined : Bool) (h : ∀ q ∈ auP u p i r joined, GoodT q.1 ∧ GoodT q.2) : Fine 2 (auJ u p i r joined) := by
  unfold Fine
  rw [if_neg (show (auJ u p i r joined).kind ≠ 115 from (by decide : (111 : UInt8) ≠ 115)), if_neg (show (auJ u p i r joined).kind ≠ 108 from (by decide : (111 : UInt8) ≠ 108)), if_pos (show (auJ u p i r joined).kind = 111 from rfl), auJ_pr]
  exact fineM_pr _ h
theorem au_len (u p i r : Bs) (joined : Bool) (w : Bs) (N : Nat) (hN : 100 ≤ N) (hN2 : N ≤ 1000000) (h : ∀ q ∈ auP u p i r joined, GoodT q.1 ∧ GoodT q.2 ∧ 12 * (q.1.length + q.2.length) + 20 ≤ N) (hl : (auP u p i r joined).length ≤ 4) : (wval 2 (auJ u p i r joined) true w).1.length ≤ 34359738368 := by
  have h1 := blk5_len w
  obtain ⟨k1, k2⟩ := wpairs_le N true (auP u p i r joined) (blk5 w).2 h
  have hq : ∀ q : List Bs × Bs, q = wfix true (wpairs (wval 1) true (prJ (auP u p i r joined)) (blk5 w).2).1 (wpairs (wval 1) true (prJ (auP u p i r joined)) (blk5 w).2).2 → q.1.length ≤ 5 ∧ ∀ x ∈ q.1, x.length ≤ N := by
    rintro q rfl
    unfold wfix
    simp only [if_true]
    split
    · have hp := shuf_perm (((wpairs (wval 1) true (prJ (auP u p i r joined)) (blk5 w).2).1 ++ [unkT]).length - 1) ((wpairs (wval 1) true (prJ (auP u p i r joined)) (blk5 w).2).1 ++ [unkT]) (tk 4 (wpairs (wval 1) true (prJ (auP u p i r joined)) (blk5 w).2).2).2
      refine ⟨by rw [← hp.length_eq, List.length_append, k1]; simp; omega, fun x hx => ?_⟩
      rcases List.mem_append.1 (hp.symm.subset hx) with hx | hx
      · exact k2 x hx
      · rw [List.mem_singleton.1 hx]; exact Nat.le_trans (by decide) hN
    · have hp := shuf_perm ((wpairs (wval 1) true (prJ (auP u p i r joined)) (blk5 w).2).1.length - 1) (wpairs (wval 1) true (prJ (auP u p i r joined)) (blk5 w).2).1 (tk 4 (wpairs (wval 1) true (prJ (auP u p i r joined)) (blk5 w).2).2).2
      exact ⟨by rw [← hp.length_eq, k1]; omega, fun x hx => k2 x (hp.symm.subset hx)⟩
  obtain ⟨q, hqe⟩ : ∃ q, q = wfix true (wpairs (wval 1) true (prJ (auP u p i r joined)) (blk5 w).2).1 (wpairs (wval 1) true (prJ (auP u p i r joined)) (blk5 w).2).2 := ⟨_, rfl⟩
  obtain ⟨m1, m2⟩ := hq q hqe
  have hj := joinC_le N q.1 m2
  have h2 := blk5_len q.2
  have h3 := blk5_len (blk5 q.2).2
  have hm : q.1.length * (N + 1) ≤ 5 * (N + 1) := Nat.mul_le_mul_right _ m1
  unfold wval
  rw [if_neg (show (auJ u p i r joined).kind ≠ 115 from (by decide : (111 : UInt8) ≠ 115)), if_neg (show (auJ u p i r joined).kind ≠ 108 from (by decide : (111 : UInt8) ≠ 108)), if_pos (show (auJ u p i r joined).kind = 111 from rfl), auJ_pr]
  simp only
  rw [← hqe]
  simp only [List.length_append, List.length_cons, List.length_nil]; omega
end Go.V
/-
  What the members of the document's text give.
-/
namespace Go.V
set_option linter.unusedVariables false
set_option linter.unusedSimpArgs false
set_option maxRecDepth 10000
theorem au_fold (u p i r : Bs) (joined : Bool) : (auP u p i r joined).foldl (fun a q => a.put (fieldR q.1 auNames) q.2) Au.zero = if joined then ⟨[], [], b64 (jn u p), i, r⟩ else ⟨u, p, [], i, r⟩ := by
  unfold auP
  cases joined <;> by_cases hi : i = [] <;> by_cases hr : r = [] <;> simp [hi, hr, field0, field1, field2, field3, field4, Au.put, Au.zero]
end Go.V
/-
  The two tables of unicode/utf8, off what a row lists.
-/
namespace Go.V
open Go.RowKit Go.ChangeShapes Go.Proofs
set_option linter.unusedVariables false
set_option maxRecDepth 100000
theorem at_cell {W : World} {b off : Nat} {v : Value} (h : W.cell? ⟨b, off, none⟩ = some v) : At (whole W) b off [v] :=
  (at_whole (a := ⟨b, off, none⟩) (by simp) (fun j u hj => by
    cases j with
    | zero => simp at hj; subst hj; simpa [Addr.add] using h
    | succ j => simp at hj)).2
theorem u8extra : U8Extra Proofs.Tryd.prog ren196 := ⟨by kernel_rfl, by kernel_rfl, by kernel_rfl, by kernel_rfl, by kernel_rfl, by kernel_rfl, by kernel_rfl⟩
theorem UT.ofLaid {W : World} {l : List (String × DataW Unit)} (h : laidMetH Proofs.Tryd.prog l W) (hp : (l.all fun x => x.2.handleName?.isNone) = true)
    (h1 : ("unicode/utf8.first", Lib.firstData) ∈ l) (h2 : ("unicode/utf8.acceptRanges", Lib.acceptData) ∈ l) : UT (whole W) := by
  rw [MakeChecks.laidMetH_plain _ _ _ hp] at h
  have hT : Lib.Utf8Tabs 0 1 W := utf8Tabs_of_readsT (ρ := ren196) (U8Types.of196 lays196) u8extra (Lib.laidMet.reads h h1) (Lib.laidMet.reads h h2)
  exact ⟨fun c hc => at_cell (hT.1 c hc), fun i hi => ⟨at_cell (hT.2 i hi).1, at_cell (hT.2 i hi).2⟩⟩
end Go.V
/-
  The law of what is written and read back: it returns true.
-/
namespace Go.V
open Go.RowKit
set_option linter.unusedVariables false
set_option linter.unusedSimpArgs false
set_option maxRecDepth 10000
attribute [local irreducible] Run Ops QD
abbrev cdAuth : Cd := .st (.pair .str (.pair .str (.pair .str (.pair .str .str))))
def auOf (x : cdAuth.ty) : Au := let y : Bs × Bs × Bs × Bs × Bs := x; ⟨y.1, y.2.1, y.2.2.1, y.2.2.2.1, y.2.2.2.2⟩
theorem Val.auth {I : Imm} {v : Value} {x : cdAuth.ty} (h : Val cdAuth I v x) : v = .agg (auOf x).cs.toArray := by
  obtain ⟨cs, rfl, h⟩ := h
  obtain ⟨c1, c2, rfl, rfl, c3, c4, rfl, rfl, c5, c6, rfl, rfl, c7, c8, rfl, rfl, rfl⟩ := h
  rfl
theorem plainA.asc {s : Bs} (h : plainA s) : ∀ c ∈ s, c.toNat < 128 := fun c hc => by have := (h.2 c hc).2; omega
theorem goodS.runes {s : Bs} (h : goodS s) : ∃ rs, Runes s rs ∧ rs.length ≤ 4000 := by
  obtain ⟨rs, h1⟩ := runes_of_valid h.1
  refine ⟨rs, h1, ?_⟩
  have := encs_len_ge rs
  rw [← h1.1] at this
  have := h.2
  omega
end Go.V
/-
  What FnAuthRead's names and texts are, and what is made of what was read.
-/
namespace Go.V
set_option linter.unusedVariables false
set_option linter.unusedSimpArgs false
set_option maxRecDepth 10000
theorem au_fin (u p i r : Bs) (joined : Bool) (hu : u ≠ []) (hp : p ≠ []) (h58 : (58 : UInt8) ∉ u) (hl : (jn u p).length ≤ 137438953472) : AuFin (if joined then ⟨[], [], b64 (jn u p), i, r⟩ else ⟨u, p, [], i, r⟩) ⟨u, p, b64 (jn u p), i, r⟩ := by
  cases joined with
  | true => exact AuFin.joined ⟨[], [], b64 (jn u p), i, r⟩ u p rfl h58 hl
  | false => exact AuFin.apart ⟨u, p, [], i, r⟩ rfl hu hp hl
theorem au_good {u p i r : Bs} (joined : Bool) (hu : plainA u) (hp : plainA p) (hi : goodS i) (hr : goodS r) : ∀ q ∈ auP u p i r joined, GoodT q.1 ∧ GoodT q.2 ∧ 12 * (q.1.length + q.2.length) + 20 ≤ 100000 := by
  obtain ⟨xi, hxi, _⟩ := hi.runes
  obtain ⟨xr, hxr, _⟩ := hr.runes
  have hb : (b64 (jn u p)).length ≤ 200 := by rw [b64_len, jn_len]; have := hu.1; have := hp.1; omega
  have hi4 := hi.2
  have hr4 := hr.2
  have hu6 := hu.1
  have hp6 := hp.1
  intro q hq
  rcases auP_mem hq with rfl | rfl | rfl | rfl | rfl
  · exact ⟨goodT_asc (s := aK) (by decide), goodT_asc fun c hc => by have := (b64_asc _ c hc).2.1; omega, by show 12 * (aK.length + (b64 (jn u p)).length) + 20 ≤ _; rw [show aK.length = 4 from rfl]; omega⟩
  · exact ⟨goodT_asc (s := uK) (by decide), goodT_asc hu.asc, by show 12 * (uK.length + u.length) + 20 ≤ _; rw [show uK.length = 8 from rfl]; omega⟩
  · exact ⟨goodT_asc (s := pK) (by decide), goodT_asc hp.asc, by show 12 * (pK.length + p.length) + 20 ≤ _; rw [show pK.length = 8 from rfl]; omega⟩
  · exact ⟨goodT_asc (s := iK) (by decide), ⟨xi, hxi⟩, by show 12 * (iK.length + i.length) + 20 ≤ _; rw [show iK.length = 13 from rfl]; omega⟩
  · exact ⟨goodT_asc (s := rK) (by decide), ⟨xr, hxr⟩, by show 12 * (rK.length + r.length) + 20 ≤ _; rw [show rK.length = 13 from rfl]; omega⟩
theorem rdV_no (f : Nat) : rdV f [] = none := by cases f <;> rfl
theorem auP_len (u p i r : Bs) (joined : Bool) : (auP u p i r joined).length ≤ 4 := by
  unfold auP
  cases joined <;> (repeat' split) <;> simp
end Go.V
/-
  The law of what is read in any way: it returns true.
-/
namespace Go.V
open Go.RowKit
set_option linter.unusedVariables false
set_option linter.unusedSimpArgs false
set_option maxRecDepth 10000
attribute [local irreducible] Run Ops QD
theorem u8_ok {n : Int} (h : (Cd.int .u8).ok n) : 0 ≤ n ∧ n ≤ 255 := by
  have h' : (Lit.int .u8 n).wf = true := h
  simp [Lit.wf, IntKind.min, IntKind.max, IntKind.signed, IntKind.bits] at h'
  omega
theorem bytesNsl {I : Imm} {v : Value} {x : Option (List Int)} (h : Val (.nsl (.int .u8)) I v x) (hx : (Cd.nsl (.int .u8)).ok x) : ∃ ws : Bs, Sl tU8 I v ws := by
  have h' : (tNSl (tInt .u8)).rel I [v] x := h
  cases x with
  | none =>
    have e : [v] = [.slice none 0 0] := h'
    obtain rfl : v = .slice none 0 0 := by simpa using e
    exact ⟨[], Sl.nil _ _⟩
  | some l =>
    obtain ⟨a, c, h1, h2, h3⟩ := h'
    obtain rfl : v = .slice (some a) l.length c := by simpa using h1
    have hok : ∀ n ∈ l, (Cd.int .u8).ok n := (hx l rfl).2
    refine ⟨l.map fun n => UInt8.ofNat n.toNat, some a, c, by rw [List.length_map], by rw [List.length_map]; exact h2, ?_⟩
    rcases h3 with rfl | ⟨b, off, rfl, h4⟩
    · exact .inl rfl
    · refine .inr ⟨b, off, rfl, fun j y hy => ?_⟩
      rw [List.getElem?_map] at hy
      cases hj : l[j]? with
      | none => rw [hj] at hy; cases hy
      | some n =>
        rw [hj] at hy
        obtain rfl : UInt8.ofNat n.toNat = y := Option.some.inj hy
        obtain ⟨cs, hr, hA⟩ := h4 j n hj
        obtain rfl : cs = [.int .u8 n] := hr
        have hn := u8_ok (hok n (List.mem_of_getElem? hj))
        refine ⟨_, ?_, hA⟩
        show [Value.int .u8 n] = [Value.int .u8 ((UInt8.ofNat n.toNat).toNat : Int)]
        rw [ofNat_nat (by omega)]
        have : ((n.toNat : Nat) : Int) = n := by omega
        rw [this]
set_option maxHeartbeats 2000000 in
theorem laws_FnAuthRead (I : Imm) (v0 : Value) (u : Bs) (h0 : Val .str I v0 u) (k0 : Cd.str.ok u) (v1 : Value) (p : Bs) (h1 : Val .str I v1 p) (k1 : Cd.str.ok p) (v2 : Value) (i : Bs) (h2 : Val .str I v2 i) (k2 : Cd.str.ok i)
    (v3 : Value) (r : Bs) (h3 : Val .str I v3 r) (k3 : Cd.str.ok r) (v4 : Value) (jo : Bool) (h4 : Val .bool I v4 jo) (k4 : Cd.bool.ok jo) (v5 : Value) (ys : Option (List Int)) (h5 : Val (.nsl (.int .u8)) I v5 ys) (k5 : (Cd.nsl (.int .u8)).ok ys) (hU : UT I) :
    Pure Proofs.Tryd.prog 3 [v0, v1, v2, v3, v4, v5] I fun v _ => v = .bool true := by
  obtain rfl := h0.str
  obtain rfl := h1.str
  obtain rfl := h2.str
  obtain rfl := h3.str
  obtain rfl := h4.bool
  obtain ⟨ws, hS⟩ := bytesNsl h5 k5
  obtain ⟨A5, c5, rfl⟩ := hS.isSl
  clear h0 h1 h2 h3 h4 h5 k0 k1 k2 k3 k4 k5
  refine Spec.enter 112 [(0, _), (1, _), (2, _), (3, _), (4, _), (5, _)] Proofs.Tryd.func3 rfl Proofs.Tryd.ntmps3 (by simp) rfl ?_
  intro C hCf hR hCI
  refine Run.seq ?_
  refine Run.regionO (D := [some 12]) [true] rfl rfl rfl (fun Z hZ => ?_)
  refine q1 dc rfl rfl ?_
  refine QD.nil (hZ _ ?_)
  clear hZ Z
  repeat refine Run.seq ?_
  by_cases g1 : 2147483647 < u.length
  · skip
    refine Run.regionO (D := [some 16, some 17, some 18, some 19, some 20, some 21, some 22, some 23, some 24, some 25, some 26, some 27, some 28, some 29, some 30, some 31, some 32, some 33, some 34, some 35, some 36, some 37, some 38]) [true, true, true, true, true, true, true, true, true, true, true, true, true, true, true, true, true, true, true, true, true, true, true] rfl rfl rfl (fun Z hZ => ?_)
    refine q1 dc rfl rfl ?_
    refine QD.e (Ev.lenS T rfl rfl) dc rfl ?_
    refine qt (Ev.gtr rfl rfl) (by omega) dc rfl ?_
    refine q1 dc rfl rfl ?_
    iterate 3 refine QD.off dc rfl ?_
    iterate 2 refine q1 dc rfl rfl ?_
    iterate 3 refine QD.off dc rfl ?_
    iterate 2 refine q1 dc rfl rfl ?_
    iterate 3 refine QD.off dc rfl ?_
    iterate 2 refine q1 dc rfl rfl ?_
    iterate 3 refine QD.off dc rfl ?_
    refine q1 dc rfl rfl ?_
    refine QD.nil (hZ _ ?_)
    clear hZ Z
    repeat (first | refine Run.seq ?_ | refine Run.cond_t rfl ?_)
    refine Run.regionO (D := [some 12]) [true] rfl rfl rfl (fun Z hZ => ?_)
    refine q1 dc rfl rfl ?_
    refine QD.nil (hZ _ ?_)
    clear hZ Z
    skip
    refine Run.fin (Run.ret1 (by rw [hCf]; exact Proofs.Tryd.func3) Proofs.Tryd.results3 rfl (hR _ _ _ ?_))
    exact ⟨rfl, rfl⟩
  by_cases g2 : 2147483647 < p.length
  · skip
    refine Run.regionO (D := [some 16, some 17, some 18, some 19, some 20, some 21, some 22, some 23, some 24, some 25, some 26, some 27, some 28, some 29, some 30, some 31, some 32, some 33, some 34, some 35, some 36, some 37, some 38]) [true, true, true, true, true, true, true, true, true, true, true, true, true, true, true, true, true, true, true, true, true, true, true] rfl rfl rfl (fun Z hZ => ?_)
    refine q1 dc rfl rfl ?_
    refine QD.e (Ev.lenS T rfl rfl) dc rfl ?_
    refine qf (Ev.gtr rfl rfl) (by omega) dc rfl ?_
    iterate 2 refine q1 dc rfl rfl ?_
    refine QD.e (Ev.lenS T rfl rfl) dc rfl ?_
    refine qt (Ev.gtr rfl rfl) (by omega) dc rfl ?_
    iterate 2 refine q1 dc rfl rfl ?_
    iterate 3 refine QD.off dc rfl ?_
    iterate 2 refine q1 dc rfl rfl ?_
    iterate 3 refine QD.off dc rfl ?_
    iterate 2 refine q1 dc rfl rfl ?_
    iterate 3 refine QD.off dc rfl ?_
    refine q1 dc rfl rfl ?_
    refine QD.nil (hZ _ ?_)
    clear hZ Z
    repeat (first | refine Run.seq ?_ | refine Run.cond_t rfl ?_)
    refine Run.regionO (D := [some 12]) [true] rfl rfl rfl (fun Z hZ => ?_)
    refine q1 dc rfl rfl ?_
    refine QD.nil (hZ _ ?_)
    clear hZ Z
    skip
    refine Run.fin (Run.ret1 (by rw [hCf]; exact Proofs.Tryd.func3) Proofs.Tryd.results3 rfl (hR _ _ _ ?_))
    exact ⟨rfl, rfl⟩
  by_cases g3 : 2147483647 < i.length
  · skip
    refine Run.regionO (D := [some 16, some 17, some 18, some 19, some 20, some 21, some 22, some 23, some 24, some 25, some 26, some 27, some 28, some 29, some 30, some 31, some 32, some 33, some 34, some 35, some 36, some 37, some 38]) [true, true, true, true, true, true, true, true, true, true, true, true, true, true, true, true, true, true, true, true, true, true, true] rfl rfl rfl (fun Z hZ => ?_)
    refine q1 dc rfl rfl ?_
    refine QD.e (Ev.lenS T rfl rfl) dc rfl ?_
    refine qf (Ev.gtr rfl rfl) (by omega) dc rfl ?_
    iterate 2 refine q1 dc rfl rfl ?_
    refine QD.e (Ev.lenS T rfl rfl) dc rfl ?_
    refine qf (Ev.gtr rfl rfl) (by omega) dc rfl ?_
    iterate 3 refine q1 dc rfl rfl ?_
    refine QD.e (Ev.lenS T rfl rfl) dc rfl ?_
    refine qt (Ev.gtr rfl rfl) (by omega) dc rfl ?_
    iterate 2 refine q1 dc rfl rfl ?_
    iterate 3 refine QD.off dc rfl ?_
    iterate 2 refine q1 dc rfl rfl ?_
    iterate 3 refine QD.off dc rfl ?_
    refine q1 dc rfl rfl ?_
    refine QD.nil (hZ _ ?_)
    clear hZ Z
    repeat (first | refine Run.seq ?_ | refine Run.cond_t rfl ?_)
    refine Run.regionO (D := [some 12]) [true] rfl rfl rfl (fun Z hZ => ?_)
    refine q1 dc rfl rfl ?_
    refine QD.nil (hZ _ ?_)
    clear hZ Z
    skip
    refine Run.fin (Run.ret1 (by rw [hCf]; exact Proofs.Tryd.func3) Proofs.Tryd.results3 rfl (hR _ _ _ ?_))
    exact ⟨rfl, rfl⟩
  by_cases g4 : 2147483647 < r.length
  · skip
    refine Run.regionO (D := [some 16, some 17, some 18, some 19, some 20, some 21, some 22, some 23, some 24, some 25, some 26, some 27, some 28, some 29, some 30, some 31, some 32, some 33, some 34, some 35, some 36, some 37, some 38]) [true, true, true, true, true, true, true, true, true, true, true, true, true, true, true, true, true, true, true, true, true, true, true] rfl rfl rfl (fun Z hZ => ?_)
    refine q1 dc rfl rfl ?_
    refine QD.e (Ev.lenS T rfl rfl) dc rfl ?_
    refine qf (Ev.gtr rfl rfl) (by omega) dc rfl ?_
    iterate 2 refine q1 dc rfl rfl ?_
    refine QD.e (Ev.lenS T rfl rfl) dc rfl ?_
    refine qf (Ev.gtr rfl rfl) (by omega) dc rfl ?_
    iterate 3 refine q1 dc rfl rfl ?_
    refine QD.e (Ev.lenS T rfl rfl) dc rfl ?_
    refine qf (Ev.gtr rfl rfl) (by omega) dc rfl ?_
    iterate 3 refine q1 dc rfl rfl ?_
    refine QD.e (Ev.lenS T rfl rfl) dc rfl ?_
    refine qt (Ev.gtr rfl rfl) (by omega) dc rfl ?_
    iterate 2 refine q1 dc rfl rfl ?_
    iterate 3 refine QD.off dc rfl ?_
    refine q1 dc rfl rfl ?_
    refine QD.nil (hZ _ ?_)
    clear hZ Z
    repeat (first | refine Run.seq ?_ | refine Run.cond_t rfl ?_)
    refine Run.regionO (D := [some 12]) [true] rfl rfl rfl (fun Z hZ => ?_)
    refine q1 dc rfl rfl ?_
    refine QD.nil (hZ _ ?_)
    clear hZ Z
    skip
    refine Run.fin (Run.ret1 (by rw [hCf]; exact Proofs.Tryd.func3) Proofs.Tryd.results3 rfl (hR _ _ _ ?_))
    exact ⟨rfl, rfl⟩
  by_cases g5 : 2147483647 < ws.length
  · skip
    refine Run.regionO (D := [some 16, some 17, some 18, some 19, some 20, some 21, some 22, some 23, some 24, some 25, some 26, some 27, some 28, some 29, some 30, some 31, some 32, some 33, some 34, some 35, some 36, some 37, some 38]) [true, true, true, true, true, true, true, true, true, true, true, true, true, true, true, true, true, true, true, true, true, true, true] rfl rfl rfl (fun Z hZ => ?_)
    refine q1 dc rfl rfl ?_
    refine QD.e (Ev.lenS T rfl rfl) dc rfl ?_
    refine qf (Ev.gtr rfl rfl) (by omega) dc rfl ?_
    iterate 2 refine q1 dc rfl rfl ?_
    refine QD.e (Ev.lenS T rfl rfl) dc rfl ?_
    refine qf (Ev.gtr rfl rfl) (by omega) dc rfl ?_
    iterate 3 refine q1 dc rfl rfl ?_
    refine QD.e (Ev.lenS T rfl rfl) dc rfl ?_
    refine qf (Ev.gtr rfl rfl) (by omega) dc rfl ?_
    iterate 3 refine q1 dc rfl rfl ?_
    refine QD.e (Ev.lenS T rfl rfl) dc rfl ?_
    refine qf (Ev.gtr rfl rfl) (by omega) dc rfl ?_
    iterate 4 refine q1 dc rfl rfl ?_
    refine qt (Ev.gtr rfl rfl) (by omega) dc rfl ?_
    refine q1 dc rfl rfl ?_
    refine QD.nil (hZ _ ?_)
    clear hZ Z
    repeat (first | refine Run.seq ?_ | refine Run.cond_t rfl ?_)
    refine Run.regionO (D := [some 12]) [true] rfl rfl rfl (fun Z hZ => ?_)
    refine q1 dc rfl rfl ?_
    refine QD.nil (hZ _ ?_)
    clear hZ Z
    skip
    refine Run.fin (Run.ret1 (by rw [hCf]; exact Proofs.Tryd.func3) Proofs.Tryd.results3 rfl (hR _ _ _ ?_))
    exact ⟨rfl, rfl⟩
  refine Run.regionO (D := [some 16, some 17, some 18, some 19, some 20, some 21, some 22, some 23, some 24, some 25, some 26, some 27, some 28, some 29, some 30, some 31, some 32, some 33, some 34, some 35, some 36, some 37, some 38]) [true, true, true, true, true, true, true, true, true, true, true, true, true, true, true, true, true, true, true, true, true, true, true] rfl rfl rfl (fun Z hZ => ?_)
  refine q1 dc rfl rfl ?_
  refine QD.e (Ev.lenS T rfl rfl) dc rfl ?_
  refine qf (Ev.gtr rfl rfl) (by omega) dc rfl ?_
  iterate 2 refine q1 dc rfl rfl ?_
  refine QD.e (Ev.lenS T rfl rfl) dc rfl ?_
  refine qf (Ev.gtr rfl rfl) (by omega) dc rfl ?_
  iterate 3 refine q1 dc rfl rfl ?_
  refine QD.e (Ev.lenS T rfl rfl) dc rfl ?_
  refine qf (Ev.gtr rfl rfl) (by omega) dc rfl ?_
  iterate 3 refine q1 dc rfl rfl ?_
  refine QD.e (Ev.lenS T rfl rfl) dc rfl ?_
  refine qf (Ev.gtr rfl rfl) (by omega) dc rfl ?_
  iterate 4 refine q1 dc rfl rfl ?_
  refine qf (Ev.gtr rfl rfl) (by omega) dc rfl ?_
  refine q1 dc rfl rfl ?_
  refine QD.nil (hZ _ ?_)
  clear hZ Z
  repeat (first | refine Run.seq ?_ | refine Run.skip ?_ | refine Run.cond_f rfl ?_)
  refine Run.regionP (D := [some 39, some 40, some 41, some 42, some 43, some 44, some 45, some 46, some 47, some 48, some 49, some 50, some 51, some 52, some 53, some 54, some 55, some 56, some 57, some 58, some 59, some 60, some 61, some 62]) [true, true] 2 rfl rfl rfl (by simp only [List.drop_succ_cons, List.drop_zero]; rfl) (fun Z hZ => ?_)
  iterate 2 refine q1 dc rfl rfl ?_
  refine QD.nil (hZ _ ?_)
  clear hZ Z
  refine Ops.call ((laws_authPlain I u p (by omega) (by omega))) rfl dc Proofs.Tryd.call5 rfl ?_
  rintro _ J1 l1 ⟨q, rfl, hp⟩
  skip
  cases q with
  | false =>
    skip
    iterate 2 refine Ops.pure T rfl dc rfl ?_
    iterate 2 refine Ops.not rfl dc ?_
    iterate 2 refine Ops.pure T rfl dc rfl ?_
    iterate 2 refine Ops.not rfl dc ?_
    iterate 2 refine Ops.pure T rfl dc rfl ?_
    iterate 5 refine Ops.not rfl dc ?_
    iterate 2 refine Ops.pure T rfl dc rfl ?_
    iterate 3 refine Ops.not rfl dc ?_
    refine Ops.pure T rfl dc rfl ?_
    refine Ops.nil ?_
    repeat (first | refine Run.seq ?_ | refine Run.cond_t rfl ?_)
    refine Run.regionO (D := [some 63, some 12]) [true, true] rfl rfl rfl (fun Z hZ => ?_)
    refine QD.call (laws_authAwake _) dc rfl Proofs.Tryd.call7 rfl ?_
    refine q1 dc rfl rfl ?_
    refine QD.nil (hZ _ ?_)
    clear hZ Z
    skip
    refine Run.fin (Run.ret1 (by rw [hCf]; exact Proofs.Tryd.func3) Proofs.Tryd.results3 rfl (hR _ _ _ ?_))
    exact ⟨rfl, rfl⟩
  | true =>
    obtain ⟨p1, p2, p3⟩ := hp rfl
    by_cases hu : u = []
    · skip
      skip
      iterate 3 refine Ops.pure T rfl dc rfl ?_
      refine Ops.ev ((Ev.eqlS rfl rfl).as (congrArg Value.bool (decide_eq_true hu))) rfl dc ?_
      iterate 2 refine Ops.pure T rfl dc rfl ?_
      iterate 2 refine Ops.not rfl dc ?_
      iterate 2 refine Ops.pure T rfl dc rfl ?_
      iterate 5 refine Ops.not rfl dc ?_
      iterate 2 refine Ops.pure T rfl dc rfl ?_
      iterate 3 refine Ops.not rfl dc ?_
      refine Ops.pure T rfl dc rfl ?_
      refine Ops.nil ?_
      repeat (first | refine Run.seq ?_ | refine Run.cond_t rfl ?_)
      refine Run.regionO (D := [some 63, some 12]) [true, true] rfl rfl rfl (fun Z hZ => ?_)
      refine QD.call (laws_authAwake _) dc rfl Proofs.Tryd.call7 rfl ?_
      refine q1 dc rfl rfl ?_
      refine QD.nil (hZ _ ?_)
      clear hZ Z
      skip
      refine Run.fin (Run.ret1 (by rw [hCf]; exact Proofs.Tryd.func3) Proofs.Tryd.results3 rfl (hR _ _ _ ?_))
      exact ⟨rfl, rfl⟩
    by_cases hpe : p = []
    · skip
      skip
      iterate 3 refine Ops.pure T rfl dc rfl ?_
      refine Ops.ev ((Ev.eqlS rfl rfl).as (congrArg Value.bool (decide_eq_false hu))) rfl dc ?_
      iterate 3 refine Ops.pure T rfl dc rfl ?_
      refine Ops.ev ((Ev.eqlS rfl rfl).as (congrArg Value.bool (decide_eq_true hpe))) rfl dc ?_
      iterate 2 refine Ops.pure T rfl dc rfl ?_
      iterate 5 refine Ops.not rfl dc ?_
      iterate 2 refine Ops.pure T rfl dc rfl ?_
      iterate 3 refine Ops.not rfl dc ?_
      refine Ops.pure T rfl dc rfl ?_
      refine Ops.nil ?_
      repeat (first | refine Run.seq ?_ | refine Run.cond_t rfl ?_)
      refine Run.regionO (D := [some 63, some 12]) [true, true] rfl rfl rfl (fun Z hZ => ?_)
      refine QD.call (laws_authAwake _) dc rfl Proofs.Tryd.call7 rfl ?_
      refine q1 dc rfl rfl ?_
      refine QD.nil (hZ _ ?_)
      clear hZ Z
      skip
      refine Run.fin (Run.ret1 (by rw [hCf]; exact Proofs.Tryd.func3) Proofs.Tryd.results3 rfl (hR _ _ _ ?_))
      exact ⟨rfl, rfl⟩
    skip
    iterate 3 refine Ops.pure T rfl dc rfl ?_
    refine Ops.ev ((Ev.eqlS rfl rfl).as (congrArg Value.bool (decide_eq_false hu))) rfl dc ?_
    iterate 3 refine Ops.pure T rfl dc rfl ?_
    refine Ops.ev ((Ev.eqlS rfl rfl).as (congrArg Value.bool (decide_eq_false hpe))) rfl dc ?_
    iterate 4 refine Ops.pure T rfl dc rfl ?_
    refine Ops.lit T rfl rfl rfl dc rfl dc dc rfl rfl rfl rfl rfl (fun bq => ?_)
    refine Ops.freezeAt 0 rfl rfl fun J3 l3 hJ3 => ?_
    have hSl : Sl tStr J3 (.slice (some ⟨bq, 0, none⟩) 2 2) [i, r] := Sl.ofBlock hJ3 (Cells.strs [i, r]) rfl (Nat.le_refl _)
    refine Ops.call ((laws_textsGood J3 (hU.mono (l1.trans l3)) _ [i, r] hSl (by intro s hs; simp only [List.mem_cons, List.not_mem_nil, or_false] at hs; rcases hs with rfl | rfl <;> omega) (by simp))) rfl dc Proofs.Tryd.call6 rfl ?_
    rintro _ J4 l4 ⟨q, rfl, hg⟩
    cases q with
    | false =>
      skip
      iterate 3 refine Ops.pure T rfl dc rfl ?_
      iterate 3 refine Ops.not rfl dc ?_
      refine Ops.pure T rfl dc rfl ?_
      refine Ops.nil ?_
      repeat (first | refine Run.seq ?_ | refine Run.cond_t rfl ?_)
      refine Run.regionO (D := [some 63, some 12]) [true, true] rfl rfl rfl (fun Z hZ => ?_)
      refine QD.call (laws_authAwake _) dc rfl Proofs.Tryd.call7 rfl ?_
      refine q1 dc rfl rfl ?_
      refine QD.nil (hZ _ ?_)
      clear hZ Z
      skip
      refine Run.fin (Run.ret1 (by rw [hCf]; exact Proofs.Tryd.func3) Proofs.Tryd.results3 rfl (hR _ _ _ ?_))
      exact ⟨rfl, rfl⟩
    | true =>
      obtain ⟨_, hg⟩ := hg rfl
      have hi := hg i (by simp)
      have hr := hg r (by simp)
      by_cases hw : 1000 < ws.length
      · skip
        skip
        iterate 5 refine Ops.pure T rfl dc rfl ?_
        refine Ops.ev ((Ev.gtr rfl rfl).as (congrArg Value.bool (decide_eq_true (by omega)))) rfl dc ?_
        refine Ops.pure T rfl dc rfl ?_
        refine Ops.nil ?_
        repeat (first | refine Run.seq ?_ | refine Run.cond_t rfl ?_)
        refine Run.regionO (D := [some 63, some 12]) [true, true] rfl rfl rfl (fun Z hZ => ?_)
        refine QD.call (laws_authAwake _) dc rfl Proofs.Tryd.call7 rfl ?_
        refine q1 dc rfl rfl ?_
        refine QD.nil (hZ _ ?_)
        clear hZ Z
        skip
        refine Run.fin (Run.ret1 (by rw [hCf]; exact Proofs.Tryd.func3) Proofs.Tryd.results3 rfl (hR _ _ _ ?_))
        exact ⟨rfl, rfl⟩
      skip
      iterate 5 refine Ops.pure T rfl dc rfl ?_
      refine Ops.ev ((Ev.gtr rfl rfl).as (congrArg Value.bool (decide_eq_false (by omega)))) rfl dc ?_
      refine Ops.pure T rfl dc rfl ?_
      refine Ops.nil ?_
      have hup : (jn u p).length ≤ 200 := by rw [jn_len]; have := p1.1; have := p2.1; omega
      have hU4 := hU.mono ((l1.trans l3).trans l4)
      have hgd := au_good jo p1 p2 hi hr
      have hF := au_fine u p i r jo fun q hq => ⟨(hgd q hq).1, (hgd q hq).2.1⟩
      have hlen := au_len u p i r jo ws 100000 (by decide) (by decide) hgd (auP_len u p i r jo)
      obtain ⟨v, ms, t, hv, ht, hk, hkeys, hkids, hms, hok, htk⟩ := au_read u p i r jo ws hF
      have hfin := au_fin u p i r jo hu hpe p3 (by omega)
      rw [← au_fold, ← htk] at hfin
      have hne : (wval 2 (auJ u p i r jo) true ws).1 ≠ [] := fun e => by rw [e, rdV_no] at hv; cases hv
      have hT := spec_AuthText J4 u p i r jo _ ws (hS.mono ((l1.trans l3).trans l4)) (by omega) (by omega) hF hlen
      generalize (wval 2 (auJ u p i r jo) true ws).1 = tx at *
      have hO := fun J (h : UT J) => impl_AuthOf J h tx hne (by omega) v t hv ht hk ms hkeys hkids (by omega) hok _ hfin
      repeat (first | refine Run.seq ?_ | refine Run.skip ?_ | refine Run.cond_f rfl ?_)
      refine Run.regionP (D := [some 64, some 65, some 66, some 67, some 68, some 69, some 70, some 13]) [true, true, true, true, true, true] 6 rfl rfl rfl (by simp only [List.drop_succ_cons, List.drop_zero]; rfl) (fun Z hZ => ?_)
      iterate 6 refine q1 dc rfl rfl ?_
      refine QD.nil (hZ _ ?_)
      clear hZ Z
      refine Ops.call (hT) rfl dc Proofs.Tryd.call8 rfl ?_
      rintro _ J5 l5 rfl
      skip
      refine Ops.pure T rfl dc rfl ?_
      refine Ops.nil ?_
      refine Run.seq ?_
      refine Run.regionP (D := [some 72, some 73, some 71, some 74, some 75, some 14, none, some 15]) [true] 1 rfl rfl rfl (by simp only [List.drop_succ_cons, List.drop_zero]; rfl) (fun Z hZ => ?_)
      refine q1 dc rfl rfl ?_
      refine QD.nil (hZ _ ?_)
      clear hZ Z
      refine Ops.call ((hO J5 (hU4.mono l5))) rfl dc Proofs.Tryd.call9 rfl ?_
      rintro _ J6 l6 rfl
      skip
      iterate 3 refine Ops.pure T rfl dc rfl ?_
      refine Ops.alloc rfl dc (T.zeroOk rfl) rfl (fun b6 => ?_)
      refine Ops.store 0 rfl rfl rfl rfl rfl (T.sizeOk rfl) rfl (Nat.le_of_ble_eq_true rfl) rfl rfl ?_
      refine Ops.pure T rfl dc rfl ?_
      refine Ops.nil ?_
      refine Run.seq ?_
      refine Run.regionQ (D := [some 76, some 77, some 78, some 79, some 80, some 81, some 82, some 83, some 84, some 85, some 86, some 87, some 88, some 89, some 90, some 91, some 92, some 93, some 94, some 95, some 96, some 97, some 98, some 99, some 100, some 101, some 102, some 103, some 104, some 105, some 106, some 107, some 108, some 109, some 110, some 111, some 12]) [true, true, true, true, true, true, true, true, true, true, true, true, true, true, true, true, true, true, true, true, true, true, true, true, true, true, true, true, true, true, true, true, true, true, true, true, true] (bl 37 137438953471) (by kernel_rfl) (by kernel_rfl) (by kernel_rfl) (by kernel_rfl) rfl (fun Z hZ => ?_)
      iterate 3 refine q1 dc rfl rfl ?_
      refine QD.yv dc rfl (Yv.load 0 T rfl rfl rfl rfl) ?_
      refine q1 dc rfl rfl ?_
      refine qt (Ev.eqlS rfl rfl) rfl dc rfl ?_
      iterate 3 refine q1 dc rfl rfl ?_
      refine QD.yv dc rfl (Yv.load 0 T rfl rfl rfl rfl) ?_
      refine q1 dc rfl rfl ?_
      refine qt (Ev.eqlS rfl rfl) rfl dc rfl ?_
      iterate 3 refine q1 dc rfl rfl ?_
      refine QD.yv dc rfl (Yv.load 0 T rfl rfl rfl rfl) ?_
      refine q1 dc rfl rfl ?_
      refine qt (Ev.eqlS rfl rfl) rfl dc rfl ?_
      iterate 3 refine q1 dc rfl rfl ?_
      refine QD.yv dc rfl (Yv.load 0 T rfl rfl rfl rfl) ?_
      refine q1 dc rfl rfl ?_
      refine qt (Ev.eqlS rfl rfl) rfl dc rfl ?_
      iterate 3 refine q1 dc rfl rfl ?_
      refine QD.yv dc rfl (Yv.load 0 T rfl rfl rfl rfl) ?_
      iterate 2 refine q1 dc rfl rfl ?_
      refine QD.call (spec_AuthJoined _ u p (by omega)) dc rfl Proofs.Tryd.call10 rfl ?_
      refine qt (Ev.eqlS rfl rfl) rfl dc rfl ?_
      iterate 2 refine q1 dc rfl rfl ?_
      refine QD.call (laws_authAwake _) dc rfl Proofs.Tryd.call7 rfl ?_
      iterate 2 refine q1 dc rfl rfl ?_
      refine QD.nil (hZ _ ?_)
      clear hZ Z
      skip
      refine Run.fin (Run.ret1 (by rw [hCf]; exact Proofs.Tryd.func3) Proofs.Tryd.results3 rfl (hR _ _ _ ?_))
      exact ⟨rfl, rfl⟩
end Go.V
