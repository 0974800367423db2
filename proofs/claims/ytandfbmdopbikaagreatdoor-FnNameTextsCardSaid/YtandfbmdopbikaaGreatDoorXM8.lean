import Derived.Test.YtandfbmdopbikaaGreatDoorXM7
import Derived.Test.YtandfbmdopbikaaGreatDoorXM5
import Derived.Test.YtandfbmdopbikaaGreatDoorXM3
namespace Go.V
open Go.Proofs.Tryz
open Go.RowKit
set_option linter.unusedVariables false
set_option linter.unusedSimpArgs false
set_option maxRecDepth 10000
attribute [local irreducible] Run Ops
def authT : Tx := [65, 66, 67, 68, 69, 70, 71, 72, 73, 74, 75, 76, 77, 78, 79, 80, 81, 82, 83, 84, 85, 86, 87, 88, 89, 90, 97, 98, 99, 100, 101, 102, 103, 104, 105, 106, 107, 108, 109, 110, 111, 112, 113, 114, 115, 116, 117, 118, 119, 120, 121, 122, 48, 49, 50, 51, 52, 53, 54, 55, 56, 57, 45, 95, 46, 126, 33, 36, 38, 39, 40, 41, 42, 43, 44, 59, 61, 58, 91, 93, 60, 62, 34]
theorem host_auth : ∀ b ∈ hostT, hasB b authT = true ∧ b ≠ 91 := by decide
theorem auth_good : ∀ b ∈ authT, badB b = false := by decide
theorem bad_ascii {b : UInt8} (h : badB b = true) : b.toNat < 128 := by
  simp only [badB, Bool.or_eq_true, decide_eq_true_eq] at h
  rcases h with (((((h | h) | h) | h) | h) | h) | h
  · omega
  all_goals (subst h; decide)
theorem lxI_snoc {c : UInt8} {s : Tx} {i : Nat} (h : i < s.length) : lxI c (s.take (i + 1)) = if s.getD i 0 = c then (i : Int) else lxI c (s.take i) := by
  rw [List.take_add_one, List.getElem?_eq_getElem h]
  rw [List.getD_eq_getElem?_getD, List.getElem?_eq_getElem h]
  simp only [Option.toList_some, Option.getD_some]
  by_cases e : s[i] = c
  · rw [if_pos e, e]
    have := lx_app (c := c) (y := []) rfl (x := s.take i)
    simp only [lxI, this, List.length_take]
    omega
  · rw [if_neg e]
    have := lx_app2 (c := c) (y := [s[i]]) (by rw [hasB_cons, decide_eq_false e]; rfl) (x := s.take i)
    simp only [lxI, this]
theorem lxI_lt (c : UInt8) (s : Tx) : -1 ≤ lxI c s ∧ lxI c s < s.length := by
  unfold lxI
  cases h : lx c s with
  | none => exact ⟨by simp, by simp only; omega⟩
  | some k => have := (lx_split h).1; exact ⟨by simp only; omega, by simp only; omega⟩
theorem plain_digits {s : Tx} {k : Nat} (h : hostPlain s = true) (hk : lx 58 s = some k) : allIn digT (s.drop (k + 1)) = true := by
  unfold hostPlain at h
  cases hj : ix 58 s with
  | none =>
    have := lx_none.2 (ix_none.1 hj)
    rw [this] at hk; cases hk
  | some j =>
    rw [hj] at h
    simp only [Bool.and_eq_true] at h
    have hd := (sWithin_all h.1).1
    obtain ⟨e, _⟩ := ix_split hj
    have h58 := allIn_not 58 hd (by decide)
    have hlt := ix_lt hj
    have h2 := lx_app (x := s.take j) h58
    rw [← e, hk] at h2
    have : k = j := by simp at h2; omega
    subst this
    exact hd
theorem w32 {x : Int} (h0 : -2147483648 ≤ x) (h1 : x ≤ 2147483647) : IntKind.i32.wrap x = x := by
  simp only [IntKind.wrap, IntKind.bits, IntKind.signed]
  simp
  omega
set_option maxHeartbeats 4000000 in
theorem name_zzAuthority (I : Imm) (s : Tx) (hs : s.length ≤ 1099511627776) : Pure prog 96 [str s] I fun w J => ∃ r, w = .bool r ∧ (hostPlain s = true → r = true) ∧ (hostBad s = true → r = false) := by
  refine Spec.enter 72 [(0, _)] func96 rfl ntmps96 (by simp) rfl ?_
  intro C hCf hR hCI
  repeat (first | refine Run.seq ?_ | refine Run.region ?_ | refine Ops.nil ?_ | refine Run.block ?_ | refine Ops.pure T rfl (by decide) rfl ?_ | refine Ops.lenS T rfl (by decide) rfl rfl ?_)
  refine Run.keep [0, 10, 11] [_, _, _] rfl ?_
  refine Run.rounds (fun m env L J => ∃ i : Nat, m = s.length - i ∧ i ≤ s.length ∧ (∀ b ∈ s.take i, b.toNat < 128 → hasB b authT = true) ∧ env = [(0, str s), (10, .int .i64 s.length), (11, .int .i64 i)] ∧ L = []) s.length ⟨0, by omega, by omega, by simp, rfl, rfl⟩ ?_
  rintro m env L J ⟨i, rfl, hi, hall, rfl, rfl⟩ ih
  repeat (first | refine Run.seq ?_ | refine Run.region ?_ | refine Ops.nil ?_ | refine Ops.lss rfl (by decide) rfl rfl ?_)
  refine Run.cond rfl rfl (fun h => ?_) (fun h => ?_)
  all_goals (try rw [h])
  all_goals (try simp only [decide_eq_true_eq, decide_eq_false_iff_not, Bool.not_eq_true', Bool.not_eq_false', Bool.and_eq_true, Bool.or_eq_true, Bool.and_eq_false_imp, Bool.or_eq_false_iff] at h)
  · have hi' : i < s.length := by omega
    repeat (first | refine Run.seq ?_ | refine Run.region ?_ | refine Ops.nil ?_ | refine Run.skip ?_ | refine Run.block ?_ | refine Ops.lss rfl (by decide) rfl rfl ?_ | refine Ops.pure T rfl (by decide) rfl ?_ | refine Ops.indexStr rfl (by decide) (T.undOk rfl) rfl rfl (by first | omega | (simp only [List.length_cons, List.length_nil] ; omega) | (simp; omega)) (by first | omega | (simp only [List.length_cons, List.length_nil] ; omega) | (simp; omega)) ?_)
    have ei : ((i : Int)).toNat = i := by omega
    rw [ei]
    have hmem : s.getD i 0 ∈ s := by rw [List.getD_eq_getElem?_getD, List.getElem?_eq_getElem hi']; exact List.getElem_mem hi'
    have htk : ∀ b, b ∈ s.take (i + 1) → b ∈ s.take i ∨ b = s.getD i 0 := by
      intro b hb
      rw [List.take_add_one, List.getElem?_eq_getElem hi'] at hb
      rw [List.getD_eq_getElem?_getD, List.getElem?_eq_getElem hi']
      rcases List.mem_append.1 hb with h | h
      · exact .inl h
      · exact .inr (by simpa using h)
    generalize hc : s.getD i 0 = c at *
    cases h1 : decide ((c.toNat : Int) < 128) with
    | false =>
      have h1' := of_decide_eq_false h1
      repeat (first | refine Run.region ?_ | refine Ops.nil ?_ | refine Run.skip ?_ | refine Run.inBlock ?_ | refine Run.cond_f rfl ?_ | refine Ops.not rfl (by decide) ?_ | refine Ops.add rfl (by decide) rfl rfl (wI (by first | omega | (simp only [List.length_cons, List.length_nil] ; omega) | (simp; omega)) (by first | omega | (simp only [List.length_cons, List.length_nil] ; omega) | (simp; omega))) ?_ | refine Ops.pure T rfl (by decide) rfl ?_)
      refine Run.keep [0, 10, 11] [_, _, _] rfl ?_
      refine ih (s.length - (i + 1)) _ _ _ (by omega) ⟨i + 1, rfl, by omega, ?_, rfl, rfl⟩
      intro b hb h128
      rcases htk b hb with hb | rfl
      · exact hall b hb h128
      · omega
    | true =>
      have h1' := of_decide_eq_true h1
      repeat (first | refine Ops.pure T rfl (by decide) rfl ?_)
      refine Ops.convInt rfl (by decide) (T.undOk rfl) (T.undOk rfl) rfl (w32 (by omega) (by omega)) ?_
      refine Ops.call ((name_zzContainsRune J authT c.toNat (.inl (by omega)) (by decide))) rfl (by decide) call101 rfl ?_
      rintro _ J2 l2 rfl
      have hir : inR c.toNat authT = hasB c authT := runes_has (by omega)
      rw [hir]
      repeat (first | refine Ops.nil ?_ | refine Ops.pure T rfl (by decide) rfl ?_)
      cases h2 : hasB c authT with
      | false =>
        repeat (first | refine Run.seq ?_ | refine Run.region ?_ | refine Ops.nil ?_ | refine Run.cond_t rfl ?_ | refine Ops.pure T rfl (by decide) rfl ?_)
        refine Run.fin (Run.ret1 (by rw [hCf]; exact func96) results96 rfl (hR _ _ _ ?_))
        refine ⟨rfl, false, rfl, fun hp => ?_, fun _ => rfl⟩
        have := (host_auth c (allIn_mem.1 (hostPlain_all hp) c hmem)).1
        rw [h2] at this; cases this
      | true =>
        repeat (first | refine Run.region ?_ | refine Ops.nil ?_ | refine Run.skip ?_ | refine Run.inBlock ?_ | refine Run.cond_f rfl ?_ | refine Ops.add rfl (by decide) rfl rfl (wI (by first | omega | (simp only [List.length_cons, List.length_nil] ; omega) | (simp; omega)) (by first | omega | (simp only [List.length_cons, List.length_nil] ; omega) | (simp; omega))) ?_ | refine Ops.pure T rfl (by decide) rfl ?_)
        refine Run.keep [0, 10, 11] [_, _, _] rfl ?_
        refine ih (s.length - (i + 1)) _ _ _ (by omega) ⟨i + 1, rfl, by omega, ?_, rfl, rfl⟩
        intro b hb h128
        rcases htk b hb with hb | rfl
        · exact hall b hb h128
        · exact h2
  obtain rfl : i = s.length := by omega
  rw [List.take_length] at hall
  have hgood : hostBad s = true → False := by
    intro hb
    obtain ⟨b, hb1, hb2⟩ := List.any_eq_true.1 hb
    have := auth_good b (hasB_true.1 (hall b hb1 (bad_ascii hb2)))
    rw [this] at hb2; cases hb2
  clear hall ih
  repeat (first | refine Run.seq ?_ | refine Run.region ?_ | refine Ops.nil ?_ | refine Run.block ?_ | refine Run.exit rfl ?_ | refine Ops.pure T rfl (by decide) rfl ?_ | refine Ops.lenS T rfl (by decide) rfl rfl ?_)
  refine Run.keep [0, 5, 6, 7, 27, 28] [_, _, _, _, _, _] rfl ?_
  refine Run.rounds (fun m env L K => ∃ (i : Nat) (op en : Int), m = s.length - i ∧ i ≤ s.length ∧ -1 ≤ op ∧ op < s.length ∧ (-1 ≤ en ∧ en < s.length) ∧ (hostPlain s = true → op = -1) ∧
    env = [(0, str s), (5, .int .i64 op), (6, .int .i64 en), (7, .int .i64 (lxI 58 (s.take i))), (27, .int .i64 s.length), (28, .int .i64 i)] ∧ L = []) s.length ⟨0, -1, -1, by omega, by omega, by omega, by omega, by omega, fun _ => rfl, rfl, rfl⟩ ?_
  rintro m env L J ⟨i, op, en, rfl, hi, ho1, ho2, ⟨he1, he2⟩, hop, rfl, rfl⟩ ih
  repeat (first | refine Run.seq ?_ | refine Run.region ?_ | refine Ops.nil ?_ | refine Ops.lss rfl (by decide) rfl rfl ?_)
  refine Run.cond rfl rfl (fun h => ?_) (fun h => ?_)
  all_goals (try rw [h])
  all_goals (try simp only [decide_eq_true_eq, decide_eq_false_iff_not, Bool.not_eq_true', Bool.not_eq_false', Bool.and_eq_true, Bool.or_eq_true, Bool.and_eq_false_imp, Bool.or_eq_false_iff] at h)
  · have hi' : i < s.length := by omega
    have hmem : s.getD i 0 ∈ s := by rw [List.getD_eq_getElem?_getD, List.getElem?_eq_getElem hi']; exact List.getElem_mem hi'
    have hsn := lxI_snoc (c := 58) hi'
    repeat (first | refine Run.seq ?_ | refine Run.region ?_ | refine Ops.nil ?_ | refine Run.skip ?_ | refine Run.block ?_ | refine Ops.eql rfl (by decide) rfl rfl ?_ | refine Ops.pure T rfl (by decide) rfl ?_ | refine Ops.indexStr rfl (by decide) (T.undOk rfl) rfl rfl (by first | omega | (simp only [List.length_cons, List.length_nil] ; omega) | (simp; omega)) (by first | omega | (simp only [List.length_cons, List.length_nil] ; omega) | (simp; omega)) ?_)
    have ei : ((i : Int)).toNat = i := by omega
    rw [ei]
    generalize hc : s.getD i 0 = c at *
    cases h1 : decide ((c.toNat : Int) = 91) with
    | true =>
      have h1' : c = 91 := u8_inj.1 (of_decide_eq_true h1)
      rw [if_neg (by rw [h1']; decide)] at hsn
      repeat (first | refine Run.region ?_ | refine Ops.nil ?_ | refine Run.inBlock ?_ | refine Run.cond_t rfl ?_ | refine Ops.add rfl (by decide) rfl rfl (wI (by first | omega | (simp only [List.length_cons, List.length_nil] ; omega) | (simp; omega)) (by first | omega | (simp only [List.length_cons, List.length_nil] ; omega) | (simp; omega))) ?_ | refine Ops.pure T rfl (by decide) rfl ?_)
      refine Run.keep [0, 5, 6, 7, 27, 28] [_, _, _, _, _, _] rfl ?_
      refine ih (s.length - (i + 1)) _ _ _ (by omega) ⟨i + 1, i, en, rfl, by omega, by omega, by omega, ⟨he1, he2⟩, ?_, by rw [hsn]; rfl, rfl⟩
      intro hp
      exact absurd h1' (host_auth c (allIn_mem.1 (hostPlain_all hp) c hmem)).2
    | false =>
    repeat (first | refine Run.seq ?_ | refine Run.region ?_ | refine Ops.nil ?_ | refine Run.cond_f rfl ?_ | refine Ops.eql rfl (by decide) rfl rfl ?_ | refine Ops.pure T rfl (by decide) rfl ?_)
    cases h2 : decide ((c.toNat : Int) = 93) with
    | true =>
      have h2' : c = 93 := u8_inj.1 (of_decide_eq_true h2)
      rw [if_neg (by rw [h2']; decide)] at hsn
      repeat (first | refine Run.region ?_ | refine Ops.nil ?_ | refine Run.inBlock ?_ | refine Run.cond_t rfl ?_ | refine Ops.add rfl (by decide) rfl rfl (wI (by first | omega | (simp only [List.length_cons, List.length_nil] ; omega) | (simp; omega)) (by first | omega | (simp only [List.length_cons, List.length_nil] ; omega) | (simp; omega))) ?_ | refine Ops.pure T rfl (by decide) rfl ?_)
      refine Run.keep [0, 5, 6, 7, 27, 28] [_, _, _, _, _, _] rfl ?_
      exact ih (s.length - (i + 1)) _ _ _ (by omega) ⟨i + 1, op, i, rfl, by omega, by omega, by omega, ⟨by omega, by omega⟩, hop, by rw [hsn]; rfl, rfl⟩
    | false =>
    repeat (first | refine Run.seq ?_ | refine Run.region ?_ | refine Ops.nil ?_ | refine Run.cond_f rfl ?_ | refine Ops.eql rfl (by decide) rfl rfl ?_ | refine Ops.pure T rfl (by decide) rfl ?_)
    cases h3 : decide ((c.toNat : Int) = 58) with
    | true =>
      have h3' : c = 58 := u8_inj.1 (of_decide_eq_true h3)
      rw [if_pos h3'] at hsn
      repeat (first | refine Run.region ?_ | refine Ops.nil ?_ | refine Run.inBlock ?_ | refine Run.cond_t rfl ?_ | refine Ops.add rfl (by decide) rfl rfl (wI (by first | omega | (simp only [List.length_cons, List.length_nil] ; omega) | (simp; omega)) (by first | omega | (simp only [List.length_cons, List.length_nil] ; omega) | (simp; omega))) ?_ | refine Ops.pure T rfl (by decide) rfl ?_)
      refine Run.keep [0, 5, 6, 7, 27, 28] [_, _, _, _, _, _] rfl ?_
      exact ih (s.length - (i + 1)) _ _ _ (by omega) ⟨i + 1, op, en, rfl, by omega, by omega, by omega, ⟨he1, he2⟩, hop, by rw [hsn]; rfl, rfl⟩
    | false =>
      rw [if_neg (fun e => of_decide_eq_false h3 (u8_inj.2 e))] at hsn
      repeat (first | refine Run.region ?_ | refine Ops.nil ?_ | refine Run.skip ?_ | refine Run.inBlock ?_ | refine Run.cond_f rfl ?_ | refine Ops.add rfl (by decide) rfl rfl (wI (by first | omega | (simp only [List.length_cons, List.length_nil] ; omega) | (simp; omega)) (by first | omega | (simp only [List.length_cons, List.length_nil] ; omega) | (simp; omega))) ?_ | refine Ops.pure T rfl (by decide) rfl ?_)
      refine Run.keep [0, 5, 6, 7, 27, 28] [_, _, _, _, _, _] rfl ?_
      exact ih (s.length - (i + 1)) _ _ _ (by omega) ⟨i + 1, op, en, rfl, by omega, by omega, by omega, ⟨he1, he2⟩, hop, by rw [hsn]; rfl, rfl⟩
  obtain rfl : i = s.length := by omega
  rw [List.take_length]
  obtain ⟨hx1, hx2⟩ := lxI_lt 58 s
  repeat (first | refine Run.seq ?_ | refine Run.region ?_ | refine Ops.nil ?_ | refine Run.block ?_ | refine Run.exit rfl ?_ | refine Ops.gtr rfl (by decide) rfl rfl ?_ | refine Ops.pure T rfl (by decide) rfl ?_)
  cases h1 : decide ((0 : Int) < op) with
  | true =>
    repeat (first | refine Run.seq ?_ | refine Run.region ?_ | refine Ops.nil ?_ | refine Run.cond_t rfl ?_ | refine Ops.pure T rfl (by decide) rfl ?_)
    refine Run.fin (Run.ret1 (by rw [hCf]; exact func96) results96 rfl (hR _ _ _ ?_))
    exact ⟨rfl, false, rfl, fun hp => by have := of_decide_eq_true h1; have := hop hp; omega, fun _ => rfl⟩
  | false =>
  repeat (first | refine Run.seq ?_ | refine Run.region ?_ | refine Ops.nil ?_ | refine Run.cond_f rfl ?_ | refine Ops.eql rfl (by decide) rfl rfl ?_ | refine Ops.pure T rfl (by decide) rfl ?_)
  cases h2 : decide (op = 0) with
  | true =>
    have hnp : hostPlain s = true → False := fun hp => by have := of_decide_eq_true h2; have := hop hp; omega
    repeat (first | refine Run.seq ?_ | refine Run.region ?_ | refine Run.cond_t rfl ?_ | refine Ops.gtr rfl (by decide) rfl rfl ?_ | refine Ops.pure T rfl (by decide) rfl ?_)
    cases h3 : decide ((0 : Int) < en) with
    | false =>
      repeat (first | refine Ops.nil ?_ | refine Ops.not rfl (by decide) ?_ | refine Ops.pure T rfl (by decide) rfl ?_)
      refine Run.fin (Run.ret1 (by rw [hCf]; exact func96) results96 rfl (hR _ _ _ ?_))
      exact ⟨rfl, _, rfl, fun hp => (hnp hp).elim, fun hb => (hgood hb).elim⟩
    | true =>
      have h3' := of_decide_eq_true h3
      repeat (first | refine Ops.add rfl (by decide) rfl rfl (wI (by first | omega | (simp only [List.length_cons, List.length_nil] ; omega) | (simp; omega)) (by first | omega | (simp only [List.length_cons, List.length_nil] ; omega) | (simp; omega))) ?_ | refine Ops.pure T rfl (by decide) rfl ?_ | refine Ops.sliceStrLo rfl (by decide) (T.undOk rfl) rfl rfl (by first | omega | (simp only [List.length_cons, List.length_nil] ; omega) | (simp; omega)) (by first | omega | (simp only [List.length_cons, List.length_nil] ; omega) | (simp; omega)) ?_)
      refine Ops.call ((name_zzDigits J (s.drop (en + 1).toNat) (by simp; omega))) rfl (by decide) call115 rfl ?_
      rintro _ J2 l2 ⟨r, rfl, _⟩
      cases r with
      | false =>
        repeat (first | refine Ops.nil ?_ | refine Ops.not rfl (by decide) ?_ | refine Ops.pure T rfl (by decide) rfl ?_)
        refine Run.fin (Run.ret1 (by rw [hCf]; exact func96) results96 rfl (hR _ _ _ ?_))
        exact ⟨rfl, _, rfl, fun hp => (hnp hp).elim, fun hb => (hgood hb).elim⟩
      | true =>
        repeat (first | refine Ops.pure T rfl (by decide) rfl ?_ | refine Ops.sliceStr rfl (by decide) (T.undOk rfl) rfl rfl rfl (by first | omega | (simp only [List.length_cons, List.length_nil] ; omega) | (simp; omega)) (by first | omega | (simp only [List.length_cons, List.length_nil] ; omega) | (simp; omega)) (by first | omega | (simp only [List.length_cons, List.length_nil] ; omega) | (simp; omega)) ?_)
        refine Ops.call ((name_zzIPv6 J2 ((s.take en.toNat).drop (1 : Int).toNat) (by simp; omega))) rfl (by decide) call116 rfl ?_
        rintro _ J3 l3 ⟨r, rfl⟩
        repeat (first | refine Ops.nil ?_ | refine Ops.pure T rfl (by decide) rfl ?_)
        refine Run.fin (Run.ret1 (by rw [hCf]; exact func96) results96 rfl (hR _ _ _ ?_))
        exact ⟨rfl, _, rfl, fun hp => (hnp hp).elim, fun hb => (hgood hb).elim⟩
  | false =>
  repeat (first | refine Run.seq ?_ | refine Run.region ?_ | refine Ops.nil ?_ | refine Run.cond_f rfl ?_ | refine Ops.geq rfl (by decide) rfl rfl ?_ | refine Ops.pure T rfl (by decide) rfl ?_)
  cases h3 : decide ((0 : Int) ≤ lxI 58 s) with
  | false =>
    repeat (first | refine Run.seq ?_ | refine Run.region ?_ | refine Ops.nil ?_ | refine Run.skip ?_ | refine Run.inBlock ?_ | refine Run.cond_f rfl ?_ | refine Ops.pure T rfl (by decide) rfl ?_)
    refine Run.fin (Run.ret1 (by rw [hCf]; exact func96) results96 rfl (hR _ _ _ ?_))
    exact ⟨rfl, true, rfl, fun _ => rfl, fun hb => (hgood hb).elim⟩
  | true =>
    have h3' := of_decide_eq_true h3
    repeat (first | refine Run.seq ?_ | refine Run.region ?_ | refine Run.cond_t rfl ?_ | refine Ops.pure T rfl (by decide) rfl ?_ | refine Ops.sliceStrLo rfl (by decide) (T.undOk rfl) rfl rfl (by first | omega | (simp only [List.length_cons, List.length_nil] ; omega) | (simp; omega)) (by first | omega | (simp only [List.length_cons, List.length_nil] ; omega) | (simp; omega)) ?_)
    refine Ops.call ((name_zzDigits J (s.drop (lxI 58 s).toNat) (by simp; omega))) rfl (by decide) call115 rfl ?_
    rintro _ J2 l2 ⟨r, rfl, hr⟩
    repeat (first | refine Ops.nil ?_ | refine Ops.pure T rfl (by decide) rfl ?_)
    refine Run.fin (Run.ret1 (by rw [hCf]; exact func96) results96 rfl (hR _ _ _ ?_))
    refine ⟨rfl, r, rfl, fun hp => ?_, fun hb => (hgood hb).elim⟩
    cases hk : lx 58 s with
    | none => rw [lxI, hk] at h3'; simp at h3'
    | some k =>
      obtain ⟨k1, k2, k3⟩ := lx_split hk
      have ek : (lxI 58 s).toNat = k := by rw [lxI, hk]; simp
      refine hr (s.drop (k + 1)) ?_ (plain_digits hp hk)
      rw [ek]
      conv => lhs; rw [k2]
      rw [List.drop_append_of_le_length (by simp; omega)]
      simp
end Go.V
namespace Go.V
open Go.Proofs.Tryz
open Go.RowKit
set_option linter.unusedVariables false
set_option linter.unusedSimpArgs false
set_option maxRecDepth 10000
attribute [local irreducible] Run Ops
theorem name_checkRegistry (I : Imm) (s : Tx) (hs : s.length ≤ 1099511627776) : Pure prog 59 [str s] I fun w J => ∃ r, ErrIs w r ∧ (hostPlain s = true → r = true) ∧ (hostBad s = true → r = false) := by
  refine Spec.enter 11 [(0, _)] func59 rfl ntmps59 (by simp) rfl ?_
  intro C hCf hR hCI
  repeat (first | refine Run.seq ?_ | refine Run.region ?_ | refine Ops.nil ?_ | refine Ops.pure T rfl (by decide) rfl ?_)
  refine Ops.call ((name_zzAuthority I s hs)) rfl (by decide) call96 rfl ?_
  rintro _ J1 l1 ⟨r, rfl, h1, h2⟩
  repeat (first | refine Ops.nil ?_ | refine Ops.pure T rfl (by decide) rfl ?_)
  cases r with
  | true =>
    repeat (first | refine Run.seq ?_ | refine Run.region ?_ | refine Ops.nil ?_ | refine Run.skip ?_ | refine Run.cond_f rfl ?_ | refine Ops.pure T rfl (by decide) rfl ?_)
    refine Run.fin (Run.ret1 (by rw [hCf]; exact func59) results59 rfl (hR _ _ _ ?_))
    exact ⟨rfl, true, ErrIs.nil, h1, h2⟩
  | false =>
    repeat (first | refine Run.seq ?_ | refine Run.region ?_ | refine Run.cond_t rfl ?_ | refine Ops.pure T rfl (by decide) rfl ?_)
    refine Ops.lit T rfl rfl rfl (by decide) rfl (by decide) (by decide) rfl rfl rfl rfl rfl (fun b => ?_)
    refine Ops.call ((name_newErrBadName J1 _ _)) rfl (by decide) call58 rfl ?_
    rintro _ J2 l2 ⟨b2, rfl⟩
    repeat (first | refine Ops.nil ?_ | refine Ops.pure T rfl (by decide) rfl ?_)
    refine Run.fin (Run.ret1 (by rw [hCf]; exact func59) results59 rfl (hR _ _ _ ?_))
    exact ⟨rfl, false, ErrIs.err b2, h1, h2⟩
set_option maxHeartbeats 1000000 in
theorem name_checkElement (I : Imm) (nm el cs : Tx) (a b : Nat) (hel : el.length ≤ 1099511627776) (hcs : cs.length ≤ 1099511627776) (hasc : ascii cs) : Pure prog 100 [str nm, str el, str cs, .int .i64 a, .int .i64 b] I fun w J => ErrIs w (sWithin el cs a b) := by
  have he := within_eq (s := el) (a := a) (b := b) hasc
  refine Spec.enter 46 [(0, _), (1, _), (2, _), (3, _), (4, _)] func100 rfl ntmps100 (by simp) rfl ?_
  intro C hCf hR hCI
  repeat (first | refine Run.seq ?_ | refine Run.region ?_ | refine Ops.nil ?_ | refine Ops.pure T rfl (by decide) rfl ?_)
  refine Ops.call ((utf8_RuneCount I el (by omega))) rfl (by decide) call118 rfl ?_
  rintro _ J1 l1 rfl
  repeat (first | refine Run.seq ?_ | refine Run.region ?_ | refine Ops.nil ?_ | refine Ops.lss rfl (by decide) rfl rfl ?_ | refine Ops.pure T rfl (by decide) rfl ?_)
  cases h1 : decide (((runesW el 0).length : Int) < (a : Int)) with
  | true =>
    repeat (first | refine Run.seq ?_ | refine Run.region ?_ | refine Ops.nil ?_ | refine Run.cond_t rfl ?_ | refine Ops.not rfl (by decide) ?_ | refine Ops.pure T rfl (by decide) rfl ?_)
    refine Ops.lit T rfl rfl rfl (by decide) rfl (by decide) (by decide) rfl rfl rfl rfl rfl (fun b2 => ?_)
    refine Ops.call ((name_newErrBadName J1 _ _)) rfl (by decide) call58 rfl ?_
    rintro _ J2 l2 ⟨b3, rfl⟩
    repeat (first | refine Ops.nil ?_ | refine Ops.pure T rfl (by decide) rfl ?_)
    refine Run.fin (Run.ret1 (by rw [hCf]; exact func100) results100 rfl (hR _ _ _ ?_))
    have hf : sWithin el cs a b = false := by
      rw [← he, decide_eq_false (show ¬ a ≤ (runesW el 0).length by have := of_decide_eq_true h1; omega)]; simp
    exact ⟨rfl, by rw [hf]; exact ErrIs.err b3⟩
  | false =>
  have h1' := of_decide_eq_false h1
  repeat (first | refine Ops.nil ?_ | refine Ops.lss rfl (by decide) rfl rfl ?_ | refine Ops.pure T rfl (by decide) rfl ?_)
  cases h2 : decide ((b : Int) < ((runesW el 0).length : Int)) with
  | true =>
    repeat (first | refine Run.seq ?_ | refine Run.region ?_ | refine Run.cond_t rfl ?_ | refine Ops.pure T rfl (by decide) rfl ?_)
    refine Ops.lit T rfl rfl rfl (by decide) rfl (by decide) (by decide) rfl rfl rfl rfl rfl (fun b2 => ?_)
    refine Ops.call ((name_newErrBadName J1 _ _)) rfl (by decide) call58 rfl ?_
    rintro _ J2 l2 ⟨b3, rfl⟩
    repeat (first | refine Ops.nil ?_ | refine Ops.pure T rfl (by decide) rfl ?_)
    refine Run.fin (Run.ret1 (by rw [hCf]; exact func100) results100 rfl (hR _ _ _ ?_))
    have hf : sWithin el cs a b = false := by
      rw [← he, decide_eq_false (show ¬ (runesW el 0).length ≤ b by have := of_decide_eq_true h2; omega)]; simp
    exact ⟨rfl, by rw [hf]; exact ErrIs.err b3⟩
  | false =>
  have h2' := of_decide_eq_false h2
  repeat (first | refine Run.seq ?_ | refine Run.region ?_ | refine Run.cond_f rfl ?_ | refine Ops.pure T rfl (by decide) rfl ?_)
  refine Ops.call ((name_zzOnly J1 el cs (by omega) (by omega))) rfl (by decide) call105 rfl ?_
  rintro _ J2 l2 rfl
  have ha : allR el cs = sWithin el cs a b := by
    rw [← he, decide_eq_true (show a ≤ (runesW el 0).length by omega), decide_eq_true (show (runesW el 0).length ≤ b by omega), Bool.and_true, Bool.and_true]
    rfl
  rw [ha]
  cases h3 : sWithin el cs a b with
  | false =>
    repeat (first | refine Run.seq ?_ | refine Run.region ?_ | refine Ops.nil ?_ | refine Run.cond_t rfl ?_ | refine Ops.pure T rfl (by decide) rfl ?_)
    refine Ops.lit T rfl rfl rfl (by decide) rfl (by decide) (by decide) rfl rfl rfl rfl rfl (fun b2 => ?_)
    refine Ops.call ((name_newErrBadName J2 _ _)) rfl (by decide) call58 rfl ?_
    rintro _ J3 l3 ⟨b3, rfl⟩
    repeat (first | refine Ops.nil ?_ | refine Ops.pure T rfl (by decide) rfl ?_)
    refine Run.fin (Run.ret1 (by rw [hCf]; exact func100) results100 rfl (hR _ _ _ ?_))
    exact ⟨rfl, by rw [h3]; exact ErrIs.err b3⟩
  | true =>
    repeat (first | refine Run.seq ?_ | refine Run.region ?_ | refine Ops.nil ?_ | refine Run.skip ?_ | refine Run.cond_f rfl ?_ | refine Ops.pure T rfl (by decide) rfl ?_)
    refine Run.fin (Run.ret1 (by rw [hCf]; exact func100) results100 rfl (hR _ _ _ ?_))
    exact ⟨rfl, by rw [h3]; exact ErrIs.nil⟩
theorem name_checkRepository (I : Imm) (s : Tx) (hs : s.length ≤ 1099511627776) : Pure prog 64 [str s] I fun w J => ErrIs w (pathGood s) := by
  refine Spec.enter 5 [(0, _)] func64 rfl ntmps64 (by simp) rfl ?_
  intro C hCf hR hCI
  repeat (first | refine Run.seq ?_ | refine Run.region ?_ | refine Ops.nil ?_ | refine Ops.pure T rfl (by decide) rfl ?_)
  refine Ops.call ((name_checkElement I [114, 101, 112, 111, 115, 105, 116, 111, 114, 121] s (smallT ++ [47]) 1 255 hs (by decide) ascii_sp)) rfl (by decide) call100 rfl ?_
  rintro w J1 l1 hw
  repeat (first | refine Ops.nil ?_ | refine Ops.pure T rfl (by decide) rfl ?_)
  refine Run.fin (Run.ret1 (by rw [hCf]; exact func64) results64 rfl (hR _ _ _ ?_))
  exact ⟨rfl, hw⟩
theorem name_checkTag (I : Imm) (s : Tx) (hs : s.length ≤ 1099511627776) : Pure prog 70 [str s] I fun w J => ErrIs w (tagGood s) := by
  refine Spec.enter 5 [(0, _)] func70 rfl ntmps70 (by simp) rfl ?_
  intro C hCf hR hCI
  repeat (first | refine Run.seq ?_ | refine Run.region ?_ | refine Ops.nil ?_ | refine Ops.pure T rfl (by decide) rfl ?_)
  refine Ops.call ((name_checkElement I [116, 97, 103] s (smallT ++ capT) 1 128 hs (by decide) ascii_st)) rfl (by decide) call100 rfl ?_
  rintro w J1 l1 hw
  repeat (first | refine Ops.nil ?_ | refine Ops.pure T rfl (by decide) rfl ?_)
  refine Run.fin (Run.ret1 (by rw [hCf]; exact func70) results70 rfl (hR _ _ _ ?_))
  exact ⟨rfl, hw⟩
theorem name_hasImplicit (I : Imm) (p r : Tx) (ins : Bool) (hp : p.length ≤ 1099511627776) : Pure prog 65 [str p, .agg [.bool ins, str r].toArray] I fun w J => w = .bool (implNs r p) := by
  refine Spec.enter 13 [(0, _), (1, _)] func65 rfl ntmps65 (by simp) rfl ?_
  intro C hCf hR hCI
  repeat (first | refine Run.seq ?_ | refine Run.region ?_)
  refine Ops.box rfl (by decide) rfl rfl (fun b => ?_)
  repeat (first | refine Run.seq ?_ | refine Run.region ?_ | refine Ops.nil ?_ | refine Ops.pure T rfl (by decide) rfl ?_)
  refine Ops.call ((name_zzContainsRune I p 47 (.inl (by decide)) (by omega))) rfl (by decide) call101 rfl ?_
  rintro _ J1 l1 rfl
  have e : inR 47 p = hasB 47 p := runes_has (c := 47) (by decide)
  rw [e]
  repeat (first | refine Ops.pure T rfl (by decide) rfl ?_)
  cases h : hasB 47 p with
  | true =>
    repeat (first | refine Ops.nil ?_ | refine Ops.not rfl (by decide) ?_ | refine Ops.pure T rfl (by decide) rfl ?_)
    refine Run.fin (Run.ret1 (by rw [hCf]; exact func65) results65 rfl (hR _ _ _ ?_))
    exact ⟨rfl, by simp [implNs, h]⟩
  | false =>
    repeat (first | refine Ops.loadN 0 rfl (by decide) rfl rfl (T.aggOk rfl) (T.sizeOk rfl) rfl rfl ?_)
    refine Ops.call ((Registry_RegistryStr J1 ins r)) rfl (by decide) call76 rfl ?_
    rintro _ J2 l2 rfl
    repeat (first | refine Ops.nil ?_ | refine Ops.eqlStr rfl (by decide) rfl rfl ?_ | refine Ops.pure T rfl (by decide) rfl ?_)
    refine Run.fin (Run.ret1 (by rw [hCf]; exact func65) results65 rfl (hR _ _ _ ?_))
    exact ⟨rfl, by rw [implNs, h, Bool.not_false, Bool.and_true]; rfl⟩
def cut2 (c : UInt8) (s : Tx) : List Tx := match ix c s with
  | some k => [s.take k, s.drop (k + 1)]
  | none => [s]
theorem name_zzSplit2 (I : Imm) (s : Tx) (c : UInt8) (hs : s.length ≤ 1099511627776) : Pure prog 62 [str s, str [c]] I fun w J => Sl tStr J w (cut2 c s) := by
  refine Spec.enter 23 [(0, _), (1, _)] func62 rfl ntmps62 (by simp) rfl ?_
  intro C hCf hR hCI
  repeat (first | refine Run.seq ?_ | refine Run.region ?_ | refine Ops.nil ?_ | refine Ops.pure T rfl (by decide) rfl ?_)
  refine Ops.call ((name_zzIndex s c I (by omega))) rfl (by decide) call98 rfl ?_
  rintro _ J1 l1 rfl
  cases hk : ix c s with
  | none =>
    rw [ixI_none hk]
    repeat (first | refine Run.seq ?_ | refine Run.region ?_ | refine Ops.nil ?_ | refine Run.skip ?_ | refine Run.cond_f rfl ?_ | refine Ops.geq rfl (by decide) rfl rfl ?_ | refine Ops.pure T rfl (by decide) rfl ?_)
    refine Ops.lit T rfl rfl rfl (by decide) rfl (by decide) (by decide) rfl rfl rfl rfl rfl (fun b => ?_)
    repeat (first | refine Ops.nil ?_ | refine Ops.pure T rfl (by decide) rfl ?_)
    refine Run.freeze fun J2 l2 hJ => ?_
    refine Run.fin (Run.ret1 (by rw [hCf]; exact func62) results62 rfl (hR _ _ _ ?_))
    exact ⟨rfl, by rw [cut2, hk]; exact Sl.ofBlock hJ (show Cells tStr J2 [str s] [s] from Cells.strs [s]) rfl (Nat.le_refl 1)⟩
  | some k =>
    rw [ixI_eq hk]
    have hlt := ix_lt hk
    repeat (first | refine Run.seq ?_ | refine Run.region ?_ | refine Ops.nil ?_ | refine Run.cond_t rfl ?_ | refine Ops.geq rfl (by decide) rfl rfl ?_ | refine Ops.pure T rfl (by decide) rfl ?_)
    rw [decide_eq_true (show (0 : Int) ≤ (k : Int) by omega)]
    skip
    refine Run.regionAny (Holds J1 []) (bl 11 0) (by kernel_rfl) (by kernel_rfl) ?_
    refine RAny.tk 0 (bl 11 1) rfl (by kernel_rfl) (by decide) (fun W h => h.holds (Le.refl _) (by first | exact mp rfl | exact mq rfl)) (Yld.eval T rfl rfl) ?_
    refine RAny.tk 1 (bl 11 3) rfl (by kernel_rfl) (by decide) (fun W h => h.holds (Le.refl _) (by first | exact mp rfl | exact mq rfl)) (Yld.eval T rfl rfl) ?_
    refine RAny.tk 2 (bl 11 7) rfl (by kernel_rfl) (by decide) (fun W h => h.holds (Le.refl _) (by first | exact mp rfl | exact mq rfl)) (Yld.as (v' := str (s.take k)) (Yld.sliceHi T rfl rfl rfl rfl (by omega) (by omega)) (by simp)) ?_
    refine RAny.tk 3 (bl 11 15) rfl (by kernel_rfl) (by decide) (fun W h => h.holds (Le.refl _) (by first | exact mp rfl | exact mq rfl)) (Yld.eval T rfl rfl) ?_
    refine RAny.tk 4 (bl 11 31) rfl (by kernel_rfl) (by decide) (fun W h => h.holds (Le.refl _) (by first | exact mp rfl | exact mq rfl)) (Yld.eval T rfl rfl) ?_
    refine RAny.tk 5 (bl 11 63) rfl (by kernel_rfl) (by decide) (fun W h => h.holds (Le.refl _) (by first | exact mp rfl | exact mq rfl)) (Yld.eval T rfl rfl) ?_
    refine RAny.tk 6 (bl 11 127) rfl (by kernel_rfl) (by decide) (fun W h => h.holds (Le.refl _) (by first | exact mp rfl | exact mq rfl)) (Yld.lenS T rfl rfl rfl) ?_
    refine RAny.tk 7 (bl 11 255) rfl (by kernel_rfl) (by decide) (fun W h => h.holds (Le.refl _) (by first | exact mp rfl | exact mq rfl)) (Yld.as (v' := .int .i64 ((k : Int) + 1)) (Yld.add rfl rfl rfl (wI (by simp; omega) (by simp; omega))) (by simp)) ?_
    refine RAny.tk 8 (bl 11 511) rfl (by kernel_rfl) (by decide) (fun W h => h.holds (Le.refl _) (by first | exact mp rfl | exact mq rfl)) (Yld.as (v' := str (s.drop (k + 1))) (Yld.sliceLo T rfl rfl rfl rfl (by omega) (by omega)) (by congr 2)) ?_
    refine RAny.on 9 (bl 11 1023) rfl (by kernel_rfl) rfl (by decide) (Eff.lit T rfl rfl rfl (by decide) (by decide) rfl rfl rfl rfl rfl fun b => ⟨fun W h => h.holds (Le.refl _) (fun _ h => by cases h), ?_⟩)
    refine RAny.freeze fun J2 l2 hJ => ?_
    refine RAny.tk 10 (bl 11 2047) rfl (by kernel_rfl) (by decide) (fun W h => h.holds l2 (fun _ h => by cases h)) (Yld.eval T rfl rfl) ?_
    refine RAny.done _ (by kernel_rfl) ?_
    skip
    refine Run.fin (Run.ret1 (by rw [hCf]; exact func62) results62 rfl (hR _ _ _ ?_))
    exact ⟨rfl, by rw [cut2, hk]; exact Sl.ofBlock hJ (show Cells tStr J2 [str (s.take k), str (s.drop (k + 1))] [s.take k, s.drop (k + 1)] from Cells.strs [s.take k, s.drop (k + 1)]) rfl (Nat.le_refl 2)⟩
theorem otherDig_of {s : Tx} {k : Nat} (hk : ix 58 s = some k) (h1 : s.take k = [115, 104, 97, 51, 56, 52] ∨ s.take k = [115, 104, 97, 53, 49, 50]) (h2 : k + 1 ≠ s.length) : otherDig s = true := by
  have hlt := ix_lt hk
  have hk6 : k = 6 := by
    have : (s.take k).length = 6 := by rcases h1 with h | h <;> (rw [h]; rfl)
    simp at this; omega
  subst hk6
  obtain ⟨e, _⟩ := ix_split hk
  have h6 : s[6]? = some 58 := by
    conv => lhs; rw [e]
    rw [List.getElem?_append_right (by simp; omega)]
    simp [Nat.min_eq_left (show 6 ≤ s.length by omega)]
  have h7 : s.take 7 = s.take 6 ++ [58] := by
    rw [show 7 = 6 + 1 from rfl, List.take_add_one, h6]; rfl
  unfold otherDig
  rw [h7, decide_eq_true (show 7 < s.length by omega)]
  rcases h1 with h | h <;> (rw [h]; rfl)
theorem digGood_ix {s : Tx} (h : digGood s = true) : ix 58 s = some 6 ∧ s.take 6 = [115, 104, 97, 50, 53, 54] ∧ s.length = 71 ∧ allIn hexT (s.drop 7) = true := by
  simp only [digGood, Bool.and_eq_true, decide_eq_true_eq] at h
  obtain ⟨h1, h2, h3⟩ := h
  have e : s = [115, 104, 97, 50, 53, 54] ++ 58 :: s.drop 7 := by
    conv => lhs; rw [← List.take_append_drop 7 s, h2]
    rfl
  refine ⟨?_, ?_, h1, (sWithin_all h3).1⟩
  · rw [e]; exact ix_app (x := [115, 104, 97, 50, 53, 54]) (by decide)
  · rw [e]; rfl
end Go.V
namespace Go.V
open Go.Proofs.Tryz
open Go.RowKit Go.Shelf
set_option linter.unusedVariables false
set_option linter.unusedSimpArgs false
set_option maxRecDepth 10000
attribute [local irreducible] Run Ops
theorem extra156 : Proofs.Builder.Extra prog ren156 :=
  { sizeBuilder := by kernel_rfl, liesBuilder := by kernel_rfl, t5 := underlying5, a5 := isAgg5, z5 := sizeOf5, v5 := zeroValue5, infoByte := by kernel_rfl, cellsByte := by kernel_rfl, sizeByte := by kernel_rfl, neB5 := by decide }
abbrev Txts := List Tx
theorem bb_toList (x : Tx) : (⟨x.toArray⟩ : ByteArray).data.toList = x := by simp
theorem Sl.cell {I : Imm} {W : World} {v : Value} {xs : Txts} (hS : Sl tStr I v xs) (hf : ∀ b o, I b = some o → W.heap[b]? = some o) (hne : xs ≠ []) : ∃ b off c, v = .slice (some ⟨b, off, none⟩) xs.length c ∧ xs.length ≤ c ∧ b < W.heap.size ∧ ∀ (j : Nat) x, xs[j]? = some x → W.cell? ⟨b, off + j, none⟩ = some (str x) := by
  obtain ⟨A, c, rfl, hc, hrow⟩ := hS
  rcases hrow with rfl | ⟨b, off, rfl, hrow⟩
  · exact absurd rfl hne
  have key : ∀ (j : Nat) x, xs[j]? = some x → W.cell? ⟨b, off + j, none⟩ = some (str x) := by
    intro j x hx
    obtain ⟨cs, hr, hA⟩ := hrow j x hx
    obtain rfl : cs = [str x] := hr
    obtain ⟨cells, t, fr, h1, h2⟩ := hA
    have := h2 0 (str x) rfl
    rw [cell_blk (hf b _ h1)]
    have e : off + j * tStr.size = off + j := by rw [show tStr.size = 1 from rfl, Nat.mul_one]
    rw [e] at this
    exact this
  refine ⟨b, off, c, rfl, hc, ?_, key⟩
  cases xs with
  | nil => exact absurd rfl hne
  | cons x r =>
    obtain ⟨cs, hr, hA⟩ := hrow 0 x rfl
    obtain ⟨cells, t, fr, h1, _⟩ := hA
    exact (Array.getElem?_eq_some_iff.1 (hf b _ h1)).1
theorem strings_Join (I : Imm) (xs : Txts) (sep : Tx) (v : Value) (hS : Sl tStr I v xs) (hN : xs.length ≤ 140737488355328) (hlen : (Lib.join xs sep).length ≤ 140737488355328) : Pure prog 69 [v, str sep] I fun w J => w = str (Lib.join xs sep) ∧ J = I := by
  refine Pure.ofBelow fun w hf => ?_
  match xs, hS, hN, hlen with
  | [], hS, _, _ =>
    obtain ⟨A, c, rfl, _⟩ := hS
    refine (Proofs.Any.strings_Join_none lays156 extra156 A c ⟨sep.toArray⟩ w).mono ?_
    rintro e w' ⟨rfl, rfl⟩
    exact ⟨by rw [Lib.join_nil]; rfl, Below.refl _ _⟩
  | [x], hS, _, _ =>
    obtain ⟨b, off, c, rfl, _, _, hc⟩ := hS.cell hf.imm (by simp)
    refine (Proofs.Any.strings_Join_one lays156 extra156 b off c ⟨x.toArray⟩ ⟨sep.toArray⟩ w (hc 0 x rfl)).mono ?_
    rintro e w' ⟨rfl, rfl⟩
    exact ⟨by rw [Lib.join_one]; rfl, Below.refl _ _⟩
  | x :: y :: r, hS, hN, hlen =>
    obtain ⟨b, off, c, rfl, hcap, hb, hc⟩ := hS.cell hf.imm (by simp)
    have em : ∀ l : Txts, (l.map fun x => (⟨x.toArray⟩ : ByteArray)).map (·.data.toList) = l := by
      intro l
      rw [List.map_map]
      conv => rhs; rw [← List.map_id l]
      exact List.map_congr_left fun x _ => bb_toList x
    have := Proofs.Any.strings_Join_many lays156 extra156 b off c ((x :: y :: r).map fun x => ⟨x.toArray⟩) ⟨sep.toArray⟩ w (by
      intro j z hz
      rw [List.getElem?_map] at hz
      obtain ⟨q, hq, rfl⟩ := Option.map_eq_some_iff.1 hz
      exact hc j q hq) hb (by simp) (by simpa using hN) (by simpa using hcap) (by rw [em, bb_toList]; exact hlen)
    rw [em, bb_toList, List.length_map] at this
    exact this
theorem join_cons2 (x y : Tx) (r : Txts) (sep : Tx) : Lib.join (x :: y :: r) sep = x ++ sep ++ Lib.join (y :: r) sep := by
  rw [Lib.join_cons, Lib.join_cons]
  simp [Lib.joinTail]
theorem join_spl (c : UInt8) : ∀ s : Tx, Lib.join (spl c s) [c] = s
  | [] => by simp [spl, Lib.join_one]
  | b :: r => by
    have ih := join_spl c r
    simp only [spl]
    by_cases h : b = c
    · rw [if_pos h]
      cases hr : spl c r with
      | nil => exact absurd hr (spl_pos c r)
      | cons y ys =>
        rw [join_cons2, ← hr, ih, h]; rfl
    · rw [if_neg h]
      cases hr : spl c r with
      | nil => exact absurd hr (spl_pos c r)
      | cons y ys =>
        rw [hr] at ih
        cases ys with
        | nil => rw [Lib.join_one] at ih ⊢; rw [ih]
        | cons z zs =>
          simp only
          rw [join_cons2] at ih ⊢
          rw [← ih]; simp
theorem spl_app2 (c : UInt8) (t : Tx) (ht : hasB c t = false) : ∀ x : Tx, spl c (x ++ c :: t) = spl c x ++ [t]
  | [] => by
    have : spl c t = [t] := spl_none (ix_none.2 ht)
    simp [spl, this]
  | b :: r => by
    simp only [List.cons_append, spl, spl_app2 c t ht r]
    by_cases h : b = c
    · simp [h]
    · rw [if_neg h, if_neg h]
      cases hr : spl c r with
      | nil => exact absurd hr (spl_pos c r)
      | cons y ys => simp
theorem spl_last {c : UInt8} {s : Tx} {k : Nat} (h : lx c s = some k) : spl c s = spl c (s.take k) ++ [s.drop (k + 1)] ∧ Lib.join (spl c (s.take k)) [c] = s.take k := by
  obtain ⟨_, e, hn⟩ := lx_split h
  refine ⟨?_, join_spl c _⟩
  conv => lhs; rw [e]
  exact spl_app2 c _ hn _
theorem spl_no {c : UInt8} {s : Tx} (h : lx c s = none) : spl c s = [s] := spl_none (ix_none.2 (lx_none.1 h))
theorem spl_two {c : UInt8} {s : Tx} {k : Nat} (h1 : ix c s = some k) (h2 : lx c s = some k) : spl c s = [s.take k, s.drop (k + 1)] := by
  rw [(spl_last h2).1, spl_none (ix_none.2 (ix_split h1).2)]; rfl
theorem spl_len2 {c : UInt8} {s : Tx} (h : (spl c s).length = 2) : ∃ k, ix c s = some k ∧ lx c s = some k := by
  cases hk : ix c s with
  | none => rw [spl_none hk] at h; simp at h
  | some k =>
    rw [spl_some hk] at h
    have h1 : (spl c (s.drop (k + 1))).length = 1 := by simpa using h
    have hn : hasB c (s.drop (k + 1)) = false := by
      rw [← ix_none]
      cases hj : ix c (s.drop (k + 1)) with
      | none => rfl
      | some j =>
        rw [spl_some hj] at h1
        have h3 := List.length_pos_iff.2 (spl_pos c ((s.drop (k + 1)).drop (j + 1)))
        rw [List.length_cons] at h1
        omega
    refine ⟨k, rfl, ?_⟩
    obtain ⟨e, _⟩ := ix_split hk
    conv => lhs; rw [e]
    rw [lx_app hn]
    have := ix_lt hk
    simp; omega
end Go.V
namespace Go.V
open Go.Proofs.Tryz
open Go.RowKit
set_option linter.unusedVariables false
set_option linter.unusedSimpArgs false
set_option maxRecDepth 10000
attribute [local irreducible] Run Ops
inductive Opt where
  | strict
  | ins
  | reg (s : Tx)
  | tag (s : Tx)
def tOpt : Ty Opt := ⟨1, fun I cs x => match x with
    | .strict => cs = [.func (.func 91) #[] #[]]
    | .ins => cs = [.func (.func 92) #[] #[]]
    | .reg s => ∃ b, cs = [.func (.func 113) #[] #[.pointer (some ⟨b, 0, none⟩)]] ∧ I b = some (blk [str s] 9)
    | .tag s => ∃ b, cs = [.func (.func 114) #[] #[.pointer (some ⟨b, 0, none⟩)]] ∧ I b = some (blk [str s] 9),
  fun {I cs x} h => by
    cases x with
    | strict => have h : cs = _ := h; subst h; rfl
    | ins => have h : cs = _ := h; subst h; rfl
    | reg s => obtain ⟨b, h, _⟩ := h; subst h; rfl
    | tag s => obtain ⟨b, h, _⟩ := h; subst h; rfl,
  fun {I J cs x} h hle => by
    cases x with
    | strict => exact h
    | ins => exact h
    | reg s => obtain ⟨b, h, h2⟩ := h; exact ⟨b, h, hle _ _ h2⟩
    | tag s => obtain ⟨b, h, h2⟩ := h; exact ⟨b, h, hle _ _ h2⟩⟩
def NOpt.opts (o : NOpt) : List Opt := (if o.strict then [.strict] else []) ++ (if o.ins then [.ins] else []) ++ (if o.reg = [] then [] else [.reg o.reg]) ++ (if o.tag = [] then [] else [.tag o.tag])
def Opt.put : Opt → NOpt → NOpt
  | .strict, o => { o with strict := true }
  | .ins, o => { o with ins := true }
  | .reg s, o => { o with reg := s }
  | .tag s, o => { o with tag := s }
def optsOf (l : List Opt) : NOpt := l.foldl (fun o x => x.put o) ⟨false, false, hubT, latestT⟩
theorem optsOf_opts (o : NOpt) : optsOf o.opts = ⟨o.strict, o.ins, hub o.reg, tagOr o.tag⟩ := by
  obtain ⟨a, b, c, d⟩ := o
  unfold optsOf NOpt.opts hub tagOr
  cases a <;> cases b <;> by_cases h1 : c = [] <;> by_cases h2 : d = [] <;> simp [h1, h2, Opt.put]
theorem name_WithDefaultRegistry (I : Imm) (s : Tx) : Pure prog 93 [str s] I fun w J => tOpt.rel J [w] (.reg s) := by
  refine Spec.enter 4 [(0, _)] func93 rfl ntmps93 (by simp) rfl ?_
  intro C hCf hR hCI
  repeat (first | refine Run.seq ?_ | refine Run.region ?_)
  refine Ops.box rfl (by decide) rfl rfl (fun b => ?_)
  repeat (first | refine Run.seq ?_ | refine Run.region ?_ | refine Ops.nil ?_ | refine Ops.pure T rfl (by decide) rfl ?_)
  refine Run.freeze fun J l hJ => ?_
  refine Run.fin (Run.ret1 (by rw [hCf]; exact func93) results93 rfl (hR _ _ _ ?_))
  exact ⟨rfl, b, rfl, hJ⟩
theorem name_WithDefaultTag (I : Imm) (s : Tx) : Pure prog 94 [str s] I fun w J => tOpt.rel J [w] (.tag s) := by
  refine Spec.enter 4 [(0, _)] func94 rfl ntmps94 (by simp) rfl ?_
  intro C hCf hR hCI
  repeat (first | refine Run.seq ?_ | refine Run.region ?_)
  refine Ops.box rfl (by decide) rfl rfl (fun b => ?_)
  repeat (first | refine Run.seq ?_ | refine Run.region ?_ | refine Ops.nil ?_ | refine Ops.pure T rfl (by decide) rfl ?_)
  refine Run.freeze fun J l hJ => ?_
  refine Run.fin (Run.ret1 (by rw [hCf]; exact func94) results94 rfl (hR _ _ _ ?_))
  exact ⟨rfl, b, rfl, hJ⟩
theorem name_StrictValidation (I : Imm) (b : Nat) (o : NOpt) : Spec prog 91 [.pointer (some ⟨b, 0, none⟩)] I [(b, blk o.cs 86)] fun w J M => J = I ∧ M = [(b, blk (Opt.strict.put o).cs 86)] := by
  refine Spec.enter 5 [(0, _)] func91 rfl ntmps91 (by simp) rfl ?_
  intro C hCf hR hCI
  repeat (first | refine Run.region ?_ | refine Ops.nil ?_ | refine Ops.pure T rfl (by decide) rfl ?_ | refine Ops.store 0 rfl rfl rfl rfl rfl (T.sizeOk rfl) rfl (Nat.le_of_ble_eq_true rfl) rfl rfl ?_)
  refine Run.end0 (by rw [hCf]; exact func91) results91 (hR _ _ _ ⟨rfl, rfl⟩)
theorem name_Insecure (I : Imm) (b : Nat) (o : NOpt) : Spec prog 92 [.pointer (some ⟨b, 0, none⟩)] I [(b, blk o.cs 86)] fun w J M => J = I ∧ M = [(b, blk (Opt.ins.put o).cs 86)] := by
  refine Spec.enter 5 [(0, _)] func92 rfl ntmps92 (by simp) rfl ?_
  intro C hCf hR hCI
  repeat (first | refine Run.region ?_ | refine Ops.nil ?_ | refine Ops.pure T rfl (by decide) rfl ?_ | refine Ops.store 0 rfl rfl rfl rfl rfl (T.sizeOk rfl) rfl (Nat.le_of_ble_eq_true rfl) rfl rfl ?_)
  refine Run.end0 (by rw [hCf]; exact func92) results92 (hR _ _ _ ⟨rfl, rfl⟩)
theorem name_WithDefaultRegistry1 (I : Imm) (b b2 : Nat) (o : NOpt) (s : Tx) (h : I b2 = some (blk [str s] 9)) : Spec prog 113 [.pointer (some ⟨b, 0, none⟩), .pointer (some ⟨b2, 0, none⟩)] I [(b, blk o.cs 86)] fun w J M => J = I ∧ M = [(b, blk ((Opt.reg s).put o).cs 86)] := by
  refine Spec.enter 7 [(0, _), (1, _)] func113 rfl ntmps113 (by simp) rfl ?_
  intro C hCf hR hCI
  repeat (first | refine Run.region ?_ | refine Ops.pure T rfl (by decide) rfl ?_)
  refine Ops.loadI rfl (by decide) rfl ((At.block h)) (T.aggOk rfl) ?_
  repeat (first | refine Ops.nil ?_ | refine Ops.pure T rfl (by decide) rfl ?_ | refine Ops.store 0 rfl rfl rfl rfl rfl (T.sizeOk rfl) rfl (Nat.le_of_ble_eq_true rfl) rfl rfl ?_)
  refine Run.end0 (by rw [hCf]; exact func113) results113 (hR _ _ _ ⟨rfl, rfl⟩)
theorem name_WithDefaultTag1 (I : Imm) (b b2 : Nat) (o : NOpt) (s : Tx) (h : I b2 = some (blk [str s] 9)) : Spec prog 114 [.pointer (some ⟨b, 0, none⟩), .pointer (some ⟨b2, 0, none⟩)] I [(b, blk o.cs 86)] fun w J M => J = I ∧ M = [(b, blk ((Opt.tag s).put o).cs 86)] := by
  refine Spec.enter 7 [(0, _), (1, _)] func114 rfl ntmps114 (by simp) rfl ?_
  intro C hCf hR hCI
  repeat (first | refine Run.region ?_ | refine Ops.pure T rfl (by decide) rfl ?_)
  refine Ops.loadI rfl (by decide) rfl ((At.block h)) (T.aggOk rfl) ?_
  repeat (first | refine Ops.nil ?_ | refine Ops.pure T rfl (by decide) rfl ?_ | refine Ops.store 0 rfl rfl rfl rfl rfl (T.sizeOk rfl) rfl (Nat.le_of_ble_eq_true rfl) rfl rfl ?_)
  refine Run.end0 (by rw [hCf]; exact func114) results114 (hR _ _ _ ⟨rfl, rfl⟩)
set_option maxHeartbeats 2000000 in
theorem name_makeOptions (I : Imm) (xs : List Opt) (v : Value) (hS : Sl tOpt I v xs) (hlen : xs.length ≤ 2147483647) : Pure prog 57 [v] I fun w J => w = .agg (optsOf xs).cs.toArray := by
  refine Spec.enter 17 [(0, _)] func57 rfl ntmps57 (by simp) rfl ?_
  intro C hCf hR hCI
  repeat (first | refine Run.seq ?_ | refine Run.region ?_)
  refine Ops.alloc rfl (by decide) (T.zeroOk rfl) rfl (fun b => ?_)
  repeat (first | refine Run.seq ?_ | refine Run.region ?_ | refine Ops.nil ?_)
  refine Ops.buildL bd86 rfl (by decide) rfl rfl ?_
  refine Ops.alloc rfl (by decide) (T.zeroOk rfl) rfl (fun b2 => ?_)
  repeat (first | refine Run.seq ?_ | refine Run.region ?_ | refine Ops.nil ?_ | refine Ops.pure T rfl (by decide) rfl ?_ | refine Ops.store 0 rfl rfl rfl rfl rfl (T.sizeOk rfl) rfl (Nat.le_of_ble_eq_true rfl) rfl rfl ?_)
  refine Ops.lenSl (hS) rfl (by decide) rfl (T.undOk rfl) ?_
  repeat (first | refine Ops.nil ?_ | refine Run.block ?_ | refine Ops.pure T rfl (by decide) rfl ?_)
  refine Run.keep [2, 3, 7, 8, 9] [_, _, _, _, _] rfl ?_
  refine Run.rounds (fun m env L J => ∃ (i : Nat) (o : NOpt), m = xs.length - i ∧ i ≤ xs.length ∧ (xs.drop i).foldl (fun o x => x.put o) o = optsOf xs ∧
    env = [(2, .pointer (some ⟨b, 0, none⟩)), (3, .pointer (some ⟨b2, 0, none⟩)), (7, v), (8, .int .i64 xs.length), (9, .int .i64 i)] ∧
    L = [(b2, blk o.cs 86), (b, blk (NOpt.mk false false [] []).cs 86)] ∧ Le I J) xs.length ⟨0, ⟨false, false, hubT, latestT⟩, by omega, by omega, rfl, rfl, rfl, Le.refl _⟩ ?_
  rintro m env L J ⟨i, o, rfl, hi, hfold, rfl, rfl, hle⟩ ih
  repeat (first | refine Run.seq ?_ | refine Run.region ?_ | refine Ops.nil ?_ | refine Ops.lss rfl (by decide) rfl rfl ?_)
  refine Run.cond rfl rfl (fun h => ?_) (fun h => ?_)
  all_goals (try rw [h])
  all_goals (try simp only [decide_eq_true_eq, decide_eq_false_iff_not, Bool.not_eq_true', Bool.not_eq_false', Bool.and_eq_true, Bool.or_eq_true, Bool.and_eq_false_imp, Bool.or_eq_false_iff] at h)
  · have hi' : i < xs.length := by omega
    rw [List.drop_eq_getElem_cons hi', List.foldl_cons] at hfold
    repeat (first | refine Run.seq ?_ | refine Run.region ?_ | refine Run.skip ?_ | refine Run.block ?_)
    refine Ops.indexSl (hS.mono hle) rfl (by decide) rfl rfl (T.undOk rfl) (T.sizeOk rfl) (by omega) (by omega) ?_
    rintro b_ off_ x cs_ hx hr_ hA_
    rw [Int.toNat_natCast, List.getElem?_eq_getElem hi'] at hx
    cases hx
    cases hxe : xs[i] with
    | strict =>
      rw [hxe] at hr_ hfold
      have hr2 : cs_ = _ := hr_
      subst hr2
      refine Ops.loadI rfl (by decide) rfl hA_ (T.aggOk rfl) ?_
      repeat (first | refine Run.region ?_ | refine Ops.nil ?_ | refine Ops.pure T rfl (by decide) rfl ?_)
      refine Ops.callVX (vs := [_]) (ws := []) (M := [_]) (N := [_]) (name_StrictValidation J b2 o) (.refl _) rfl (by decide) call91 rfl rfl ?_
      rintro _ J2 M l2 ⟨rfl, rfl⟩
      repeat (first | refine Run.region ?_ | refine Ops.nil ?_ | refine Run.inBlock ?_ | refine Ops.add rfl (by decide) rfl rfl (wI (by first | omega | (simp only [List.length_cons, List.length_nil] ; omega) | (simp; omega)) (by first | omega | (simp only [List.length_cons, List.length_nil] ; omega) | (simp; omega))) ?_ | refine Ops.pure T rfl (by decide) rfl ?_)
      refine Run.keep [2, 3, 7, 8, 9] [_, _, _, _, _] rfl ?_
      refine ih (xs.length - (i + 1)) _ _ _ (by omega) ⟨i + 1, _, rfl, by omega, ?_, rfl, rfl, hle.trans l2⟩
      exact hfold
    | ins =>
      rw [hxe] at hr_ hfold
      have hr2 : cs_ = _ := hr_
      subst hr2
      refine Ops.loadI rfl (by decide) rfl hA_ (T.aggOk rfl) ?_
      repeat (first | refine Run.region ?_ | refine Ops.nil ?_ | refine Ops.pure T rfl (by decide) rfl ?_)
      refine Ops.callVX (vs := [_]) (ws := []) (M := [_]) (N := [_]) (name_Insecure J b2 o) (.refl _) rfl (by decide) call92 rfl rfl ?_
      rintro _ J2 M l2 ⟨rfl, rfl⟩
      repeat (first | refine Run.region ?_ | refine Ops.nil ?_ | refine Run.inBlock ?_ | refine Ops.add rfl (by decide) rfl rfl (wI (by first | omega | (simp only [List.length_cons, List.length_nil] ; omega) | (simp; omega)) (by first | omega | (simp only [List.length_cons, List.length_nil] ; omega) | (simp; omega))) ?_ | refine Ops.pure T rfl (by decide) rfl ?_)
      refine Run.keep [2, 3, 7, 8, 9] [_, _, _, _, _] rfl ?_
      refine ih (xs.length - (i + 1)) _ _ _ (by omega) ⟨i + 1, _, rfl, by omega, ?_, rfl, rfl, hle.trans l2⟩
      exact hfold
    | reg s =>
      rw [hxe] at hr_ hfold
      obtain ⟨b3, rfl, hb3⟩ := hr_
      refine Ops.loadI rfl (by decide) rfl hA_ (T.aggOk rfl) ?_
      repeat (first | refine Run.region ?_ | refine Ops.nil ?_ | refine Ops.pure T rfl (by decide) rfl ?_)
      refine Ops.callVX (vs := [_]) (ws := [_]) (M := [_]) (N := [_]) (name_WithDefaultRegistry1 J b2 b3 o s hb3) (.refl _) rfl (by decide) call113 rfl rfl ?_
      rintro _ J2 M l2 ⟨rfl, rfl⟩
      repeat (first | refine Run.region ?_ | refine Ops.nil ?_ | refine Run.inBlock ?_ | refine Ops.add rfl (by decide) rfl rfl (wI (by first | omega | (simp only [List.length_cons, List.length_nil] ; omega) | (simp; omega)) (by first | omega | (simp only [List.length_cons, List.length_nil] ; omega) | (simp; omega))) ?_ | refine Ops.pure T rfl (by decide) rfl ?_)
      refine Run.keep [2, 3, 7, 8, 9] [_, _, _, _, _] rfl ?_
      refine ih (xs.length - (i + 1)) _ _ _ (by omega) ⟨i + 1, _, rfl, by omega, ?_, rfl, rfl, hle.trans l2⟩
      exact hfold
    | tag s =>
      rw [hxe] at hr_ hfold
      obtain ⟨b3, rfl, hb3⟩ := hr_
      refine Ops.loadI rfl (by decide) rfl hA_ (T.aggOk rfl) ?_
      repeat (first | refine Run.region ?_ | refine Ops.nil ?_ | refine Ops.pure T rfl (by decide) rfl ?_)
      refine Ops.callVX (vs := [_]) (ws := [_]) (M := [_]) (N := [_]) (name_WithDefaultTag1 J b2 b3 o s hb3) (.refl _) rfl (by decide) call114 rfl rfl ?_
      rintro _ J2 M l2 ⟨rfl, rfl⟩
      repeat (first | refine Run.region ?_ | refine Ops.nil ?_ | refine Run.inBlock ?_ | refine Ops.add rfl (by decide) rfl rfl (wI (by first | omega | (simp only [List.length_cons, List.length_nil] ; omega) | (simp; omega)) (by first | omega | (simp only [List.length_cons, List.length_nil] ; omega) | (simp; omega))) ?_ | refine Ops.pure T rfl (by decide) rfl ?_)
      refine Run.keep [2, 3, 7, 8, 9] [_, _, _, _, _] rfl ?_
      refine ih (xs.length - (i + 1)) _ _ _ (by omega) ⟨i + 1, _, rfl, by omega, ?_, rfl, rfl, hle.trans l2⟩
      exact hfold
  · have : i = xs.length := by omega
    subst this
    rw [List.drop_length] at hfold
    repeat (first | refine Run.seq ?_ | refine Run.region ?_ | refine Ops.nil ?_ | refine Run.exit rfl ?_ | refine Ops.loadN 0 rfl (by decide) rfl rfl (T.aggOk rfl) (T.sizeOk rfl) rfl rfl ?_ | refine Ops.store 1 rfl rfl rfl rfl rfl (T.sizeOk rfl) rfl (Nat.le_of_ble_eq_true rfl) rfl rfl ?_)
    refine Run.retC T 1 (by rw [hCf]; exact func57) results57 rfl rfl rfl rfl rfl rfl (hR _ _ _ ?_)
    exact ⟨rfl, by rw [← hfold]; rfl⟩
theorem tOpt.one {I : Imm} {cs : List Value} {x : Opt} (h : tOpt.rel I cs x) : V.one cs = true := by
  cases x with
  | strict => have h : cs = _ := h; subst h; rfl
  | ins => have h : cs = _ := h; subst h; rfl
  | reg s => obtain ⟨b, h, _⟩ := h; subst h; rfl
  | tag s => obtain ⟨b, h, _⟩ := h; subst h; rfl
set_option maxHeartbeats 2000000 in
theorem NameOpts_options (I : Imm) (o : NOpt) : Pure prog 55 [.agg o.cs.toArray] I fun w J => Sl tOpt J w o.opts := by
  refine Spec.enter 32 [(0, _)] func55 rfl ntmps55 (by simp) rfl ?_
  intro C hCf hR hCI
  repeat (first | refine Run.seq ?_ | refine Run.region ?_)
  refine Ops.box rfl (by decide) rfl rfl (fun b => ?_)
  repeat (first | refine Run.seq ?_ | refine Run.region ?_ | refine Ops.nil ?_ | refine Ops.pure T rfl (by decide) rfl ?_ | refine Ops.load 0 rfl (by decide) rfl rfl (T.aggOk rfl) rfl ?_)
  have hG : Gr tOpt I 109 (.slice none 0 0) [] [] := Gr.nil _ _ _
  have hl : ([] : List Opt).length ≤ 0 := Nat.le_refl _
  refine Run.merge (fun env' L' I' => ∃ v M, env' = [(1, .pointer (some ⟨b, 0, none⟩)), (2, v)] ∧ L' = [(b, blk o.cs 30)] ++ M ∧ Gr tOpt I' 109 v (if o.strict then [.strict] else []) M ∧ (if o.strict then [Opt.strict] else []).length ≤ 1) rfl ?_ ?_ ?_
  · intro h k' fin
    repeat (first | refine Run.region ?_ | refine Ops.pure T rfl (by decide) rfl ?_)
    refine Ops.lit T rfl rfl rfl (by decide) rfl (by decide) (by decide) rfl rfl rfl rfl rfl (fun b2 => ?_)
    refine Ops.appOne (y := Opt.strict) (N := [_]) el80 hG rfl rfl (by decide) rfl rfl rfl rfl (by decide) (by decide) ?_
    rintro v2 M2 hG2
    repeat (first | refine Ops.nil ?_ | refine Ops.pure T rfl (by decide) rfl ?_)
    refine Run.keep [1, 2] [_, _] rfl ?_
    exact fin _ _ _ ⟨v2, M2, rfl, rfl, by rw [h]; exact hG2, by rw [h]; decide⟩
  · intro h k' fin
    repeat (first | refine Run.skip ?_)
    refine Run.keep [1, 2] [_, _] rfl ?_
    exact fin _ _ _ ⟨_, _, rfl, rfl, by rw [h]; exact hG, by rw [h]; decide⟩
  clear hG hl
  generalize hx1 : (if o.strict then [Opt.strict] else []) = x1
  rintro env L J1 ⟨v, M, rfl, rfl, hG, hl⟩
  repeat (first | refine Run.seq ?_ | refine Run.region ?_ | refine Ops.nil ?_ | refine Ops.pure T rfl (by decide) rfl ?_ | refine Ops.load 0 rfl (by decide) rfl rfl (T.aggOk rfl) rfl ?_)
  refine Run.merge (fun env' L' I' => ∃ v M, env' = [(1, .pointer (some ⟨b, 0, none⟩)), (2, v)] ∧ L' = [(b, blk o.cs 30)] ++ M ∧ Gr tOpt I' 109 v (x1 ++ (if o.ins then [.ins] else [])) M ∧ (x1 ++ (if o.ins then [Opt.ins] else [])).length ≤ 2) rfl ?_ ?_ ?_
  · intro h k' fin
    repeat (first | refine Run.region ?_ | refine Ops.pure T rfl (by decide) rfl ?_)
    refine Ops.lit T rfl rfl rfl (by decide) rfl (by decide) (by decide) rfl rfl rfl rfl rfl (fun b2 => ?_)
    refine Ops.appOne (y := Opt.ins) (N := [_]) el80 hG rfl rfl (by decide) rfl rfl rfl rfl (by omega) (by omega) ?_
    rintro v2 M2 hG2
    repeat (first | refine Ops.nil ?_ | refine Ops.pure T rfl (by decide) rfl ?_)
    refine Run.keep [1, 2] [_, _] rfl ?_
    exact fin _ _ _ ⟨v2, M2, rfl, rfl, by rw [h]; exact hG2, by rw [h]; simp; omega⟩
  · intro h k' fin
    repeat (first | refine Run.skip ?_)
    refine Run.keep [1, 2] [_, _] rfl ?_
    exact fin _ _ _ ⟨_, _, rfl, rfl, by rw [h]; simpa using hG, by rw [h]; simp; omega⟩
  clear hG hl
  generalize hx2 : x1 ++ (if o.ins then [Opt.ins] else []) = x2
  rintro env L J2 ⟨v, M, rfl, rfl, hG, hl⟩
  repeat (first | refine Run.seq ?_ | refine Run.region ?_ | refine Ops.nil ?_ | refine Ops.neqStr rfl (by decide) rfl rfl ?_ | refine Ops.pure T rfl (by decide) rfl ?_ | refine Ops.load 0 rfl (by decide) rfl rfl (T.aggOk rfl) rfl ?_)
  refine Run.merge (fun env' L' I' => ∃ v M, env' = [(1, .pointer (some ⟨b, 0, none⟩)), (2, v)] ∧ L' = [(b, blk o.cs 30)] ++ M ∧ Gr tOpt I' 109 v (x2 ++ (if o.reg = [] then [] else [.reg o.reg])) M ∧ (x2 ++ (if o.reg = [] then [] else [Opt.reg o.reg])).length ≤ 3) rfl ?_ ?_ ?_
  · intro h k' fin
    have h' : ¬ o.reg = [] := by simpa using h
    repeat (first | refine Run.region ?_ | refine Ops.pure T rfl (by decide) rfl ?_ | refine Ops.load 0 rfl (by decide) rfl rfl (T.aggOk rfl) rfl ?_)
    refine Ops.call ((name_WithDefaultRegistry J2 o.reg)) rfl (by decide) call93 rfl ?_
    rintro w J3 l3 hw
    obtain ⟨b3, hw1, hw2⟩ := hw
    cases hw1
    refine Ops.lit T rfl rfl rfl (by decide) rfl (by decide) (by decide) rfl rfl rfl rfl rfl (fun b2 => ?_)
    refine Ops.appOne (y := Opt.reg o.reg) (N := [_]) el80 (hG.mono l3) ⟨b3, rfl, hw2⟩ rfl (by decide) rfl rfl rfl rfl (by omega) (by omega) ?_
    rintro v2 M2 hG2
    repeat (first | refine Ops.nil ?_ | refine Ops.pure T rfl (by decide) rfl ?_)
    refine Run.keep [1, 2] [_, _] rfl ?_
    exact fin _ _ _ ⟨v2, M2, rfl, rfl, by rw [if_neg h']; exact hG2, by rw [if_neg h']; simp; omega⟩
  · intro h k' fin
    have h' : o.reg = [] := by simpa using h
    repeat (first | refine Run.skip ?_)
    refine Run.keep [1, 2] [_, _] rfl ?_
    exact fin _ _ _ ⟨_, _, rfl, rfl, by rw [if_pos h']; simpa using hG, by rw [if_pos h']; simp; omega⟩
  clear hG hl
  generalize hx3 : x2 ++ (if o.reg = [] then [] else [Opt.reg o.reg]) = x3
  rintro env L J2 ⟨v, M, rfl, rfl, hG, hl⟩
  repeat (first | refine Run.seq ?_ | refine Run.region ?_ | refine Ops.nil ?_ | refine Ops.neqStr rfl (by decide) rfl rfl ?_ | refine Ops.pure T rfl (by decide) rfl ?_ | refine Ops.load 0 rfl (by decide) rfl rfl (T.aggOk rfl) rfl ?_)
  refine Run.merge (fun env' L' I' => ∃ v M, env' = [(1, .pointer (some ⟨b, 0, none⟩)), (2, v)] ∧ L' = [(b, blk o.cs 30)] ++ M ∧ Gr tOpt I' 109 v (x3 ++ (if o.tag = [] then [] else [.tag o.tag])) M ∧ (x3 ++ (if o.tag = [] then [] else [Opt.tag o.tag])).length ≤ 4) rfl ?_ ?_ ?_
  · intro h k' fin
    have h' : ¬ o.tag = [] := by simpa using h
    repeat (first | refine Run.region ?_ | refine Ops.pure T rfl (by decide) rfl ?_ | refine Ops.load 0 rfl (by decide) rfl rfl (T.aggOk rfl) rfl ?_)
    refine Ops.call ((name_WithDefaultTag J2 o.tag)) rfl (by decide) call94 rfl ?_
    rintro w J3 l3 hw
    obtain ⟨b3, hw1, hw2⟩ := hw
    cases hw1
    refine Ops.lit T rfl rfl rfl (by decide) rfl (by decide) (by decide) rfl rfl rfl rfl rfl (fun b2 => ?_)
    refine Ops.appOne (y := Opt.tag o.tag) (N := [_]) el80 (hG.mono l3) ⟨b3, rfl, hw2⟩ rfl (by decide) rfl rfl rfl rfl (by omega) (by omega) ?_
    rintro v2 M2 hG2
    repeat (first | refine Ops.nil ?_ | refine Ops.pure T rfl (by decide) rfl ?_)
    refine Run.keep [1, 2] [_, _] rfl ?_
    exact fin _ _ _ ⟨v2, M2, rfl, rfl, by rw [if_neg h']; exact hG2, by rw [if_neg h']; simp; omega⟩
  · intro h k' fin
    have h' : o.tag = [] := by simpa using h
    repeat (first | refine Run.skip ?_)
    refine Run.keep [1, 2] [_, _] rfl ?_
    exact fin _ _ _ ⟨_, _, rfl, rfl, by rw [if_pos h']; simpa using hG, by rw [if_pos h']; simp; omega⟩
  rintro env L J3 ⟨v, M, rfl, rfl, hG, hl⟩
  repeat (first | refine Run.seq ?_ | refine Run.region ?_ | refine Ops.nil ?_ | refine Ops.pure T rfl (by decide) rfl ?_)
  refine Run.keepG (N := [_]) hG rfl fun J4 l4 hS => ?_
  refine Run.fin (Run.ret1 (by rw [hCf]; exact func55) results55 rfl (hR _ _ _ ?_))
  exact ⟨rfl, by rw [NOpt.opts, hx1, hx2, hx3]; exact hS⟩
end Go.V
namespace Go.V
open Go.Proofs.Tryz
open Go.RowKit
set_option linter.unusedVariables false
set_option linter.unusedSimpArgs false
set_option maxRecDepth 10000
attribute [local irreducible] Run Ops
def OptsAre (I : Imm) (v : Value) (o : NOpt) : Prop := ∃ xs, Sl tOpt I v xs ∧ xs.length ≤ 2147483647 ∧ optsOf xs = ⟨o.strict, o.ins, hub o.reg, tagOr o.tag⟩
theorem OptsAre.mono {I J : Imm} {v : Value} {o : NOpt} (h : OptsAre I v o) (hle : Le I J) : OptsAre J v o := let ⟨xs, h1, h2, h3⟩ := h; ⟨xs, h1.mono hle, h2, h3⟩
theorem OptsAre.of {I : Imm} {v : Value} {o : NOpt} (h : Sl tOpt I v o.opts) : OptsAre I v o := ⟨_, h, by
  unfold NOpt.opts
  cases o.strict <;> cases o.ins <;> by_cases h1 : o.reg = [] <;> by_cases h2 : o.tag = [] <;> simp [h1, h2], optsOf_opts o⟩
theorem OptsAre.none (I : Imm) : OptsAre I (.slice none 0 0) ⟨false, false, [], []⟩ := ⟨[], Sl.nil _ _, by decide, rfl⟩
theorem makeOptions_are (I : Imm) (v : Value) (o : NOpt) (h : OptsAre I v o) : Pure prog 57 [v] I fun w J => w = .agg (NOpt.mk o.strict o.ins (hub o.reg) (tagOr o.tag)).cs.toArray := by
  obtain ⟨xs, h1, h2, h3⟩ := h
  have := name_makeOptions I xs v h1 h2
  rw [h3] at this
  exact this
def errV (b : Nat) : Value := .iface 88 (.pointer (some ⟨b, 0, none⟩))
theorem ErrIs.bad {w : Value} (h : ErrIs w false) : ∃ b, w = errV b := h
theorem ErrIs.good {w : Value} (h : ErrIs w true) : w = .nilIface := h
def regRes (ins : Bool) (a : Option Tx) (w : Value) : Prop := match a with
  | some r => w = .tuple #[.agg #[.bool ins, str r], .nilIface]
  | none => ∃ b, w = .tuple #[.agg #[.bool false, str []], errV b]
theorem hub_ne (reg : Tx) : hub reg ≠ [] := by
  unfold hub; split
  · decide
  · rename_i h; exact h
theorem hub_len (reg : Tx) : (hub reg).length ≤ reg.length + 15 := by
  unfold hub; split
  · rename_i h; subst h; decide
  · omega
theorem alias_len (s : Tx) : (aliasT s).length ≤ s.length + 15 := by
  unfold aliasT; split
  · rename_i h; subst h; decide
  · omega
theorem RegAns.yes {b : Bool} {reg s : Tx} (hg : hostBad s = false) (hn : (b && decide (s = [])) = false) : RegAns b reg s (some (aliasT (if s = [] then hub reg else s))) := by
  intro r ok hs
  unfold sReg at hs
  rw [hg, hn] at hs
  simp only [Bool.or_false, Bool.false_eq_true, if_false, Prod.mk.injEq] at hs
  obtain ⟨rfl, rfl, _⟩ := hs
  rfl
theorem RegAns.no {b : Bool} {reg s : Tx} (h : hostPlain s = false) : RegAns b reg s none := by
  intro r ok hs
  unfold sReg at hs
  split at hs
  · simp only [Prod.mk.injEq] at hs
    obtain ⟨_, rfl, _⟩ := hs
    rfl
  · rw [h] at hs
    simp at hs
theorem RegAns.empty {reg : Tx} : RegAns true reg [] none := by
  intro r ok hs
  simp [sReg] at hs
  obtain ⟨_, rfl⟩ := hs
  rfl
theorem hubd_len (reg s : Tx) : (aliasT (if s = [] then hub reg else s)).length ≤ s.length + reg.length + 30 := by
  have h1 := alias_len (if s = [] then hub reg else s)
  have h2 := hub_len reg
  split at h1 <;> rename_i h
  · rw [if_pos h]; omega
  · rw [if_neg h]; omega
theorem hubd_ne (reg s : Tx) : aliasT (if s = [] then hub reg else s) ≠ [] := by
  refine alias_nil ?_
  split
  · exact hub_ne _
  · rename_i h; exact h
set_option maxHeartbeats 2000000 in
theorem name_NewRegistry (I : Imm) (s : Tx) (v : Value) (o : NOpt) (ho : OptsAre I v o) (hs : s.length ≤ 1099511627776) : Pure prog 19 [str s, v] I fun w J =>
    ∃ a, regRes o.ins a w ∧ RegAns o.strict o.reg s a ∧ ∀ r, a = some r → r ≠ [] ∧ r.length ≤ s.length + o.reg.length + 30 := by
  obtain ⟨st, ins, reg, tag⟩ := o
  refine Spec.enter 36 [(0, _), (1, _)] func19 rfl ntmps19 (by simp) rfl ?_
  intro C hCf hR hCI
  repeat (first | refine Run.seq ?_ | refine Run.region ?_)
  refine Ops.alloc rfl (by decide) (T.zeroOk rfl) rfl (fun b => ?_)
  repeat (first | refine Run.seq ?_ | refine Run.region ?_ | refine Ops.nil ?_ | refine Ops.pure T rfl (by decide) rfl ?_)
  refine Ops.call ((makeOptions_are I v _ ho)) rfl (by decide) call57 rfl ?_
  rintro _ J1 l1 rfl
  refine Ops.alloc rfl (by decide) (T.zeroOk rfl) rfl (fun b2 => ?_)
  repeat (first | refine Run.seq ?_ | refine Run.region ?_ | refine Ops.nil ?_ | refine Ops.pure T rfl (by decide) rfl ?_ | refine Ops.load 0 rfl (by decide) rfl rfl (T.aggOk rfl) rfl ?_ | refine Ops.store 0 rfl rfl rfl rfl rfl (T.sizeOk rfl) rfl (Nat.le_of_ble_eq_true rfl) rfl rfl ?_)
  cases st with
  | true =>
    repeat (first | refine Ops.nil ?_ | refine Ops.eql rfl (by decide) rfl rfl ?_ | refine Ops.pure T rfl (by decide) rfl ?_ | refine Ops.lenS T rfl (by decide) rfl rfl ?_)
    cases h0 : decide ((s.length : Int) = 0) with
    | true =>
      repeat (first | refine Run.seq ?_ | refine Run.region ?_ | refine Run.cond_t rfl ?_)
      refine Ops.buildL bd47 rfl (by decide) rfl rfl ?_
      refine Ops.call ((name_newErrBadName J1 _ _)) rfl (by decide) call58 rfl ?_
      rintro _ J2 l2 ⟨b3, rfl⟩
      repeat (first | refine Ops.nil ?_ | refine Ops.pure T rfl (by decide) rfl ?_ | refine Ops.store 1 rfl rfl rfl rfl rfl (T.sizeOk rfl) rfl (Nat.le_of_ble_eq_true rfl) rfl rfl ?_)
      refine Run.retCT T 1 (by rw [hCf]; exact func19) results19 rfl rfl rfl rfl rfl rfl rfl (hR _ _ _ ?_)
      have e : s = [] := List.eq_nil_of_length_eq_zero (by have := of_decide_eq_true h0; omega)
      subst e
      exact ⟨rfl, none, ⟨b3, rfl⟩, RegAns.empty, fun r h => by cases h⟩
    | false =>
      have hns : (true && decide (s = [])) = false := by
        rw [Bool.true_and, decide_eq_false]
        intro e; subst e; exact absurd h0 (by decide)
      repeat (first | refine Run.seq ?_ | refine Run.region ?_ | refine Run.skip ?_ | refine Run.cond_f rfl ?_ | refine Ops.pure T rfl (by decide) rfl ?_)
      refine Ops.call ((name_checkRegistry J1 s hs)) rfl (by decide) call59 rfl ?_
      rintro w J2 l2 ⟨r, hw, hp, hb⟩
      cases r with
      | false =>
        obtain ⟨b3, rfl⟩ := hw.bad
        unfold errV
        repeat (first | refine Run.seq ?_ | refine Run.region ?_ | refine Ops.nil ?_ | refine Run.cond_t rfl ?_ | refine Ops.neqNil T rfl (by decide) rfl rfl rfl rfl rfl ?_ | refine Ops.pure T rfl (by decide) rfl ?_)
        refine Ops.buildL bd47 rfl (by decide) rfl rfl ?_
        repeat (first | refine Ops.nil ?_ | refine Ops.pure T rfl (by decide) rfl ?_ | refine Ops.store 1 rfl rfl rfl rfl rfl (T.sizeOk rfl) rfl (Nat.le_of_ble_eq_true rfl) rfl rfl ?_)
        refine Run.retCT T 1 (by rw [hCf]; exact func19) results19 rfl rfl rfl rfl rfl rfl rfl (hR _ _ _ ?_)
        refine ⟨rfl, none, ⟨b3, rfl⟩, RegAns.no ?_, fun r h => by cases h⟩
        cases hh : hostPlain s with
        | false => rfl
        | true => exact absurd (hp hh) (by decide)
      | true =>
        obtain rfl := hw.good
        have hgood : hostBad s = false := by
          cases hh : hostBad s with
          | false => rfl
          | true => exact absurd (hb hh) (by decide)
        repeat (first | refine Run.seq ?_ | refine Run.region ?_ | refine Ops.nil ?_ | refine Run.skip ?_ | refine Run.cond_f rfl ?_ | refine Ops.eqlStr rfl (by decide) rfl rfl ?_ | refine Ops.neqNil T rfl (by decide) rfl rfl rfl rfl rfl ?_ | refine Ops.pure T rfl (by decide) rfl ?_)
        refine Run.merge (fun env' L' I' => env' = [(0, str (if s = [] then hub reg else s)), (4, .pointer (some ⟨b, 0, none⟩)), (6, .pointer (some ⟨b2, 0, none⟩))] ∧
          L' = [(b2, blk (NOpt.mk true ins (hub reg) (tagOr tag)).cs 86), (b, blk [.bool false, str []] 47)] ∧ I' = J2) rfl ?_ ?_ ?_
        · intro h k' fin
          repeat (first | refine Run.region ?_ | refine Ops.nil ?_ | refine Ops.pure T rfl (by decide) rfl ?_ | refine Ops.load 0 rfl (by decide) rfl rfl (T.aggOk rfl) rfl ?_)
          refine Run.keep [0, 4, 6] [_, _, _] rfl ?_
          refine fin _ _ _ ⟨?_, rfl, rfl⟩
          rw [if_pos (of_decide_eq_true h)]
          rfl
        · intro h k' fin
          repeat (first | refine Run.skip ?_)
          refine Run.keep [0, 4, 6] [_, _, _] rfl ?_
          refine fin _ _ _ ⟨?_, rfl, rfl⟩
          rw [if_neg (of_decide_eq_false h)]
          rfl
        generalize hs1 : (if s = [] then hub reg else s) = s1
        rintro env L J3 ⟨rfl, rfl, rfl⟩
        repeat (first | refine Run.seq ?_ | refine Run.region ?_ | refine Ops.nil ?_ | refine Ops.eqlStr rfl (by decide) rfl rfl ?_ | refine Ops.pure T rfl (by decide) rfl ?_)
        cases h31 : decide (s1 = [100, 111, 99, 107, 101, 114, 46, 105, 111]) with
        | true =>
          repeat (first | refine Run.seq ?_ | refine Run.region ?_ | refine Ops.nil ?_ | refine Run.cond_t rfl ?_ | refine Ops.pure T rfl (by decide) rfl ?_ | refine Ops.load 0 rfl (by decide) rfl rfl (T.aggOk rfl) rfl ?_)
          refine Ops.buildL bd47 rfl (by decide) rfl rfl ?_
          repeat (first | refine Ops.nil ?_ | refine Ops.pure T rfl (by decide) rfl ?_ | refine Ops.store 1 rfl rfl rfl rfl rfl (T.sizeOk rfl) rfl (Nat.le_of_ble_eq_true rfl) rfl rfl ?_)
          refine Run.retCT T 1 (by rw [hCf]; exact func19) results19 rfl rfl rfl rfl rfl rfl rfl (hR _ _ _ ?_)
          refine ⟨rfl, some (aliasT (if s = [] then hub reg else s)), ?_, RegAns.yes hgood hns, fun r h => by cases h; exact ⟨hubd_ne _ _, hubd_len _ _⟩⟩
          rw [hs1, aliasT, if_pos (of_decide_eq_true h31)]
          rfl
        | false =>
          repeat (first | refine Run.seq ?_ | refine Run.region ?_ | refine Run.skip ?_ | refine Run.cond_f rfl ?_ | refine Ops.pure T rfl (by decide) rfl ?_ | refine Ops.load 0 rfl (by decide) rfl rfl (T.aggOk rfl) rfl ?_)
          refine Ops.buildL bd47 rfl (by decide) rfl rfl ?_
          repeat (first | refine Ops.nil ?_ | refine Ops.pure T rfl (by decide) rfl ?_ | refine Ops.store 1 rfl rfl rfl rfl rfl (T.sizeOk rfl) rfl (Nat.le_of_ble_eq_true rfl) rfl rfl ?_)
          refine Run.retCT T 1 (by rw [hCf]; exact func19) results19 rfl rfl rfl rfl rfl rfl rfl (hR _ _ _ ?_)
          refine ⟨rfl, some (aliasT (if s = [] then hub reg else s)), ?_, RegAns.yes hgood hns, fun r h => by cases h; exact ⟨hubd_ne _ _, hubd_len _ _⟩⟩
          rw [hs1, aliasT, if_neg (of_decide_eq_false h31)]
          rfl
  | false =>
    have hns : (false && decide (s = [])) = false := rfl
    repeat (first | refine Run.seq ?_ | refine Run.region ?_ | refine Ops.nil ?_ | refine Run.skip ?_ | refine Run.cond_f rfl ?_ | refine Ops.not rfl (by decide) ?_ | refine Ops.pure T rfl (by decide) rfl ?_)
    refine Ops.call ((name_checkRegistry J1 s hs)) rfl (by decide) call59 rfl ?_
    rintro w J2 l2 ⟨r, hw, hp, hb⟩
    cases r with
    | false =>
      obtain ⟨b3, rfl⟩ := hw.bad
      unfold errV
      repeat (first | refine Run.seq ?_ | refine Run.region ?_ | refine Ops.nil ?_ | refine Run.cond_t rfl ?_ | refine Ops.neqNil T rfl (by decide) rfl rfl rfl rfl rfl ?_ | refine Ops.pure T rfl (by decide) rfl ?_)
      refine Ops.buildL bd47 rfl (by decide) rfl rfl ?_
      repeat (first | refine Ops.nil ?_ | refine Ops.pure T rfl (by decide) rfl ?_ | refine Ops.store 1 rfl rfl rfl rfl rfl (T.sizeOk rfl) rfl (Nat.le_of_ble_eq_true rfl) rfl rfl ?_)
      refine Run.retCT T 1 (by rw [hCf]; exact func19) results19 rfl rfl rfl rfl rfl rfl rfl (hR _ _ _ ?_)
      refine ⟨rfl, none, ⟨b3, rfl⟩, RegAns.no ?_, fun r h => by cases h⟩
      cases hh : hostPlain s with
      | false => rfl
      | true => exact absurd (hp hh) (by decide)
    | true =>
      obtain rfl := hw.good
      have hgood : hostBad s = false := by
        cases hh : hostBad s with
        | false => rfl
        | true => exact absurd (hb hh) (by decide)
      repeat (first | refine Run.seq ?_ | refine Run.region ?_ | refine Ops.nil ?_ | refine Run.skip ?_ | refine Run.cond_f rfl ?_ | refine Ops.eqlStr rfl (by decide) rfl rfl ?_ | refine Ops.neqNil T rfl (by decide) rfl rfl rfl rfl rfl ?_ | refine Ops.pure T rfl (by decide) rfl ?_)
      refine Run.merge (fun env' L' I' => env' = [(0, str (if s = [] then hub reg else s)), (4, .pointer (some ⟨b, 0, none⟩)), (6, .pointer (some ⟨b2, 0, none⟩))] ∧
        L' = [(b2, blk (NOpt.mk false ins (hub reg) (tagOr tag)).cs 86), (b, blk [.bool false, str []] 47)] ∧ I' = J2) rfl ?_ ?_ ?_
      · intro h k' fin
        repeat (first | refine Run.region ?_ | refine Ops.nil ?_ | refine Ops.pure T rfl (by decide) rfl ?_ | refine Ops.load 0 rfl (by decide) rfl rfl (T.aggOk rfl) rfl ?_)
        refine Run.keep [0, 4, 6] [_, _, _] rfl ?_
        refine fin _ _ _ ⟨?_, rfl, rfl⟩
        rw [if_pos (of_decide_eq_true h)]
        rfl
      · intro h k' fin
        repeat (first | refine Run.skip ?_)
        refine Run.keep [0, 4, 6] [_, _, _] rfl ?_
        refine fin _ _ _ ⟨?_, rfl, rfl⟩
        rw [if_neg (of_decide_eq_false h)]
        rfl
      generalize hs1 : (if s = [] then hub reg else s) = s1
      rintro env L J3 ⟨rfl, rfl, rfl⟩
      repeat (first | refine Run.seq ?_ | refine Run.region ?_ | refine Ops.nil ?_ | refine Ops.eqlStr rfl (by decide) rfl rfl ?_ | refine Ops.pure T rfl (by decide) rfl ?_)
      cases h31 : decide (s1 = [100, 111, 99, 107, 101, 114, 46, 105, 111]) with
      | true =>
        repeat (first | refine Run.seq ?_ | refine Run.region ?_ | refine Ops.nil ?_ | refine Run.cond_t rfl ?_ | refine Ops.pure T rfl (by decide) rfl ?_ | refine Ops.load 0 rfl (by decide) rfl rfl (T.aggOk rfl) rfl ?_)
        refine Ops.buildL bd47 rfl (by decide) rfl rfl ?_
        repeat (first | refine Ops.nil ?_ | refine Ops.pure T rfl (by decide) rfl ?_ | refine Ops.store 1 rfl rfl rfl rfl rfl (T.sizeOk rfl) rfl (Nat.le_of_ble_eq_true rfl) rfl rfl ?_)
        refine Run.retCT T 1 (by rw [hCf]; exact func19) results19 rfl rfl rfl rfl rfl rfl rfl (hR _ _ _ ?_)
        refine ⟨rfl, some (aliasT (if s = [] then hub reg else s)), ?_, RegAns.yes hgood hns, fun r h => by cases h; exact ⟨hubd_ne _ _, hubd_len _ _⟩⟩
        rw [hs1, aliasT, if_pos (of_decide_eq_true h31)]
        rfl
      | false =>
        repeat (first | refine Run.seq ?_ | refine Run.region ?_ | refine Run.skip ?_ | refine Run.cond_f rfl ?_ | refine Ops.pure T rfl (by decide) rfl ?_ | refine Ops.load 0 rfl (by decide) rfl rfl (T.aggOk rfl) rfl ?_)
        refine Ops.buildL bd47 rfl (by decide) rfl rfl ?_
        repeat (first | refine Ops.nil ?_ | refine Ops.pure T rfl (by decide) rfl ?_ | refine Ops.store 1 rfl rfl rfl rfl rfl (T.sizeOk rfl) rfl (Nat.le_of_ble_eq_true rfl) rfl rfl ?_)
        refine Run.retCT T 1 (by rw [hCf]; exact func19) results19 rfl rfl rfl rfl rfl rfl rfl (hR _ _ _ ?_)
        refine ⟨rfl, some (aliasT (if s = [] then hub reg else s)), ?_, RegAns.yes hgood hns, fun r h => by cases h; exact ⟨hubd_ne _ _, hubd_len _ _⟩⟩
        rw [hs1, aliasT, if_neg (of_decide_eq_false h31)]
        rfl
end Go.V
