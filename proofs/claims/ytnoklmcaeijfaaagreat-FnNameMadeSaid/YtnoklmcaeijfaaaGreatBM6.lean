import Derived.Test.YtnoklmcaeijfaaaGreatBM5
import Derived.Test.YtnoklmcaeijfaaaGreatBM4
import Derived.Shelf.Strings.OnBuilder
import Derived.Test.YtnoklmcaeijfaaaGreatProg
import Derived.KernelRfl
/-
  Checks of names, as the package has them.
-/
namespace Go.V
open Go.RowKit
set_option linter.unusedVariables false
set_option linter.unusedSimpArgs false
set_option maxRecDepth 10000
attribute [local irreducible] Run Ops
def authT : Tx := [65, 66, 67, 68, 69, 70, 71, 72, 73, 74, 75, 76, 77, 78, 79, 80, 81, 82, 83, 84, 85, 86, 87, 88, 89, 90, 97, 98, 99, 100, 101, 102, 103, 104, 105, 106, 107, 108, 109, 110, 111, 112, 113, 114, 115, 116, 117, 118, 119, 120, 121, 122, 48, 49, 50, 51, 52, 53, 54, 55, 56, 57, 45, 95, 46, 126, 33, 36, 38, 39, 40, 41, 42, 43, 44, 59, 61, 58, 91, 93, 60, 62, 34]
theorem host_auth : ∀ b ∈ hostT, hasB b authT = true ∧ b ≠ 91 := by decide
theorem auth_good : ∀ b ∈ authT, badB b = false := by decide
theorem bad_ascii {b : UInt8} (h : badB b = true) : b.toNat < 128 := by
  simp only [badB, Bool.or_eq_true, decide_eq_true_eq] at h
  rcases h with (((((h | h) | h) | h) | h) | h) | h
  · omega
  all_goals (subst h; decide)
theorem lxI_snoc {c : UInt8} {s : Tx} {i : Nat} (h : i < s.length) : lxI c (s.take (i + 1)) = if s.getD i 0 = c then (i : Int) else lxI c (s.take i) := by
  rw [List.take_add_one, List.getElem?_eq_getElem h]
  rw [List.getD_eq_getElem?_getD, List.getElem?_eq_getElem h]
  simp only [Option.toList_some, Option.getD_some]
  by_cases e : s[i] = c
  · rw [if_pos e, e]
    have := lx_app (c := c) (y := []) rfl (x := s.take i)
    simp only [lxI, this, List.length_take]
    omega
  · rw [if_neg e]
    have := lx_app2 (c := c) (y := [s[i]]) (by rw [hasB_cons, decide_eq_false e]; rfl) (x := s.take i)
    simp only [lxI, this]
theorem lxI_lt (c : UInt8) (s : Tx) : -1 ≤ lxI c s ∧ lxI c s < s.length := by
  unfold lxI
  cases h : lx c s with
  | none => exact ⟨by simp, by simp only; omega⟩
  | some k => have := (lx_split h).1; exact ⟨by simp only; omega, by simp only; omega⟩
theorem plain_digits {s : Tx} {k : Nat} (h : hostPlain s = true) (hk : lx 58 s = some k) : allIn digT (s.drop (k + 1)) = true := by
  unfold hostPlain at h
  cases hj : ix 58 s with
  | none =>
    have := lx_none.2 (ix_none.1 hj)
    rw [this] at hk; cases hk
  | some j =>
    rw [hj] at h
    simp only [Bool.and_eq_true] at h
    have hd := (sWithin_all h.1).1
    obtain ⟨e, _⟩ := ix_split hj
    have h58 := allIn_not 58 hd (by decide)
    have hlt := ix_lt hj
    have h2 := lx_app (x := s.take j) h58
    rw [← e, hk] at h2
    have : k = j := by simp at h2; omega
    subst this
    exact hd
theorem w32 {x : Int} (h0 : -2147483648 ≤ x) (h1 : x ≤ 2147483647) : IntKind.i32.wrap x = x := by
  simp only [IntKind.wrap, IntKind.bits, IntKind.signed]
  simp
  omega
set_option maxHeartbeats 4000000 in
theorem name_zzAuthority (I : Imm) (s : Tx) (hs : s.length ≤ 1099511627776) : Pure Proofs.Tryz.prog 96 [str s] I fun w J => ∃ r, w = .bool r ∧ (hostPlain s = true → r = true) ∧ (hostBad s = true → r = false) := by
  refine Spec.enter 72 [(0, _)] Proofs.Tryz.func96 rfl Proofs.Tryz.ntmps96 (by simp) rfl ?_
  intro C hCf hR hCI
  repeat (first | refine Run.seq ?_ | refine Run.region ?_ | refine Ops.nil ?_ | refine Run.block ?_ | refine Ops.pure T rfl (by decide) rfl ?_ | refine Ops.lenS T rfl (by decide) rfl rfl ?_)
  refine Run.keep [0, 10, 11] [_, _, _] rfl ?_
  refine Run.rounds (fun m env L J => ∃ i : Nat, m = s.length - i ∧ i ≤ s.length ∧ (∀ b ∈ s.take i, b.toNat < 128 → hasB b authT = true) ∧ env = [(0, str s), (10, .int .i64 s.length), (11, .int .i64 i)] ∧ L = []) s.length ⟨0, by omega, by omega, by simp, rfl, rfl⟩ ?_
  rintro m env L J ⟨i, rfl, hi, hall, rfl, rfl⟩ ih
  repeat (first | refine Run.seq ?_ | refine Run.region ?_ | refine Ops.nil ?_ | refine Ops.lss rfl (by decide) rfl rfl ?_)
  refine Run.cond rfl rfl (fun h => ?_) (fun h => ?_)
  all_goals (try rw [h])
  all_goals (try simp only [decide_eq_true_eq, decide_eq_false_iff_not, Bool.not_eq_true', Bool.not_eq_false', Bool.and_eq_true, Bool.or_eq_true, Bool.and_eq_false_imp, Bool.or_eq_false_iff] at h)
  · have hi' : i < s.length := by omega
    repeat (first | refine Run.seq ?_ | refine Run.region ?_ | refine Ops.nil ?_ | refine Run.skip ?_ | refine Run.block ?_ | refine Ops.lss rfl (by decide) rfl rfl ?_ | refine Ops.pure T rfl (by decide) rfl ?_ | refine Ops.indexStr rfl (by decide) (T.undOk rfl) rfl rfl (by first | omega | (simp only [List.length_cons, List.length_nil] ; omega) | (simp; omega)) (by first | omega | (simp only [List.length_cons, List.length_nil] ; omega) | (simp; omega)) ?_)
    have ei : ((i : Int)).toNat = i := by omega
    rw [ei]
    have hmem : s.getD i 0 ∈ s := by rw [List.getD_eq_getElem?_getD, List.getElem?_eq_getElem hi']; exact List.getElem_mem hi'
    have htk : ∀ b, b ∈ s.take (i + 1) → b ∈ s.take i ∨ b = s.getD i 0 := by
      intro b hb
      rw [List.take_add_one, List.getElem?_eq_getElem hi'] at hb
      rw [List.getD_eq_getElem?_getD, List.getElem?_eq_getElem hi']
      rcases List.mem_append.1 hb with h | h
      · exact .inl h
      · exact .inr (by simpa using h)
    generalize hc : s.getD i 0 = c at *
    cases h1 : decide ((c.toNat : Int) < 128) with
    | false =>
      have h1' := of_decide_eq_false h1
      repeat (first | refine Run.region ?_ | refine Ops.nil ?_ | refine Run.skip ?_ | refine Run.inBlock ?_ | refine Run.cond_f rfl ?_ | refine Ops.not rfl (by decide) ?_ | refine Ops.add rfl (by decide) rfl rfl (wI (by first | omega | (simp only [List.length_cons, List.length_nil] ; omega) | (simp; omega)) (by first | omega | (simp only [List.length_cons, List.length_nil] ; omega) | (simp; omega))) ?_ | refine Ops.pure T rfl (by decide) rfl ?_)
      refine Run.keep [0, 10, 11] [_, _, _] rfl ?_
      refine ih (s.length - (i + 1)) _ _ _ (by omega) ⟨i + 1, rfl, by omega, ?_, rfl, rfl⟩
      intro b hb h128
      rcases htk b hb with hb | rfl
      · exact hall b hb h128
      · omega
    | true =>
      have h1' := of_decide_eq_true h1
      repeat (first | refine Ops.pure T rfl (by decide) rfl ?_)
      refine Ops.convInt rfl (by decide) (T.undOk rfl) (T.undOk rfl) rfl (w32 (by omega) (by omega)) ?_
      refine Ops.call ((name_zzContainsRune J authT c.toNat (.inl (by omega)) (by decide))) rfl (by decide) Proofs.Tryz.call100 rfl ?_
      rintro _ J2 l2 rfl
      have hir : inR c.toNat authT = hasB c authT := runes_has (by omega)
      rw [hir]
      repeat (first | refine Ops.nil ?_ | refine Ops.pure T rfl (by decide) rfl ?_)
      cases h2 : hasB c authT with
      | false =>
        repeat (first | refine Run.seq ?_ | refine Run.region ?_ | refine Ops.nil ?_ | refine Run.cond_t rfl ?_ | refine Ops.pure T rfl (by decide) rfl ?_)
        refine Run.fin (Run.ret1 (by rw [hCf]; exact Proofs.Tryz.func96) Proofs.Tryz.results96 rfl (hR _ _ _ ?_))
        refine ⟨rfl, false, rfl, fun hp => ?_, fun _ => rfl⟩
        have := (host_auth c (allIn_mem.1 (hostPlain_all hp) c hmem)).1
        rw [h2] at this; cases this
      | true =>
        repeat (first | refine Run.region ?_ | refine Ops.nil ?_ | refine Run.skip ?_ | refine Run.inBlock ?_ | refine Run.cond_f rfl ?_ | refine Ops.add rfl (by decide) rfl rfl (wI (by first | omega | (simp only [List.length_cons, List.length_nil] ; omega) | (simp; omega)) (by first | omega | (simp only [List.length_cons, List.length_nil] ; omega) | (simp; omega))) ?_ | refine Ops.pure T rfl (by decide) rfl ?_)
        refine Run.keep [0, 10, 11] [_, _, _] rfl ?_
        refine ih (s.length - (i + 1)) _ _ _ (by omega) ⟨i + 1, rfl, by omega, ?_, rfl, rfl⟩
        intro b hb h128
        rcases htk b hb with hb | rfl
        · exact hall b hb h128
        · exact h2
  obtain rfl : i = s.length := by omega
  rw [List.take_length] at hall
  have hgood : hostBad s = true → False := by
    intro hb
    obtain ⟨b, hb1, hb2⟩ := List.any_eq_true.1 hb
    have := auth_good b (hasB_true.1 (hall b hb1 (bad_ascii hb2)))
    rw [this] at hb2; cases hb2
  clear hall ih
  repeat (first | refine Run.seq ?_ | refine Run.region ?_ | refine Ops.nil ?_ | refine Run.block ?_ | refine Run.exit rfl ?_ | refine Ops.pure T rfl (by decide) rfl ?_ | refine Ops.lenS T rfl (by decide) rfl rfl ?_)
  refine Run.keep [0, 5, 6, 7, 27, 28] [_, _, _, _, _, _] rfl ?_
  refine Run.rounds (fun m env L K => ∃ (i : Nat) (op en : Int), m = s.length - i ∧ i ≤ s.length ∧ -1 ≤ op ∧ op < s.length ∧ (-1 ≤ en ∧ en < s.length) ∧ (hostPlain s = true → op = -1) ∧
    env = [(0, str s), (5, .int .i64 op), (6, .int .i64 en), (7, .int .i64 (lxI 58 (s.take i))), (27, .int .i64 s.length), (28, .int .i64 i)] ∧ L = []) s.length ⟨0, -1, -1, by omega, by omega, by omega, by omega, by omega, fun _ => rfl, rfl, rfl⟩ ?_
  rintro m env L J ⟨i, op, en, rfl, hi, ho1, ho2, ⟨he1, he2⟩, hop, rfl, rfl⟩ ih
  repeat (first | refine Run.seq ?_ | refine Run.region ?_ | refine Ops.nil ?_ | refine Ops.lss rfl (by decide) rfl rfl ?_)
  refine Run.cond rfl rfl (fun h => ?_) (fun h => ?_)
  all_goals (try rw [h])
  all_goals (try simp only [decide_eq_true_eq, decide_eq_false_iff_not, Bool.not_eq_true', Bool.not_eq_false', Bool.and_eq_true, Bool.or_eq_true, Bool.and_eq_false_imp, Bool.or_eq_false_iff] at h)
  · have hi' : i < s.length := by omega
    have hmem : s.getD i 0 ∈ s := by rw [List.getD_eq_getElem?_getD, List.getElem?_eq_getElem hi']; exact List.getElem_mem hi'
    have hsn := lxI_snoc (c := 58) hi'
    repeat (first | refine Run.seq ?_ | refine Run.region ?_ | refine Ops.nil ?_ | refine Run.skip ?_ | refine Run.block ?_ | refine Ops.eql rfl (by decide) rfl rfl ?_ | refine Ops.pure T rfl (by decide) rfl ?_ | refine Ops.indexStr rfl (by decide) (T.undOk rfl) rfl rfl (by first | omega | (simp only [List.length_cons, List.length_nil] ; omega) | (simp; omega)) (by first | omega | (simp only [List.length_cons, List.length_nil] ; omega) | (simp; omega)) ?_)
    have ei : ((i : Int)).toNat = i := by omega
    rw [ei]
    generalize hc : s.getD i 0 = c at *
    cases h1 : decide ((c.toNat : Int) = 91) with
    | true =>
      have h1' : c = 91 := u8_inj.1 (of_decide_eq_true h1)
      rw [if_neg (by rw [h1']; decide)] at hsn
      repeat (first | refine Run.region ?_ | refine Ops.nil ?_ | refine Run.inBlock ?_ | refine Run.cond_t rfl ?_ | refine Ops.add rfl (by decide) rfl rfl (wI (by first | omega | (simp only [List.length_cons, List.length_nil] ; omega) | (simp; omega)) (by first | omega | (simp only [List.length_cons, List.length_nil] ; omega) | (simp; omega))) ?_ | refine Ops.pure T rfl (by decide) rfl ?_)
      refine Run.keep [0, 5, 6, 7, 27, 28] [_, _, _, _, _, _] rfl ?_
      refine ih (s.length - (i + 1)) _ _ _ (by omega) ⟨i + 1, i, en, rfl, by omega, by omega, by omega, ⟨he1, he2⟩, ?_, by rw [hsn]; rfl, rfl⟩
      intro hp
      exact absurd h1' (host_auth c (allIn_mem.1 (hostPlain_all hp) c hmem)).2
    | false =>
    repeat (first | refine Run.seq ?_ | refine Run.region ?_ | refine Ops.nil ?_ | refine Run.cond_f rfl ?_ | refine Ops.eql rfl (by decide) rfl rfl ?_ | refine Ops.pure T rfl (by decide) rfl ?_)
    cases h2 : decide ((c.toNat : Int) = 93) with
    | true =>
      have h2' : c = 93 := u8_inj.1 (of_decide_eq_true h2)
      rw [if_neg (by rw [h2']; decide)] at hsn
      repeat (first | refine Run.region ?_ | refine Ops.nil ?_ | refine Run.inBlock ?_ | refine Run.cond_t rfl ?_ | refine Ops.add rfl (by decide) rfl rfl (wI (by first | omega | (simp only [List.length_cons, List.length_nil] ; omega) | (simp; omega)) (by first | omega | (simp only [List.length_cons, List.length_nil] ; omega) | (simp; omega))) ?_ | refine Ops.pure T rfl (by decide) rfl ?_)
      refine Run.keep [0, 5, 6, 7, 27, 28] [_, _, _, _, _, _] rfl ?_
      exact ih (s.length - (i + 1)) _ _ _ (by omega) ⟨i + 1, op, i, rfl, by omega, by omega, by omega, ⟨by omega, by omega⟩, hop, by rw [hsn]; rfl, rfl⟩
    | false =>
    repeat (first | refine Run.seq ?_ | refine Run.region ?_ | refine Ops.nil ?_ | refine Run.cond_f rfl ?_ | refine Ops.eql rfl (by decide) rfl rfl ?_ | refine Ops.pure T rfl (by decide) rfl ?_)
    cases h3 : decide ((c.toNat : Int) = 58) with
    | true =>
      have h3' : c = 58 := u8_inj.1 (of_decide_eq_true h3)
      rw [if_pos h3'] at hsn
      repeat (first | refine Run.region ?_ | refine Ops.nil ?_ | refine Run.inBlock ?_ | refine Run.cond_t rfl ?_ | refine Ops.add rfl (by decide) rfl rfl (wI (by first | omega | (simp only [List.length_cons, List.length_nil] ; omega) | (simp; omega)) (by first | omega | (simp only [List.length_cons, List.length_nil] ; omega) | (simp; omega))) ?_ | refine Ops.pure T rfl (by decide) rfl ?_)
      refine Run.keep [0, 5, 6, 7, 27, 28] [_, _, _, _, _, _] rfl ?_
      exact ih (s.length - (i + 1)) _ _ _ (by omega) ⟨i + 1, op, en, rfl, by omega, by omega, by omega, ⟨he1, he2⟩, hop, by rw [hsn]; rfl, rfl⟩
    | false =>
      rw [if_neg (fun e => of_decide_eq_false h3 (u8_inj.2 e))] at hsn
      repeat (first | refine Run.region ?_ | refine Ops.nil ?_ | refine Run.skip ?_ | refine Run.inBlock ?_ | refine Run.cond_f rfl ?_ | refine Ops.add rfl (by decide) rfl rfl (wI (by first | omega | (simp only [List.length_cons, List.length_nil] ; omega) | (simp; omega)) (by first | omega | (simp only [List.length_cons, List.length_nil] ; omega) | (simp; omega))) ?_ | refine Ops.pure T rfl (by decide) rfl ?_)
      refine Run.keep [0, 5, 6, 7, 27, 28] [_, _, _, _, _, _] rfl ?_
      exact ih (s.length - (i + 1)) _ _ _ (by omega) ⟨i + 1, op, en, rfl, by omega, by omega, by omega, ⟨he1, he2⟩, hop, by rw [hsn]; rfl, rfl⟩
  obtain rfl : i = s.length := by omega
  rw [List.take_length]
  obtain ⟨hx1, hx2⟩ := lxI_lt 58 s
  repeat (first | refine Run.seq ?_ | refine Run.region ?_ | refine Ops.nil ?_ | refine Run.block ?_ | refine Run.exit rfl ?_ | refine Ops.gtr rfl (by decide) rfl rfl ?_ | refine Ops.pure T rfl (by decide) rfl ?_)
  cases h1 : decide ((0 : Int) < op) with
  | true =>
    repeat (first | refine Run.seq ?_ | refine Run.region ?_ | refine Ops.nil ?_ | refine Run.cond_t rfl ?_ | refine Ops.pure T rfl (by decide) rfl ?_)
    refine Run.fin (Run.ret1 (by rw [hCf]; exact Proofs.Tryz.func96) Proofs.Tryz.results96 rfl (hR _ _ _ ?_))
    exact ⟨rfl, false, rfl, fun hp => by have := of_decide_eq_true h1; have := hop hp; omega, fun _ => rfl⟩
  | false =>
  repeat (first | refine Run.seq ?_ | refine Run.region ?_ | refine Ops.nil ?_ | refine Run.cond_f rfl ?_ | refine Ops.eql rfl (by decide) rfl rfl ?_ | refine Ops.pure T rfl (by decide) rfl ?_)
  cases h2 : decide (op = 0) with
  | true =>
    have hnp : hostPlain s = true → False := fun hp => by have := of_decide_eq_true h2; have := hop hp; omega
    repeat (first | refine Run.seq ?_ | refine Run.region ?_ | refine Run.cond_t rfl ?_ | refine Ops.gtr rfl (by decide) rfl rfl ?_ | refine Ops.pure T rfl (by decide) rfl ?_)
    cases h3 : decide ((0 : Int) < en) with
    | false =>
      repeat (first | refine Ops.nil ?_ | refine Ops.not rfl (by decide) ?_ | refine Ops.pure T rfl (by decide) rfl ?_)
      refine Run.fin (Run.ret1 (by rw [hCf]; exact Proofs.Tryz.func96) Proofs.Tryz.results96 rfl (hR _ _ _ ?_))
      exact ⟨rfl, _, rfl, fun hp => (hnp hp).elim, fun hb => (hgood hb).elim⟩
    | true =>
      have h3' := of_decide_eq_true h3
      repeat (first | refine Ops.add rfl (by decide) rfl rfl (wI (by first | omega | (simp only [List.length_cons, List.length_nil] ; omega) | (simp; omega)) (by first | omega | (simp only [List.length_cons, List.length_nil] ; omega) | (simp; omega))) ?_ | refine Ops.pure T rfl (by decide) rfl ?_ | refine Ops.sliceStrLo rfl (by decide) (T.undOk rfl) rfl rfl (by first | omega | (simp only [List.length_cons, List.length_nil] ; omega) | (simp; omega)) (by first | omega | (simp only [List.length_cons, List.length_nil] ; omega) | (simp; omega)) ?_)
      refine Ops.call ((name_zzDigits J (s.drop (en + 1).toNat) (by simp; omega))) rfl (by decide) Proofs.Tryz.call110 rfl ?_
      rintro _ J2 l2 ⟨r, rfl, _⟩
      cases r with
      | false =>
        repeat (first | refine Ops.nil ?_ | refine Ops.not rfl (by decide) ?_ | refine Ops.pure T rfl (by decide) rfl ?_)
        refine Run.fin (Run.ret1 (by rw [hCf]; exact Proofs.Tryz.func96) Proofs.Tryz.results96 rfl (hR _ _ _ ?_))
        exact ⟨rfl, _, rfl, fun hp => (hnp hp).elim, fun hb => (hgood hb).elim⟩
      | true =>
        repeat (first | refine Ops.pure T rfl (by decide) rfl ?_ | refine Ops.sliceStr rfl (by decide) (T.undOk rfl) rfl rfl rfl (by first | omega | (simp only [List.length_cons, List.length_nil] ; omega) | (simp; omega)) (by first | omega | (simp only [List.length_cons, List.length_nil] ; omega) | (simp; omega)) (by first | omega | (simp only [List.length_cons, List.length_nil] ; omega) | (simp; omega)) ?_)
        refine Ops.call ((name_zzIPv6 J2 ((s.take en.toNat).drop (1 : Int).toNat) (by simp; omega))) rfl (by decide) Proofs.Tryz.call111 rfl ?_
        rintro _ J3 l3 ⟨r, rfl⟩
        repeat (first | refine Ops.nil ?_ | refine Ops.pure T rfl (by decide) rfl ?_)
        refine Run.fin (Run.ret1 (by rw [hCf]; exact Proofs.Tryz.func96) Proofs.Tryz.results96 rfl (hR _ _ _ ?_))
        exact ⟨rfl, _, rfl, fun hp => (hnp hp).elim, fun hb => (hgood hb).elim⟩
  | false =>
  repeat (first | refine Run.seq ?_ | refine Run.region ?_ | refine Ops.nil ?_ | refine Run.cond_f rfl ?_ | refine Ops.geq rfl (by decide) rfl rfl ?_ | refine Ops.pure T rfl (by decide) rfl ?_)
  cases h3 : decide ((0 : Int) ≤ lxI 58 s) with
  | false =>
    repeat (first | refine Run.seq ?_ | refine Run.region ?_ | refine Ops.nil ?_ | refine Run.skip ?_ | refine Run.inBlock ?_ | refine Run.cond_f rfl ?_ | refine Ops.pure T rfl (by decide) rfl ?_)
    refine Run.fin (Run.ret1 (by rw [hCf]; exact Proofs.Tryz.func96) Proofs.Tryz.results96 rfl (hR _ _ _ ?_))
    exact ⟨rfl, true, rfl, fun _ => rfl, fun hb => (hgood hb).elim⟩
  | true =>
    have h3' := of_decide_eq_true h3
    repeat (first | refine Run.seq ?_ | refine Run.region ?_ | refine Run.cond_t rfl ?_ | refine Ops.pure T rfl (by decide) rfl ?_ | refine Ops.sliceStrLo rfl (by decide) (T.undOk rfl) rfl rfl (by first | omega | (simp only [List.length_cons, List.length_nil] ; omega) | (simp; omega)) (by first | omega | (simp only [List.length_cons, List.length_nil] ; omega) | (simp; omega)) ?_)
    refine Ops.call ((name_zzDigits J (s.drop (lxI 58 s).toNat) (by simp; omega))) rfl (by decide) Proofs.Tryz.call110 rfl ?_
    rintro _ J2 l2 ⟨r, rfl, hr⟩
    repeat (first | refine Ops.nil ?_ | refine Ops.pure T rfl (by decide) rfl ?_)
    refine Run.fin (Run.ret1 (by rw [hCf]; exact Proofs.Tryz.func96) Proofs.Tryz.results96 rfl (hR _ _ _ ?_))
    refine ⟨rfl, r, rfl, fun hp => ?_, fun hb => (hgood hb).elim⟩
    cases hk : lx 58 s with
    | none => rw [lxI, hk] at h3'; simp at h3'
    | some k =>
      obtain ⟨k1, k2, k3⟩ := lx_split hk
      have ek : (lxI 58 s).toNat = k := by rw [lxI, hk]; simp
      refine hr (s.drop (k + 1)) ?_ (plain_digits hp hk)
      rw [ek]
      conv => lhs; rw [k2]
      rw [List.drop_append_of_le_length (by simp; omega)]
      simp
end Go.V
/-
  Checks of names, digests; a name cut in two.
-/
namespace Go.V
open Go.RowKit
set_option linter.unusedVariables false
set_option linter.unusedSimpArgs false
set_option maxRecDepth 10000
attribute [local irreducible] Run Ops
theorem name_checkRegistry (I : Imm) (s : Tx) (hs : s.length ≤ 1099511627776) : Pure Proofs.Tryz.prog 67 [str s] I fun w J => ∃ r, ErrIs w r ∧ (hostPlain s = true → r = true) ∧ (hostBad s = true → r = false) := by
  refine Spec.enter 11 [(0, _)] Proofs.Tryz.func67 rfl Proofs.Tryz.ntmps67 (by simp) rfl ?_
  intro C hCf hR hCI
  repeat (first | refine Run.seq ?_ | refine Run.region ?_ | refine Ops.nil ?_ | refine Ops.pure T rfl (by decide) rfl ?_)
  refine Ops.call ((name_zzAuthority I s hs)) rfl (by decide) Proofs.Tryz.call96 rfl ?_
  rintro _ J1 l1 ⟨r, rfl, h1, h2⟩
  repeat (first | refine Ops.nil ?_ | refine Ops.pure T rfl (by decide) rfl ?_)
  cases r with
  | true =>
    repeat (first | refine Run.seq ?_ | refine Run.region ?_ | refine Ops.nil ?_ | refine Run.skip ?_ | refine Run.cond_f rfl ?_ | refine Ops.pure T rfl (by decide) rfl ?_)
    refine Run.fin (Run.ret1 (by rw [hCf]; exact Proofs.Tryz.func67) Proofs.Tryz.results67 rfl (hR _ _ _ ?_))
    exact ⟨rfl, true, ErrIs.nil, h1, h2⟩
  | false =>
    repeat (first | refine Run.seq ?_ | refine Run.region ?_ | refine Run.cond_t rfl ?_ | refine Ops.pure T rfl (by decide) rfl ?_)
    refine Ops.lit T rfl rfl rfl (by decide) rfl (by decide) (by decide) rfl rfl rfl rfl rfl (fun b => ?_)
    refine Ops.call ((name_newErrBadName J1 _ _)) rfl (by decide) Proofs.Tryz.call44 rfl ?_
    rintro _ J2 l2 ⟨b2, rfl⟩
    repeat (first | refine Ops.nil ?_ | refine Ops.pure T rfl (by decide) rfl ?_)
    refine Run.fin (Run.ret1 (by rw [hCf]; exact Proofs.Tryz.func67) Proofs.Tryz.results67 rfl (hR _ _ _ ?_))
    exact ⟨rfl, false, ErrIs.err b2, h1, h2⟩
set_option maxHeartbeats 1000000 in
theorem name_checkElement (I : Imm) (nm el cs : Tx) (a b : Nat) (hel : el.length ≤ 1099511627776) (hcs : cs.length ≤ 1099511627776) (hasc : ascii cs) : Pure Proofs.Tryz.prog 99 [str nm, str el, str cs, .int .i64 a, .int .i64 b] I fun w J => ErrIs w (sWithin el cs a b) := by
  have he := within_eq (s := el) (a := a) (b := b) hasc
  refine Spec.enter 46 [(0, _), (1, _), (2, _), (3, _), (4, _)] Proofs.Tryz.func99 rfl Proofs.Tryz.ntmps99 (by simp) rfl ?_
  intro C hCf hR hCI
  repeat (first | refine Run.seq ?_ | refine Run.region ?_ | refine Ops.nil ?_ | refine Ops.pure T rfl (by decide) rfl ?_)
  refine Ops.call ((utf8_RuneCount I el (by omega))) rfl (by decide) Proofs.Tryz.call112 rfl ?_
  rintro _ J1 l1 rfl
  repeat (first | refine Run.seq ?_ | refine Run.region ?_ | refine Ops.nil ?_ | refine Ops.lss rfl (by decide) rfl rfl ?_ | refine Ops.pure T rfl (by decide) rfl ?_)
  cases h1 : decide (((runesW el 0).length : Int) < (a : Int)) with
  | true =>
    repeat (first | refine Run.seq ?_ | refine Run.region ?_ | refine Ops.nil ?_ | refine Run.cond_t rfl ?_ | refine Ops.not rfl (by decide) ?_ | refine Ops.pure T rfl (by decide) rfl ?_)
    refine Ops.lit T rfl rfl rfl (by decide) rfl (by decide) (by decide) rfl rfl rfl rfl rfl (fun b2 => ?_)
    refine Ops.call ((name_newErrBadName J1 _ _)) rfl (by decide) Proofs.Tryz.call44 rfl ?_
    rintro _ J2 l2 ⟨b3, rfl⟩
    repeat (first | refine Ops.nil ?_ | refine Ops.pure T rfl (by decide) rfl ?_)
    refine Run.fin (Run.ret1 (by rw [hCf]; exact Proofs.Tryz.func99) Proofs.Tryz.results99 rfl (hR _ _ _ ?_))
    have hf : sWithin el cs a b = false := by
      rw [← he, decide_eq_false (show ¬ a ≤ (runesW el 0).length by have := of_decide_eq_true h1; omega)]; simp
    exact ⟨rfl, by rw [hf]; exact ErrIs.err b3⟩
  | false =>
  have h1' := of_decide_eq_false h1
  repeat (first | refine Ops.nil ?_ | refine Ops.lss rfl (by decide) rfl rfl ?_ | refine Ops.pure T rfl (by decide) rfl ?_)
  cases h2 : decide ((b : Int) < ((runesW el 0).length : Int)) with
  | true =>
    repeat (first | refine Run.seq ?_ | refine Run.region ?_ | refine Run.cond_t rfl ?_ | refine Ops.pure T rfl (by decide) rfl ?_)
    refine Ops.lit T rfl rfl rfl (by decide) rfl (by decide) (by decide) rfl rfl rfl rfl rfl (fun b2 => ?_)
    refine Ops.call ((name_newErrBadName J1 _ _)) rfl (by decide) Proofs.Tryz.call44 rfl ?_
    rintro _ J2 l2 ⟨b3, rfl⟩
    repeat (first | refine Ops.nil ?_ | refine Ops.pure T rfl (by decide) rfl ?_)
    refine Run.fin (Run.ret1 (by rw [hCf]; exact Proofs.Tryz.func99) Proofs.Tryz.results99 rfl (hR _ _ _ ?_))
    have hf : sWithin el cs a b = false := by
      rw [← he, decide_eq_false (show ¬ (runesW el 0).length ≤ b by have := of_decide_eq_true h2; omega)]; simp
    exact ⟨rfl, by rw [hf]; exact ErrIs.err b3⟩
  | false =>
  have h2' := of_decide_eq_false h2
  repeat (first | refine Run.seq ?_ | refine Run.region ?_ | refine Run.cond_f rfl ?_ | refine Ops.pure T rfl (by decide) rfl ?_)
  refine Ops.call ((name_zzOnly J1 el cs (by omega) (by omega))) rfl (by decide) Proofs.Tryz.call104 rfl ?_
  rintro _ J2 l2 rfl
  have ha : allR el cs = sWithin el cs a b := by
    rw [← he, decide_eq_true (show a ≤ (runesW el 0).length by omega), decide_eq_true (show (runesW el 0).length ≤ b by omega), Bool.and_true, Bool.and_true]
    rfl
  rw [ha]
  cases h3 : sWithin el cs a b with
  | false =>
    repeat (first | refine Run.seq ?_ | refine Run.region ?_ | refine Ops.nil ?_ | refine Run.cond_t rfl ?_ | refine Ops.pure T rfl (by decide) rfl ?_)
    refine Ops.lit T rfl rfl rfl (by decide) rfl (by decide) (by decide) rfl rfl rfl rfl rfl (fun b2 => ?_)
    refine Ops.call ((name_newErrBadName J2 _ _)) rfl (by decide) Proofs.Tryz.call44 rfl ?_
    rintro _ J3 l3 ⟨b3, rfl⟩
    repeat (first | refine Ops.nil ?_ | refine Ops.pure T rfl (by decide) rfl ?_)
    refine Run.fin (Run.ret1 (by rw [hCf]; exact Proofs.Tryz.func99) Proofs.Tryz.results99 rfl (hR _ _ _ ?_))
    exact ⟨rfl, by rw [h3]; exact ErrIs.err b3⟩
  | true =>
    repeat (first | refine Run.seq ?_ | refine Run.region ?_ | refine Ops.nil ?_ | refine Run.skip ?_ | refine Run.cond_f rfl ?_ | refine Ops.pure T rfl (by decide) rfl ?_)
    refine Run.fin (Run.ret1 (by rw [hCf]; exact Proofs.Tryz.func99) Proofs.Tryz.results99 rfl (hR _ _ _ ?_))
    exact ⟨rfl, by rw [h3]; exact ErrIs.nil⟩
theorem name_checkRepository (I : Imm) (s : Tx) (hs : s.length ≤ 1099511627776) : Pure Proofs.Tryz.prog 72 [str s] I fun w J => ErrIs w (pathGood s) := by
  refine Spec.enter 5 [(0, _)] Proofs.Tryz.func72 rfl Proofs.Tryz.ntmps72 (by simp) rfl ?_
  intro C hCf hR hCI
  repeat (first | refine Run.seq ?_ | refine Run.region ?_ | refine Ops.nil ?_ | refine Ops.pure T rfl (by decide) rfl ?_)
  refine Ops.call ((name_checkElement I [114, 101, 112, 111, 115, 105, 116, 111, 114, 121] s (smallT ++ [47]) 1 255 hs (by decide) ascii_sp)) rfl (by decide) Proofs.Tryz.call99 rfl ?_
  rintro w J1 l1 hw
  repeat (first | refine Ops.nil ?_ | refine Ops.pure T rfl (by decide) rfl ?_)
  refine Run.fin (Run.ret1 (by rw [hCf]; exact Proofs.Tryz.func72) Proofs.Tryz.results72 rfl (hR _ _ _ ?_))
  exact ⟨rfl, hw⟩
theorem name_checkTag (I : Imm) (s : Tx) (hs : s.length ≤ 1099511627776) : Pure Proofs.Tryz.prog 77 [str s] I fun w J => ErrIs w (tagGood s) := by
  refine Spec.enter 5 [(0, _)] Proofs.Tryz.func77 rfl Proofs.Tryz.ntmps77 (by simp) rfl ?_
  intro C hCf hR hCI
  repeat (first | refine Run.seq ?_ | refine Run.region ?_ | refine Ops.nil ?_ | refine Ops.pure T rfl (by decide) rfl ?_)
  refine Ops.call ((name_checkElement I [116, 97, 103] s (smallT ++ capT) 1 128 hs (by decide) ascii_st)) rfl (by decide) Proofs.Tryz.call99 rfl ?_
  rintro w J1 l1 hw
  repeat (first | refine Ops.nil ?_ | refine Ops.pure T rfl (by decide) rfl ?_)
  refine Run.fin (Run.ret1 (by rw [hCf]; exact Proofs.Tryz.func77) Proofs.Tryz.results77 rfl (hR _ _ _ ?_))
  exact ⟨rfl, hw⟩
theorem name_hasImplicit (I : Imm) (p r : Tx) (ins : Bool) (hp : p.length ≤ 1099511627776) : Pure Proofs.Tryz.prog 73 [str p, .agg [.bool ins, str r].toArray] I fun w J => w = .bool (implNs r p) := by
  refine Spec.enter 13 [(0, _), (1, _)] Proofs.Tryz.func73 rfl Proofs.Tryz.ntmps73 (by simp) rfl ?_
  intro C hCf hR hCI
  repeat (first | refine Run.seq ?_ | refine Run.region ?_)
  refine Ops.box rfl (by decide) rfl rfl (fun b => ?_)
  repeat (first | refine Run.seq ?_ | refine Run.region ?_ | refine Ops.nil ?_ | refine Ops.pure T rfl (by decide) rfl ?_)
  refine Ops.call ((name_zzContainsRune I p 47 (.inl (by decide)) (by omega))) rfl (by decide) Proofs.Tryz.call100 rfl ?_
  rintro _ J1 l1 rfl
  have e : inR 47 p = hasB 47 p := runes_has (c := 47) (by decide)
  rw [e]
  repeat (first | refine Ops.pure T rfl (by decide) rfl ?_)
  cases h : hasB 47 p with
  | true =>
    repeat (first | refine Ops.nil ?_ | refine Ops.not rfl (by decide) ?_ | refine Ops.pure T rfl (by decide) rfl ?_)
    refine Run.fin (Run.ret1 (by rw [hCf]; exact Proofs.Tryz.func73) Proofs.Tryz.results73 rfl (hR _ _ _ ?_))
    exact ⟨rfl, by simp [implNs, h]⟩
  | false =>
    repeat (first | refine Ops.loadN 0 rfl (by decide) rfl rfl (T.aggOk rfl) (T.sizeOk rfl) rfl rfl ?_)
    refine Ops.call ((Registry_RegistryStr J1 ins r)) rfl (by decide) Proofs.Tryz.call51 rfl ?_
    rintro _ J2 l2 rfl
    repeat (first | refine Ops.nil ?_ | refine Ops.eqlStr rfl (by decide) rfl rfl ?_ | refine Ops.pure T rfl (by decide) rfl ?_)
    refine Run.fin (Run.ret1 (by rw [hCf]; exact Proofs.Tryz.func73) Proofs.Tryz.results73 rfl (hR _ _ _ ?_))
    exact ⟨rfl, by rw [implNs, h, Bool.not_false, Bool.and_true]; rfl⟩
/-- a name cut at the first c, or whole -/
def cut2 (c : UInt8) (s : Tx) : List Tx := match ix c s with
  | some k => [s.take k, s.drop (k + 1)]
  | none => [s]
theorem name_zzSplit2 (I : Imm) (s : Tx) (c : UInt8) (hs : s.length ≤ 1099511627776) : Pure Proofs.Tryz.prog 70 [str s, str [c]] I fun w J => Sl tStr J w (cut2 c s) := by
  refine Spec.enter 23 [(0, _), (1, _)] Proofs.Tryz.func70 rfl Proofs.Tryz.ntmps70 (by simp) rfl ?_
  intro C hCf hR hCI
  repeat (first | refine Run.seq ?_ | refine Run.region ?_ | refine Ops.nil ?_ | refine Ops.pure T rfl (by decide) rfl ?_)
  refine Ops.call ((name_zzIndex s c I (by omega))) rfl (by decide) Proofs.Tryz.call97 rfl ?_
  rintro _ J1 l1 rfl
  cases hk : ix c s with
  | none =>
    rw [ixI_none hk]
    repeat (first | refine Run.seq ?_ | refine Run.region ?_ | refine Ops.nil ?_ | refine Run.skip ?_ | refine Run.cond_f rfl ?_ | refine Ops.geq rfl (by decide) rfl rfl ?_ | refine Ops.pure T rfl (by decide) rfl ?_)
    refine Ops.lit T rfl rfl rfl (by decide) rfl (by decide) (by decide) rfl rfl rfl rfl rfl (fun b => ?_)
    repeat (first | refine Ops.nil ?_ | refine Ops.pure T rfl (by decide) rfl ?_)
    refine Run.freeze fun J2 l2 hJ => ?_
    refine Run.fin (Run.ret1 (by rw [hCf]; exact Proofs.Tryz.func70) Proofs.Tryz.results70 rfl (hR _ _ _ ?_))
    exact ⟨rfl, by rw [cut2, hk]; exact Sl.ofBlock hJ (show Cells tStr J2 [str s] [s] from Cells.strs [s]) rfl (Nat.le_refl 1)⟩
  | some k =>
    rw [ixI_eq hk]
    have hlt := ix_lt hk
    repeat (first | refine Run.seq ?_ | refine Run.region ?_ | refine Ops.nil ?_ | refine Run.cond_t rfl ?_ | refine Ops.geq rfl (by decide) rfl rfl ?_ | refine Ops.pure T rfl (by decide) rfl ?_)
    rw [decide_eq_true (show (0 : Int) ≤ (k : Int) by omega)]
    skip
    refine Run.regionAny (Holds J1 []) (bl 11 0) (by kernel_rfl) (by kernel_rfl) ?_
    refine RAny.tk 0 (bl 11 1) rfl (by kernel_rfl) (by decide) (fun W h => h.holds (Le.refl _) (by first | exact mp rfl | exact mq rfl)) (Yld.eval T rfl rfl) ?_
    refine RAny.tk 1 (bl 11 3) rfl (by kernel_rfl) (by decide) (fun W h => h.holds (Le.refl _) (by first | exact mp rfl | exact mq rfl)) (Yld.eval T rfl rfl) ?_
    refine RAny.tk 2 (bl 11 7) rfl (by kernel_rfl) (by decide) (fun W h => h.holds (Le.refl _) (by first | exact mp rfl | exact mq rfl)) (Yld.as (v' := str (s.take k)) (Yld.sliceHi T rfl rfl rfl rfl (by omega) (by omega)) (by simp)) ?_
    refine RAny.tk 3 (bl 11 15) rfl (by kernel_rfl) (by decide) (fun W h => h.holds (Le.refl _) (by first | exact mp rfl | exact mq rfl)) (Yld.eval T rfl rfl) ?_
    refine RAny.tk 4 (bl 11 31) rfl (by kernel_rfl) (by decide) (fun W h => h.holds (Le.refl _) (by first | exact mp rfl | exact mq rfl)) (Yld.eval T rfl rfl) ?_
    refine RAny.tk 5 (bl 11 63) rfl (by kernel_rfl) (by decide) (fun W h => h.holds (Le.refl _) (by first | exact mp rfl | exact mq rfl)) (Yld.eval T rfl rfl) ?_
    refine RAny.tk 6 (bl 11 127) rfl (by kernel_rfl) (by decide) (fun W h => h.holds (Le.refl _) (by first | exact mp rfl | exact mq rfl)) (Yld.lenS T rfl rfl rfl) ?_
    refine RAny.tk 7 (bl 11 255) rfl (by kernel_rfl) (by decide) (fun W h => h.holds (Le.refl _) (by first | exact mp rfl | exact mq rfl)) (Yld.as (v' := .int .i64 ((k : Int) + 1)) (Yld.add rfl rfl rfl (wI (by simp; omega) (by simp; omega))) (by simp)) ?_
    refine RAny.tk 8 (bl 11 511) rfl (by kernel_rfl) (by decide) (fun W h => h.holds (Le.refl _) (by first | exact mp rfl | exact mq rfl)) (Yld.as (v' := str (s.drop (k + 1))) (Yld.sliceLo T rfl rfl rfl rfl (by omega) (by omega)) (by congr 2)) ?_
    refine RAny.on 9 (bl 11 1023) rfl (by kernel_rfl) rfl (by decide) (Eff.lit T rfl rfl rfl (by decide) (by decide) rfl rfl rfl rfl rfl fun b => ⟨fun W h => h.holds (Le.refl _) (fun _ h => by cases h), ?_⟩)
    refine RAny.freeze fun J2 l2 hJ => ?_
    refine RAny.tk 10 (bl 11 2047) rfl (by kernel_rfl) (by decide) (fun W h => h.holds l2 (fun _ h => by cases h)) (Yld.eval T rfl rfl) ?_
    refine RAny.done _ (by kernel_rfl) ?_
    skip
    refine Run.fin (Run.ret1 (by rw [hCf]; exact Proofs.Tryz.func70) Proofs.Tryz.results70 rfl (hR _ _ _ ?_))
    exact ⟨rfl, by rw [cut2, hk]; exact Sl.ofBlock hJ (show Cells tStr J2 [str (s.take k), str (s.drop (k + 1))] [s.take k, s.drop (k + 1)] from Cells.strs [s.take k, s.drop (k + 1)]) rfl (Nat.le_refl 2)⟩
theorem otherDig_of {s : Tx} {k : Nat} (hk : ix 58 s = some k) (h1 : s.take k = [115, 104, 97, 51, 56, 52] ∨ s.take k = [115, 104, 97, 53, 49, 50]) (h2 : k + 1 ≠ s.length) : otherDig s = true := by
  have hlt := ix_lt hk
  have hk6 : k = 6 := by
    have : (s.take k).length = 6 := by rcases h1 with h | h <;> (rw [h]; rfl)
    simp at this; omega
  subst hk6
  obtain ⟨e, _⟩ := ix_split hk
  have h6 : s[6]? = some 58 := by
    conv => lhs; rw [e]
    rw [List.getElem?_append_right (by simp; omega)]
    simp [Nat.min_eq_left (show 6 ≤ s.length by omega)]
  have h7 : s.take 7 = s.take 6 ++ [58] := by
    rw [show 7 = 6 + 1 from rfl, List.take_add_one, h6]; rfl
  unfold otherDig
  rw [h7, decide_eq_true (show 7 < s.length by omega)]
  rcases h1 with h | h <;> (rw [h]; rfl)
theorem digGood_ix {s : Tx} (h : digGood s = true) : ix 58 s = some 6 ∧ s.take 6 = [115, 104, 97, 50, 53, 54] ∧ s.length = 71 ∧ allIn hexT (s.drop 7) = true := by
  simp only [digGood, Bool.and_eq_true, decide_eq_true_eq] at h
  obtain ⟨h1, h2, h3⟩ := h
  have e : s = [115, 104, 97, 50, 53, 54] ++ 58 :: s.drop 7 := by
    conv => lhs; rw [← List.take_append_drop 7 s, h2]
    rfl
  refine ⟨?_, ?_, h1, (sWithin_all h3).1⟩
  · rw [e]; exact ix_app (x := [115, 104, 97, 50, 53, 54]) (by decide)
  · rw [e]; rfl
end Go.V
/-
  Functions that return four or five values, or a struct and two more; calls that leave what was there.
-/
namespace Go.V
open Go.RowKit
set_option linter.unusedVariables false
set_option linter.unusedSimpArgs false
section
variable {P : Program} {n : Nat} {C : Cx} {k : List Item} {env : Env} {L : Own} {I : Imm}
theorem Run.ret4 {fn : Func} {t u s r : Nat} {v x y z : Value} {todo : List Item} (hfn : P.funcs[C.f]? = some fn) (hres : fn.results = #[.tmp t, .tmp u, .tmp s, .tmp r]) (hv : look env t = some v) (hx : look env u = some x) (hy : look env s = some y) (hz : look env r = some z)
    (h : C.R (.tuple #[v, x, y, z]) I L) : Run P n C (.code .ret :: todo) env L I :=
  Run.ret hfn (fun a W he _ => by
    have e1 := he.at_ _ _ hv
    have e2 := he.at_ _ _ hx
    have e3 := he.at_ _ _ hy
    have e4 := he.at_ _ _ hz
    simp [results, hres, e1, e2, e3, e4]) h
theorem Run.ret5 {fn : Func} {t u s r q : Nat} {v x y z o : Value} {todo : List Item} (hfn : P.funcs[C.f]? = some fn) (hres : fn.results = #[.tmp t, .tmp u, .tmp s, .tmp r, .tmp q]) (hv : look env t = some v) (hx : look env u = some x) (hy : look env s = some y) (hz : look env r = some z) (ho : look env q = some o)
    (h : C.R (.tuple #[v, x, y, z, o]) I L) : Run P n C (.code .ret :: todo) env L I :=
  Run.ret hfn (fun a W he _ => by
    have e1 := he.at_ _ _ hv
    have e2 := he.at_ _ _ hx
    have e3 := he.at_ _ _ hy
    have e4 := he.at_ _ _ hz
    have e5 := he.at_ _ _ ho
    simp [results, hres, e1, e2, e3, e4, e5]) h
/-- a struct in variable t, and two more -/
theorem Run.retCTT (T : Tab P) (j : Nat) {fn : Func} {t u s b m : Nat} {x y : Value} {vs cs : List Value} {rt t' : TypeId} {todo : List Item} (hfn : P.funcs[C.f]? = some fn) (hres : fn.results = #[.cell t rt, .tmp u, .tmp s]) (hp : look env t = some (.pointer (some ⟨b, 0, none⟩)))
    (hL : L[j]? = some (b, blk cs t')) (ha : T.agg rt = some true) (hs : T.size rt = some m) (hv : (cs.drop 0).take m = vs) (hm : vs.length = m) (hu : look env u = some x) (hy : look env s = some y) (h : C.R (.tuple #[.agg vs.toArray, x, y]) I []) : Run P n C (.code .ret :: todo) env L I := by
  intro bb a cs' W hb hk he hi
  have hr : (results fn a.tmps).run P W = .ok (.tuple #[.agg vs.toArray, x, y]) W := by
    have h1 := run_cellN T hi hL ha hs hv hm
    have hp' := he.at_ _ _ hp
    have e1 := he.at_ _ _ hu
    have e2 := he.at_ _ _ hy
    simp [results, hres, hp', e1, e2, asAddr, h1]
  exact ⟨.returned (.tuple #[.agg vs.toArray, x, y]), W, _, ⟨_, I, [], rfl, h, hi.weakenL (List.nil_sublist _)⟩, Steps.one step_ret, hb, rfl, he.defers, hk, fn, by simpa [Frame.at, hb] using hfn, hr⟩
end
/-- a contract of the library's that leaves what was there -/
theorem Pure.ofBelow {P : Program} {f : FuncId} {args : List Value} {I : Imm} {v : Value} (h : ∀ w, Fits I [] w → Calls P f args.toArray w fun e w' => e = .returned v ∧ Below w.heap.size w w') : Pure P f args I fun x J => x = v ∧ J = I := by
  intro w0 hfit
  refine (h w0 hfit).mono ?_
  rintro e w' ⟨rfl, hb⟩
  refine ⟨v, I, [], rfl, ⟨rfl, rfl, rfl⟩, hb.os, hb.tape, hb.output, hb.size, fun b h _ => hb.block b h, ⟨fun b o h => ?_, (fun b o h => absurd h List.not_mem_nil), (fun b o h => absurd h List.not_mem_nil), hfit.nd⟩, Le.refl _, fun _ _ h => .inl h, fun b o h => absurd h List.not_mem_nil⟩
  have h0 := hfit.imm b o h
  rw [hb.block b (Array.getElem?_eq_some_iff.1 h0).1]
  exact h0
end Go.V
/-
  Names read, as the document's functions do: registries, repositories, tags, digests.
-/
namespace Go.V
open Go.RowKit
set_option linter.unusedVariables false
set_option linter.unusedSimpArgs false
set_option maxRecDepth 10000
attribute [local irreducible] Run Ops
def t3 (x : Tx × Bool × Bool) : Value := .tuple #[str x.1, .bool x.2.1, .bool x.2.2]
def t4 (x : Tx × Tx × Bool × Bool) : Value := .tuple #[str x.1, str x.2.1, .bool x.2.2.1, .bool x.2.2.2]
def t5 (x : Tx × Tx × Tx × Bool × Bool) : Value := .tuple #[str x.1, str x.2.1, str x.2.2.1, .bool x.2.2.2.1, .bool x.2.2.2.2]
set_option maxHeartbeats 2000000 in
theorem spec_registryOf (I : Imm) (s : Tx) (o : NOpt) (hs : s.length ≤ 4620000000000000000) : Pure Proofs.Tryz.prog 32 [str s, .agg o.cs.toArray] I fun w J => w = t3 (sReg o.strict o.reg s) := by
  obtain ⟨st, ins, reg, tag⟩ := o
  refine Spec.enter 28 [(0, _), (1, _)] Proofs.Tryz.func32 rfl Proofs.Tryz.ntmps32 (by simp) rfl ?_
  intro C hCf hR hCI
  repeat (first | refine Run.seq ?_ | refine Run.region ?_)
  refine Ops.box rfl (by decide) rfl rfl (fun b => ?_)
  repeat (first | refine Run.seq ?_ | refine Run.region ?_ | refine Ops.nil ?_ | refine Ops.pure T rfl (by decide) rfl ?_ | refine Ops.load 0 rfl (by decide) rfl rfl (T.aggOk rfl) rfl ?_)
  cases st with
  | true =>
    repeat (first | refine Ops.eqlStr rfl (by decide) rfl rfl ?_ | refine Ops.pure T rfl (by decide) rfl ?_)
    cases h0 : decide (s = []) with
    | true =>
      repeat (first | refine Run.seq ?_ | refine Run.region ?_ | refine Ops.nil ?_ | refine Run.cond_t rfl ?_ | refine Ops.not rfl (by decide) ?_ | refine Ops.pure T rfl (by decide) rfl ?_)
      refine Run.fin (Run.ret3 (by rw [hCf]; exact Proofs.Tryz.func32) Proofs.Tryz.results32 rfl rfl rfl (hR _ _ _ ?_))
      exact ⟨rfl, by rw [of_decide_eq_true h0]; rfl⟩
    | false =>
      have hns : (true && decide (s = [])) = false := by rw [h0]; rfl
      repeat (first | refine Ops.pure T rfl (by decide) rfl ?_)
      refine Ops.call ((spec_HostBad I s (by omega))) rfl (by decide) Proofs.Tryz.call79 rfl ?_
      rintro _ J1 l1 rfl
      repeat (first | refine Ops.nil ?_ | refine Ops.pure T rfl (by decide) rfl ?_)
      cases hb : hostBad s with
      | true =>
        repeat (first | refine Run.seq ?_ | refine Run.region ?_ | refine Ops.nil ?_ | refine Run.cond_t rfl ?_ | refine Ops.pure T rfl (by decide) rfl ?_)
        refine Run.fin (Run.ret3 (by rw [hCf]; exact Proofs.Tryz.func32) Proofs.Tryz.results32 rfl rfl rfl (hR _ _ _ ?_))
        exact ⟨rfl, by unfold sReg; rw [hb, Bool.or_true]; rfl⟩
      | false =>
      have hreg : sReg true reg s = (aliasT (if s = [] then hub reg else s), true, !hostPlain s) := by unfold sReg; rw [hb, hns]; rfl
      repeat (first | refine Run.seq ?_ | refine Run.region ?_ | refine Run.skip ?_ | refine Run.cond_f rfl ?_ | refine Ops.pure T rfl (by decide) rfl ?_)
      refine Ops.call ((spec_HostPlain J1 s (by omega))) rfl (by decide) Proofs.Tryz.call37 rfl ?_
      rintro _ J2 l2 rfl
      repeat (first | refine Run.seq ?_ | refine Run.region ?_ | refine Ops.nil ?_ | refine Ops.eqlStr rfl (by decide) rfl rfl ?_ | refine Ops.pure T rfl (by decide) rfl ?_)
      refine Run.merge (fun env' L' I' => env' = [(0, str (if s = [] then hub reg else s)), (6, .bool (!hostPlain s))] ∧ L' = [] ) rfl ?_ ?_ ?_
      · intro h k' fin
        repeat (first | refine Run.region ?_ | refine Ops.loadN 0 rfl (by decide) rfl rfl (T.aggOk rfl) (T.sizeOk rfl) rfl rfl ?_)
        refine Ops.call ((spec_hub J2 ⟨true, ins, reg, tag⟩)) rfl (by decide) Proofs.Tryz.call80 rfl ?_
        rintro _ J3 l3 rfl
        repeat (first | refine Ops.nil ?_ | refine Ops.pure T rfl (by decide) rfl ?_)
        refine Run.dropL (List.nil_sublist _) ?_
        refine Run.keep [0, 6] [_, _] rfl ?_
        refine fin _ _ _ ⟨?_, rfl⟩
        rw [if_pos (of_decide_eq_true h)]
        rfl
      · intro h k' fin
        repeat (first | refine Run.skip ?_)
        refine Run.dropL (List.nil_sublist _) ?_
        refine Run.keep [0, 6] [_, _] rfl ?_
        refine fin _ _ _ ⟨?_, rfl⟩
        rw [if_neg (of_decide_eq_false h)]
        rfl
      generalize hs1 : (if s = [] then hub reg else s) = s1
      rintro env L J3 ⟨rfl, rfl⟩
      repeat (first | refine Run.seq ?_ | refine Run.region ?_ | refine Ops.nil ?_ | refine Ops.eqlStr rfl (by decide) rfl rfl ?_ | refine Ops.pure T rfl (by decide) rfl ?_)
      cases h31 : decide (s1 = [100, 111, 99, 107, 101, 114, 46, 105, 111]) with
      | true =>
        repeat (first | refine Run.seq ?_ | refine Run.region ?_ | refine Ops.nil ?_ | refine Run.cond_t rfl ?_ | refine Ops.pure T rfl (by decide) rfl ?_)
        refine Run.fin (Run.ret3 (by rw [hCf]; exact Proofs.Tryz.func32) Proofs.Tryz.results32 rfl rfl rfl (hR _ _ _ ?_))
        refine ⟨rfl, ?_⟩
        rw [hreg, hs1, aliasT, if_pos (of_decide_eq_true h31)]
        rfl
      | false =>
        repeat (first | refine Run.seq ?_ | refine Run.region ?_ | refine Ops.nil ?_ | refine Run.skip ?_ | refine Run.cond_f rfl ?_ | refine Ops.pure T rfl (by decide) rfl ?_)
        refine Run.fin (Run.ret3 (by rw [hCf]; exact Proofs.Tryz.func32) Proofs.Tryz.results32 rfl rfl rfl (hR _ _ _ ?_))
        refine ⟨rfl, ?_⟩
        rw [hreg, hs1, aliasT, if_neg (of_decide_eq_false h31)]
        rfl
  | false =>
    have hns : (false && decide (s = [])) = false := rfl
    repeat (first | refine Ops.not rfl (by decide) ?_ | refine Ops.pure T rfl (by decide) rfl ?_)
    refine Ops.call ((spec_HostBad I s (by omega))) rfl (by decide) Proofs.Tryz.call79 rfl ?_
    rintro _ J1 l1 rfl
    repeat (first | refine Ops.nil ?_ | refine Ops.pure T rfl (by decide) rfl ?_)
    cases hb : hostBad s with
    | true =>
      repeat (first | refine Run.seq ?_ | refine Run.region ?_ | refine Ops.nil ?_ | refine Run.cond_t rfl ?_ | refine Ops.pure T rfl (by decide) rfl ?_)
      refine Run.fin (Run.ret3 (by rw [hCf]; exact Proofs.Tryz.func32) Proofs.Tryz.results32 rfl rfl rfl (hR _ _ _ ?_))
      exact ⟨rfl, by unfold sReg; rw [hb, Bool.or_true]; rfl⟩
    | false =>
    have hreg : sReg false reg s = (aliasT (if s = [] then hub reg else s), true, !hostPlain s) := by unfold sReg; rw [hb, hns]; rfl
    repeat (first | refine Run.seq ?_ | refine Run.region ?_ | refine Run.skip ?_ | refine Run.cond_f rfl ?_ | refine Ops.pure T rfl (by decide) rfl ?_)
    refine Ops.call ((spec_HostPlain J1 s (by omega))) rfl (by decide) Proofs.Tryz.call37 rfl ?_
    rintro _ J2 l2 rfl
    repeat (first | refine Run.seq ?_ | refine Run.region ?_ | refine Ops.nil ?_ | refine Ops.eqlStr rfl (by decide) rfl rfl ?_ | refine Ops.pure T rfl (by decide) rfl ?_)
    refine Run.merge (fun env' L' I' => env' = [(0, str (if s = [] then hub reg else s)), (6, .bool (!hostPlain s))] ∧ L' = [] ) rfl ?_ ?_ ?_
    · intro h k' fin
      repeat (first | refine Run.region ?_ | refine Ops.loadN 0 rfl (by decide) rfl rfl (T.aggOk rfl) (T.sizeOk rfl) rfl rfl ?_)
      refine Ops.call ((spec_hub J2 ⟨false, ins, reg, tag⟩)) rfl (by decide) Proofs.Tryz.call80 rfl ?_
      rintro _ J3 l3 rfl
      repeat (first | refine Ops.nil ?_ | refine Ops.pure T rfl (by decide) rfl ?_)
      refine Run.dropL (List.nil_sublist _) ?_
      refine Run.keep [0, 6] [_, _] rfl ?_
      refine fin _ _ _ ⟨?_, rfl⟩
      rw [if_pos (of_decide_eq_true h)]
      rfl
    · intro h k' fin
      repeat (first | refine Run.skip ?_)
      refine Run.dropL (List.nil_sublist _) ?_
      refine Run.keep [0, 6] [_, _] rfl ?_
      refine fin _ _ _ ⟨?_, rfl⟩
      rw [if_neg (of_decide_eq_false h)]
      rfl
    generalize hs1 : (if s = [] then hub reg else s) = s1
    rintro env L J3 ⟨rfl, rfl⟩
    repeat (first | refine Run.seq ?_ | refine Run.region ?_ | refine Ops.nil ?_ | refine Ops.eqlStr rfl (by decide) rfl rfl ?_ | refine Ops.pure T rfl (by decide) rfl ?_)
    cases h31 : decide (s1 = [100, 111, 99, 107, 101, 114, 46, 105, 111]) with
    | true =>
      repeat (first | refine Run.seq ?_ | refine Run.region ?_ | refine Ops.nil ?_ | refine Run.cond_t rfl ?_ | refine Ops.pure T rfl (by decide) rfl ?_)
      refine Run.fin (Run.ret3 (by rw [hCf]; exact Proofs.Tryz.func32) Proofs.Tryz.results32 rfl rfl rfl (hR _ _ _ ?_))
      refine ⟨rfl, ?_⟩
      rw [hreg, hs1, aliasT, if_pos (of_decide_eq_true h31)]
      rfl
    | false =>
      repeat (first | refine Run.seq ?_ | refine Run.region ?_ | refine Ops.nil ?_ | refine Run.skip ?_ | refine Run.cond_f rfl ?_ | refine Ops.pure T rfl (by decide) rfl ?_)
      refine Run.fin (Run.ret3 (by rw [hCf]; exact Proofs.Tryz.func32) Proofs.Tryz.results32 rfl rfl rfl (hR _ _ _ ?_))
      refine ⟨rfl, ?_⟩
      rw [hreg, hs1, aliasT, if_neg (of_decide_eq_false h31)]
      rfl
end Go.V
/-
  Repositories and tags read, as the document's functions do.
-/
namespace Go.V
open Go.RowKit
set_option linter.unusedVariables false
set_option linter.unusedSimpArgs false
set_option maxRecDepth 10000
attribute [local irreducible] Run Ops
set_option maxHeartbeats 8000000 in
theorem spec_repositoryOf (I : Imm) (s : Tx) (o : NOpt) (hs : s.length ≤ 4620000000000000000) : Pure Proofs.Tryz.prog 33 [str s, .agg o.cs.toArray] I fun w J => w = t4 (sRepo o.strict o.reg s) := by
  obtain ⟨st, ins, reg, tag⟩ := o
  show Pure Proofs.Tryz.prog 33 [str s, .agg (NOpt.mk st ins reg tag).cs.toArray] I fun w J => w = t4 (sRepo st reg s)
  refine Spec.enter 68 [(0, _), (1, _)] Proofs.Tryz.func33 rfl Proofs.Tryz.ntmps33 (by simp) rfl ?_
  intro C hCf hR hCI
  repeat (first | refine Run.seq ?_ | refine Run.region ?_)
  refine Ops.box rfl (by decide) rfl rfl (fun b => ?_)
  repeat (first | refine Run.seq ?_ | refine Run.region ?_ | refine Ops.nil ?_ | refine Ops.pure T rfl (by decide) rfl ?_)
  refine Ops.call ((spec_firstOf s 47 I (by omega))) rfl (by decide) Proofs.Tryz.call81 rfl ?_
  rintro _ J1 l1 rfl
  cases hk : ix 47 s with
  | none =>
    rw [ixI_none hk]
    have hcut : hostCut s = ([], s) := by simp [hostCut, hk]
    have hnil : decide (([] : Tx) = []) = true := rfl
    have hl2 : (s : Tx).length ≤ s.length := by first | (simp; done) | (simp; omega) | omega
    repeat (first | refine Run.seq ?_ | refine Run.region ?_ | refine Ops.nil ?_ | refine Run.skip ?_ | refine Run.cond_f rfl ?_ | refine Ops.not rfl (by decide) ?_ | refine Ops.geq rfl (by decide) rfl rfl ?_ | refine Ops.pure T rfl (by decide) rfl ?_ | refine Ops.load 0 rfl (by decide) rfl rfl (T.aggOk rfl) rfl ?_)
    refine Ops.buildL bd30 rfl (by decide) rfl rfl ?_
    refine Ops.call ((spec_registryOf J1 (([] : Tx)) ⟨false, false, reg, []⟩ (by first | (simp; done) | (simp; omega) | omega))) rfl (by decide) Proofs.Tryz.call32 rfl ?_
    rintro _ J3 l3 rfl
    unfold t3
    have hrep0 : sRepo st reg s = if !pathGood (s) || !(sReg false reg (([] : Tx))).2.1 || (st && decide ((([] : Tx)) = [])) then ([], [], false, (sReg false reg (([] : Tx))).2.2) else if implNs (sReg false reg (([] : Tx))).1 (s) && st then ([], [], false, (sReg false reg (([] : Tx))).2.2) else ((sReg false reg (([] : Tx))).1, fullP (sReg false reg (([] : Tx))).1 (s), true, (sReg false reg (([] : Tx))).2.2) := by
      unfold sRepo
      rw [hcut]
    generalize (sReg false reg (([] : Tx))).1 = r at *
    generalize (sReg false reg (([] : Tx))).2.1 = ok at *
    generalize (sReg false reg (([] : Tx))).2.2 = op at *
    have hrep := hrep0
    clear hrep0
    repeat (first | refine Run.seq ?_ | refine Run.region ?_ | refine Ops.nil ?_ | refine Ops.pure T rfl (by decide) rfl ?_)
    refine Ops.call ((spec_pathGood J3 (s) (by omega))) rfl (by decide) Proofs.Tryz.call82 rfl ?_
    rintro _ J4 l4 rfl
    cases hpg : pathGood (s) with
    | false =>
      repeat (first | refine Run.seq ?_ | refine Run.region ?_ | refine Ops.nil ?_ | refine Run.cond_t rfl ?_ | refine Ops.not rfl (by decide) ?_ | refine Ops.notU rfl (by decide) ?_ | refine Ops.pure T rfl (by decide) rfl ?_)
      refine Run.fin (Run.ret4 (by rw [hCf]; exact Proofs.Tryz.func33) Proofs.Tryz.results33 rfl rfl rfl rfl (hR _ _ _ ?_))
      refine ⟨rfl, ?_⟩
      rw [hrep]
      simp only [hpg, Bool.not_false, Bool.not_true, Bool.true_or, Bool.or_true, Bool.false_or, Bool.or_false, Bool.true_and, Bool.false_and, if_true]
      rfl
    | true =>
    repeat (first | refine Ops.pure T rfl (by decide) rfl ?_)
    cases ok with
    | false =>
      repeat (first | refine Run.seq ?_ | refine Run.region ?_ | refine Ops.nil ?_ | refine Run.cond_t rfl ?_ | refine Ops.not rfl (by decide) ?_ | refine Ops.notU rfl (by decide) ?_ | refine Ops.pure T rfl (by decide) rfl ?_)
      refine Run.fin (Run.ret4 (by rw [hCf]; exact Proofs.Tryz.func33) Proofs.Tryz.results33 rfl rfl rfl rfl (hR _ _ _ ?_))
      refine ⟨rfl, ?_⟩
      rw [hrep]
      simp only [hpg, Bool.not_false, Bool.not_true, Bool.true_or, Bool.or_true, Bool.false_or, Bool.or_false, Bool.true_and, Bool.false_and, if_true]
      rfl
    | true =>
    repeat (first | refine Ops.pure T rfl (by decide) rfl ?_ | refine Ops.load 0 rfl (by decide) rfl rfl (T.aggOk rfl) rfl ?_)
    cases st with
    | false =>
      repeat (first | refine Run.seq ?_ | refine Run.region ?_ | refine Ops.nil ?_ | refine Run.skip ?_ | refine Run.cond_f rfl ?_ | refine Ops.not rfl (by decide) ?_ | refine Ops.eqlStr rfl (by decide) rfl rfl ?_ | refine Ops.pure T rfl (by decide) rfl ?_)
      cases h8 : decide (r = [105, 110, 100, 101, 120, 46, 100, 111, 99, 107, 101, 114, 46, 105, 111]) with
      | false =>
        have h8' : decide (r = hubT) = false := h8
        repeat (first | refine Run.seq ?_ | refine Run.region ?_ | refine Ops.nil ?_ | refine Run.skip ?_ | refine Run.cond_f rfl ?_ | refine Ops.not rfl (by decide) ?_ | refine Ops.pure T rfl (by decide) rfl ?_)
        refine Run.fin (Run.ret4 (by rw [hCf]; exact Proofs.Tryz.func33) Proofs.Tryz.results33 rfl rfl rfl rfl (hR _ _ _ ?_))
        refine ⟨rfl, ?_⟩
        rw [hrep]
        simp only [hpg, implNs, fullP, h8', Bool.not_false, Bool.not_true, Bool.true_or, Bool.or_true, Bool.false_or, Bool.or_false, Bool.true_and, Bool.false_and, Bool.and_false, Bool.and_true, Bool.false_eq_true, if_true, if_false]
        rfl
      | true =>
        have h8' : decide (r = hubT) = true := h8
        repeat (first | refine Ops.pure T rfl (by decide) rfl ?_)
        refine Ops.call ((spec_firstOf (s) 47 _ (by omega))) rfl (by decide) Proofs.Tryz.call81 rfl ?_
        rintro _ J5 l5 rfl
        repeat (first | refine Ops.nil ?_ | refine Ops.lss rfl (by decide) rfl rfl ?_ | refine Ops.pure T rfl (by decide) rfl ?_)
        rw [ixI_has']
        cases h9 : hasB 47 (s) with
        | true =>
          repeat (first | refine Run.seq ?_ | refine Run.region ?_ | refine Ops.nil ?_ | refine Run.skip ?_ | refine Run.cond_f rfl ?_ | refine Ops.pure T rfl (by decide) rfl ?_)
          refine Run.fin (Run.ret4 (by rw [hCf]; exact Proofs.Tryz.func33) Proofs.Tryz.results33 rfl rfl rfl rfl (hR _ _ _ ?_))
          refine ⟨rfl, ?_⟩
          rw [hrep]
          simp only [hpg, h9, implNs, fullP, h8', Bool.not_false, Bool.not_true, Bool.true_or, Bool.or_true, Bool.false_or, Bool.or_false, Bool.true_and, Bool.false_and, Bool.and_false, Bool.and_true, Bool.false_eq_true, if_true, if_false]
          rfl
        | false =>
          repeat (first | refine Run.seq ?_ | refine Run.region ?_ | refine Ops.nil ?_ | refine Run.skip ?_ | refine Run.cond_t rfl ?_ | refine Run.cond_f rfl ?_ | refine Ops.cat rfl (by decide) rfl rfl (by first | omega | (simp only [List.length_cons, List.length_nil] ; omega) | (simp; omega)) ?_ | refine Ops.pure T rfl (by decide) rfl ?_ | refine Ops.load 0 rfl (by decide) rfl rfl (T.aggOk rfl) rfl ?_)
          refine Run.fin (Run.ret4 (by rw [hCf]; exact Proofs.Tryz.func33) Proofs.Tryz.results33 rfl rfl rfl rfl (hR _ _ _ ?_))
          refine ⟨rfl, ?_⟩
          rw [hrep]
          simp only [hpg, h9, implNs, fullP, h8', Bool.not_false, Bool.not_true, Bool.true_or, Bool.or_true, Bool.false_or, Bool.or_false, Bool.true_and, Bool.false_and, Bool.and_false, Bool.and_true, Bool.false_eq_true, if_true, if_false]
          rfl
    | true =>
      repeat (first | refine Run.seq ?_ | refine Run.region ?_ | refine Ops.nil ?_ | refine Run.cond_t rfl ?_ | refine Ops.eqlStr rfl (by decide) rfl rfl ?_ | refine Ops.pure T rfl (by decide) rfl ?_)
      refine Run.fin (Run.ret4 (by rw [hCf]; exact Proofs.Tryz.func33) Proofs.Tryz.results33 rfl rfl rfl rfl (hR _ _ _ ?_))
      refine ⟨rfl, ?_⟩
      rw [hrep]
      simp only [hpg, hnil, Bool.not_false, Bool.not_true, Bool.true_or, Bool.or_true, Bool.false_or, Bool.or_false, Bool.true_and, Bool.false_and, if_true]
      rfl
  | some k =>
    rw [ixI_eq hk]
    have hlt := ix_lt hk
    have hcut0 : hostCut s = if hosted (s.take k) then (s.take k, s.drop (k + 1)) else ([], s) := by simp [hostCut, hk]
    repeat (first | refine Run.seq ?_ | refine Run.region ?_ | refine Ops.nil ?_ | refine Ops.geq rfl (by decide) rfl rfl ?_ | refine Ops.pure T rfl (by decide) rfl ?_ | refine Ops.sliceStrHi rfl (by decide) (T.undOk rfl) rfl rfl (by first | omega | (simp only [List.length_cons, List.length_nil] ; omega) | (simp; omega)) (by first | omega | (simp only [List.length_cons, List.length_nil] ; omega) | (simp; omega)) ?_)
    rw [decide_eq_true (show (0 : Int) ≤ (k : Int) by omega)]
    skip
    have ek : ((k : Int)).toNat = k := by omega
    rw [ek]
    refine Ops.call ((spec_hosted J1 (s.take k) (by simp; omega))) rfl (by decide) Proofs.Tryz.call38 rfl ?_
    rintro _ J2 l2 rfl
    cases hho : hosted (s.take k) with
    | false =>
      have hcut : hostCut s = ([], s) := by rw [hcut0, hho]; rfl
      have hnil : decide (([] : Tx) = []) = true := rfl
      have hl2 : (s : Tx).length ≤ s.length := by first | (simp; done) | (simp; omega) | omega
      repeat (first | refine Run.seq ?_ | refine Run.region ?_ | refine Ops.nil ?_ | refine Run.skip ?_ | refine Run.cond_f rfl ?_ | refine Ops.pure T rfl (by decide) rfl ?_ | refine Ops.load 0 rfl (by decide) rfl rfl (T.aggOk rfl) rfl ?_)
      refine Ops.buildL bd30 rfl (by decide) rfl rfl ?_
      refine Ops.call ((spec_registryOf J2 (([] : Tx)) ⟨false, false, reg, []⟩ (by first | (simp; done) | (simp; omega) | omega))) rfl (by decide) Proofs.Tryz.call32 rfl ?_
      rintro _ J3 l3 rfl
      unfold t3
      have hrep0 : sRepo st reg s = if !pathGood (s) || !(sReg false reg (([] : Tx))).2.1 || (st && decide ((([] : Tx)) = [])) then ([], [], false, (sReg false reg (([] : Tx))).2.2) else if implNs (sReg false reg (([] : Tx))).1 (s) && st then ([], [], false, (sReg false reg (([] : Tx))).2.2) else ((sReg false reg (([] : Tx))).1, fullP (sReg false reg (([] : Tx))).1 (s), true, (sReg false reg (([] : Tx))).2.2) := by
        unfold sRepo
        rw [hcut]
      generalize (sReg false reg (([] : Tx))).1 = r at *
      generalize (sReg false reg (([] : Tx))).2.1 = ok at *
      generalize (sReg false reg (([] : Tx))).2.2 = op at *
      have hrep := hrep0
      clear hrep0
      repeat (first | refine Run.seq ?_ | refine Run.region ?_ | refine Ops.nil ?_ | refine Ops.pure T rfl (by decide) rfl ?_)
      refine Ops.call ((spec_pathGood J3 (s) (by omega))) rfl (by decide) Proofs.Tryz.call82 rfl ?_
      rintro _ J4 l4 rfl
      cases hpg : pathGood (s) with
      | false =>
        repeat (first | refine Run.seq ?_ | refine Run.region ?_ | refine Ops.nil ?_ | refine Run.cond_t rfl ?_ | refine Ops.not rfl (by decide) ?_ | refine Ops.notU rfl (by decide) ?_ | refine Ops.pure T rfl (by decide) rfl ?_)
        refine Run.fin (Run.ret4 (by rw [hCf]; exact Proofs.Tryz.func33) Proofs.Tryz.results33 rfl rfl rfl rfl (hR _ _ _ ?_))
        refine ⟨rfl, ?_⟩
        rw [hrep]
        simp only [hpg, Bool.not_false, Bool.not_true, Bool.true_or, Bool.or_true, Bool.false_or, Bool.or_false, Bool.true_and, Bool.false_and, if_true]
        rfl
      | true =>
      repeat (first | refine Ops.pure T rfl (by decide) rfl ?_)
      cases ok with
      | false =>
        repeat (first | refine Run.seq ?_ | refine Run.region ?_ | refine Ops.nil ?_ | refine Run.cond_t rfl ?_ | refine Ops.not rfl (by decide) ?_ | refine Ops.notU rfl (by decide) ?_ | refine Ops.pure T rfl (by decide) rfl ?_)
        refine Run.fin (Run.ret4 (by rw [hCf]; exact Proofs.Tryz.func33) Proofs.Tryz.results33 rfl rfl rfl rfl (hR _ _ _ ?_))
        refine ⟨rfl, ?_⟩
        rw [hrep]
        simp only [hpg, Bool.not_false, Bool.not_true, Bool.true_or, Bool.or_true, Bool.false_or, Bool.or_false, Bool.true_and, Bool.false_and, if_true]
        rfl
      | true =>
      repeat (first | refine Ops.pure T rfl (by decide) rfl ?_ | refine Ops.load 0 rfl (by decide) rfl rfl (T.aggOk rfl) rfl ?_)
      cases st with
      | false =>
        repeat (first | refine Run.seq ?_ | refine Run.region ?_ | refine Ops.nil ?_ | refine Run.skip ?_ | refine Run.cond_f rfl ?_ | refine Ops.not rfl (by decide) ?_ | refine Ops.eqlStr rfl (by decide) rfl rfl ?_ | refine Ops.pure T rfl (by decide) rfl ?_)
        cases h8 : decide (r = [105, 110, 100, 101, 120, 46, 100, 111, 99, 107, 101, 114, 46, 105, 111]) with
        | false =>
          have h8' : decide (r = hubT) = false := h8
          repeat (first | refine Run.seq ?_ | refine Run.region ?_ | refine Ops.nil ?_ | refine Run.skip ?_ | refine Run.cond_f rfl ?_ | refine Ops.not rfl (by decide) ?_ | refine Ops.pure T rfl (by decide) rfl ?_)
          refine Run.fin (Run.ret4 (by rw [hCf]; exact Proofs.Tryz.func33) Proofs.Tryz.results33 rfl rfl rfl rfl (hR _ _ _ ?_))
          refine ⟨rfl, ?_⟩
          rw [hrep]
          simp only [hpg, implNs, fullP, h8', Bool.not_false, Bool.not_true, Bool.true_or, Bool.or_true, Bool.false_or, Bool.or_false, Bool.true_and, Bool.false_and, Bool.and_false, Bool.and_true, Bool.false_eq_true, if_true, if_false]
          rfl
        | true =>
          have h8' : decide (r = hubT) = true := h8
          repeat (first | refine Ops.pure T rfl (by decide) rfl ?_)
          refine Ops.call ((spec_firstOf (s) 47 _ (by omega))) rfl (by decide) Proofs.Tryz.call81 rfl ?_
          rintro _ J5 l5 rfl
          repeat (first | refine Ops.nil ?_ | refine Ops.lss rfl (by decide) rfl rfl ?_ | refine Ops.pure T rfl (by decide) rfl ?_)
          rw [ixI_has']
          cases h9 : hasB 47 (s) with
          | true =>
            repeat (first | refine Run.seq ?_ | refine Run.region ?_ | refine Ops.nil ?_ | refine Run.skip ?_ | refine Run.cond_f rfl ?_ | refine Ops.pure T rfl (by decide) rfl ?_)
            refine Run.fin (Run.ret4 (by rw [hCf]; exact Proofs.Tryz.func33) Proofs.Tryz.results33 rfl rfl rfl rfl (hR _ _ _ ?_))
            refine ⟨rfl, ?_⟩
            rw [hrep]
            simp only [hpg, h9, implNs, fullP, h8', Bool.not_false, Bool.not_true, Bool.true_or, Bool.or_true, Bool.false_or, Bool.or_false, Bool.true_and, Bool.false_and, Bool.and_false, Bool.and_true, Bool.false_eq_true, if_true, if_false]
            rfl
          | false =>
            repeat (first | refine Run.seq ?_ | refine Run.region ?_ | refine Ops.nil ?_ | refine Run.skip ?_ | refine Run.cond_t rfl ?_ | refine Run.cond_f rfl ?_ | refine Ops.cat rfl (by decide) rfl rfl (by first | omega | (simp only [List.length_cons, List.length_nil] ; omega) | (simp; omega)) ?_ | refine Ops.pure T rfl (by decide) rfl ?_ | refine Ops.load 0 rfl (by decide) rfl rfl (T.aggOk rfl) rfl ?_)
            refine Run.fin (Run.ret4 (by rw [hCf]; exact Proofs.Tryz.func33) Proofs.Tryz.results33 rfl rfl rfl rfl (hR _ _ _ ?_))
            refine ⟨rfl, ?_⟩
            rw [hrep]
            simp only [hpg, h9, implNs, fullP, h8', Bool.not_false, Bool.not_true, Bool.true_or, Bool.or_true, Bool.false_or, Bool.or_false, Bool.true_and, Bool.false_and, Bool.and_false, Bool.and_true, Bool.false_eq_true, if_true, if_false]
            rfl
      | true =>
        repeat (first | refine Run.seq ?_ | refine Run.region ?_ | refine Ops.nil ?_ | refine Run.cond_t rfl ?_ | refine Ops.eqlStr rfl (by decide) rfl rfl ?_ | refine Ops.pure T rfl (by decide) rfl ?_)
        refine Run.fin (Run.ret4 (by rw [hCf]; exact Proofs.Tryz.func33) Proofs.Tryz.results33 rfl rfl rfl rfl (hR _ _ _ ?_))
        refine ⟨rfl, ?_⟩
        rw [hrep]
        simp only [hpg, hnil, Bool.not_false, Bool.not_true, Bool.true_or, Bool.or_true, Bool.false_or, Bool.or_false, Bool.true_and, Bool.false_and, if_true]
        rfl
    | true =>
      have hcut : hostCut s = (s.take k, s.drop (k + 1)) := by rw [hcut0, if_pos hho]
      repeat (first | refine Ops.nil ?_ | refine Run.cond_t rfl ?_ | refine Ops.pure T rfl (by decide) rfl ?_)
      refine Run.regionAny (Holds J2 []) (bl 9 0) (by kernel_rfl) (by kernel_rfl) ?_
      refine RAny.tk 0 (bl 9 1) rfl (by kernel_rfl) (by decide) (fun W h => h.holds (Le.refl _) (by first | exact mp rfl | exact mq rfl)) (Yld.eval T rfl rfl) ?_
      refine RAny.tk 1 (bl 9 3) rfl (by kernel_rfl) (by decide) (fun W h => h.holds (Le.refl _) (by first | exact mp rfl | exact mq rfl)) (Yld.eval T rfl rfl) ?_
      refine RAny.tk 2 (bl 9 7) rfl (by kernel_rfl) (by decide) (fun W h => h.holds (Le.refl _) (by first | exact mp rfl | exact mq rfl)) (Yld.as (v' := str (s.take k)) (Yld.sliceHi T rfl rfl rfl rfl (by omega) (by omega)) (by rw [ek])) ?_
      refine RAny.tk 3 (bl 9 15) rfl (by kernel_rfl) (by decide) (fun W h => h.holds (Le.refl _) (by first | exact mp rfl | exact mq rfl)) (Yld.eval T rfl rfl) ?_
      refine RAny.tk 4 (bl 9 31) rfl (by kernel_rfl) (by decide) (fun W h => h.holds (Le.refl _) (by first | exact mp rfl | exact mq rfl)) (Yld.eval T rfl rfl) ?_
      refine RAny.tk 5 (bl 9 63) rfl (by kernel_rfl) (by decide) (fun W h => h.holds (Le.refl _) (by first | exact mp rfl | exact mq rfl)) (Yld.add rfl rfl rfl (wI (by omega) (by omega))) ?_
      refine RAny.tk 6 (bl 9 127) rfl (by kernel_rfl) (by decide) (fun W h => h.holds (Le.refl _) (by first | exact mp rfl | exact mq rfl)) (Yld.as (v' := str (s.drop (k + 1))) (Yld.sliceLo T rfl rfl rfl rfl (by omega) (by omega)) (by congr 2)) ?_
      refine RAny.tk 7 (bl 9 255) rfl (by kernel_rfl) (by decide) (fun W h => h.holds (Le.refl _) (by first | exact mp rfl | exact mq rfl)) (Yld.eval T rfl rfl) ?_
      refine RAny.tk 8 (bl 9 511) rfl (by kernel_rfl) (by decide) (fun W h => h.holds (Le.refl _) (by first | exact mp rfl | exact mq rfl)) (Yld.eval T rfl rfl) ?_
      refine RAny.done _ (by kernel_rfl) ?_
      have hne : decide (s.take k = []) = false := decide_eq_false (hosted_ne hho)
      have hl2 : (s.drop (k + 1) : Tx).length ≤ s.length := by first | (simp; done) | (simp; omega) | omega
      repeat (first | refine Run.seq ?_ | refine Run.region ?_ | refine Ops.pure T rfl (by decide) rfl ?_ | refine Ops.load 0 rfl (by decide) rfl rfl (T.aggOk rfl) rfl ?_)
      refine Ops.buildL bd30 rfl (by decide) rfl rfl ?_
      refine Ops.call ((spec_registryOf J2 (s.take k) ⟨false, false, reg, []⟩ (by first | (simp; done) | (simp; omega) | omega))) rfl (by decide) Proofs.Tryz.call32 rfl ?_
      rintro _ J3 l3 rfl
      unfold t3
      have hrep0 : sRepo st reg s = if !pathGood (s.drop (k + 1)) || !(sReg false reg (s.take k)).2.1 || (st && decide ((s.take k) = [])) then ([], [], false, (sReg false reg (s.take k)).2.2) else if implNs (sReg false reg (s.take k)).1 (s.drop (k + 1)) && st then ([], [], false, (sReg false reg (s.take k)).2.2) else ((sReg false reg (s.take k)).1, fullP (sReg false reg (s.take k)).1 (s.drop (k + 1)), true, (sReg false reg (s.take k)).2.2) := by
        unfold sRepo
        rw [hcut]
      generalize (sReg false reg (s.take k)).1 = r at *
      generalize (sReg false reg (s.take k)).2.1 = ok at *
      generalize (sReg false reg (s.take k)).2.2 = op at *
      have hrep := hrep0
      clear hrep0
      repeat (first | refine Run.seq ?_ | refine Run.region ?_ | refine Ops.nil ?_ | refine Ops.pure T rfl (by decide) rfl ?_)
      refine Ops.call ((spec_pathGood J3 (s.drop (k + 1)) (by omega))) rfl (by decide) Proofs.Tryz.call82 rfl ?_
      rintro _ J4 l4 rfl
      cases hpg : pathGood (s.drop (k + 1)) with
      | false =>
        repeat (first | refine Run.seq ?_ | refine Run.region ?_ | refine Ops.nil ?_ | refine Run.cond_t rfl ?_ | refine Ops.not rfl (by decide) ?_ | refine Ops.notU rfl (by decide) ?_ | refine Ops.pure T rfl (by decide) rfl ?_)
        refine Run.fin (Run.ret4 (by rw [hCf]; exact Proofs.Tryz.func33) Proofs.Tryz.results33 rfl rfl rfl rfl (hR _ _ _ ?_))
        refine ⟨rfl, ?_⟩
        rw [hrep]
        simp only [hpg, Bool.not_false, Bool.not_true, Bool.true_or, Bool.or_true, Bool.false_or, Bool.or_false, Bool.true_and, Bool.false_and, if_true]
        rfl
      | true =>
      repeat (first | refine Ops.pure T rfl (by decide) rfl ?_)
      cases ok with
      | false =>
        repeat (first | refine Run.seq ?_ | refine Run.region ?_ | refine Ops.nil ?_ | refine Run.cond_t rfl ?_ | refine Ops.not rfl (by decide) ?_ | refine Ops.notU rfl (by decide) ?_ | refine Ops.pure T rfl (by decide) rfl ?_)
        refine Run.fin (Run.ret4 (by rw [hCf]; exact Proofs.Tryz.func33) Proofs.Tryz.results33 rfl rfl rfl rfl (hR _ _ _ ?_))
        refine ⟨rfl, ?_⟩
        rw [hrep]
        simp only [hpg, Bool.not_false, Bool.not_true, Bool.true_or, Bool.or_true, Bool.false_or, Bool.or_false, Bool.true_and, Bool.false_and, if_true]
        rfl
      | true =>
      repeat (first | refine Ops.pure T rfl (by decide) rfl ?_ | refine Ops.load 0 rfl (by decide) rfl rfl (T.aggOk rfl) rfl ?_)
      cases st with
      | false =>
        repeat (first | refine Run.seq ?_ | refine Run.region ?_ | refine Ops.nil ?_ | refine Run.skip ?_ | refine Run.cond_f rfl ?_ | refine Ops.not rfl (by decide) ?_ | refine Ops.eqlStr rfl (by decide) rfl rfl ?_ | refine Ops.pure T rfl (by decide) rfl ?_)
        cases h8 : decide (r = [105, 110, 100, 101, 120, 46, 100, 111, 99, 107, 101, 114, 46, 105, 111]) with
        | false =>
          have h8' : decide (r = hubT) = false := h8
          repeat (first | refine Run.seq ?_ | refine Run.region ?_ | refine Ops.nil ?_ | refine Run.skip ?_ | refine Run.cond_f rfl ?_ | refine Ops.not rfl (by decide) ?_ | refine Ops.pure T rfl (by decide) rfl ?_)
          refine Run.fin (Run.ret4 (by rw [hCf]; exact Proofs.Tryz.func33) Proofs.Tryz.results33 rfl rfl rfl rfl (hR _ _ _ ?_))
          refine ⟨rfl, ?_⟩
          rw [hrep]
          simp only [hpg, implNs, fullP, h8', Bool.not_false, Bool.not_true, Bool.true_or, Bool.or_true, Bool.false_or, Bool.or_false, Bool.true_and, Bool.false_and, Bool.and_false, Bool.and_true, Bool.false_eq_true, if_true, if_false]
          rfl
        | true =>
          have h8' : decide (r = hubT) = true := h8
          repeat (first | refine Ops.pure T rfl (by decide) rfl ?_)
          refine Ops.call ((spec_firstOf (s.drop (k + 1)) 47 _ (by omega))) rfl (by decide) Proofs.Tryz.call81 rfl ?_
          rintro _ J5 l5 rfl
          repeat (first | refine Ops.nil ?_ | refine Ops.lss rfl (by decide) rfl rfl ?_ | refine Ops.pure T rfl (by decide) rfl ?_)
          rw [ixI_has']
          cases h9 : hasB 47 (s.drop (k + 1)) with
          | true =>
            repeat (first | refine Run.seq ?_ | refine Run.region ?_ | refine Ops.nil ?_ | refine Run.skip ?_ | refine Run.cond_f rfl ?_ | refine Ops.pure T rfl (by decide) rfl ?_)
            refine Run.fin (Run.ret4 (by rw [hCf]; exact Proofs.Tryz.func33) Proofs.Tryz.results33 rfl rfl rfl rfl (hR _ _ _ ?_))
            refine ⟨rfl, ?_⟩
            rw [hrep]
            simp only [hpg, h9, implNs, fullP, h8', Bool.not_false, Bool.not_true, Bool.true_or, Bool.or_true, Bool.false_or, Bool.or_false, Bool.true_and, Bool.false_and, Bool.and_false, Bool.and_true, Bool.false_eq_true, if_true, if_false]
            rfl
          | false =>
            repeat (first | refine Run.seq ?_ | refine Run.region ?_ | refine Ops.nil ?_ | refine Run.skip ?_ | refine Run.cond_t rfl ?_ | refine Run.cond_f rfl ?_ | refine Ops.cat rfl (by decide) rfl rfl (by first | omega | (simp only [List.length_cons, List.length_nil] ; omega) | (simp; omega)) ?_ | refine Ops.pure T rfl (by decide) rfl ?_ | refine Ops.load 0 rfl (by decide) rfl rfl (T.aggOk rfl) rfl ?_)
            refine Run.fin (Run.ret4 (by rw [hCf]; exact Proofs.Tryz.func33) Proofs.Tryz.results33 rfl rfl rfl rfl (hR _ _ _ ?_))
            refine ⟨rfl, ?_⟩
            rw [hrep]
            simp only [hpg, h9, implNs, fullP, h8', Bool.not_false, Bool.not_true, Bool.true_or, Bool.or_true, Bool.false_or, Bool.or_false, Bool.true_and, Bool.false_and, Bool.and_false, Bool.and_true, Bool.false_eq_true, if_true, if_false]
            rfl
      | true =>
        repeat (first | refine Ops.nil ?_ | refine Ops.eqlStr rfl (by decide) rfl rfl ?_ | refine Ops.pure T rfl (by decide) rfl ?_)
        rw [hne]
        repeat (first | refine Run.seq ?_ | refine Run.region ?_ | refine Run.skip ?_ | refine Run.cond_f rfl ?_ | refine Ops.eqlStr rfl (by decide) rfl rfl ?_ | refine Ops.pure T rfl (by decide) rfl ?_)
        cases h8 : decide (r = [105, 110, 100, 101, 120, 46, 100, 111, 99, 107, 101, 114, 46, 105, 111]) with
        | false =>
          have h8' : decide (r = hubT) = false := h8
          repeat (first | refine Run.seq ?_ | refine Run.region ?_ | refine Ops.nil ?_ | refine Run.skip ?_ | refine Run.cond_f rfl ?_ | refine Ops.not rfl (by decide) ?_ | refine Ops.pure T rfl (by decide) rfl ?_)
          refine Run.fin (Run.ret4 (by rw [hCf]; exact Proofs.Tryz.func33) Proofs.Tryz.results33 rfl rfl rfl rfl (hR _ _ _ ?_))
          refine ⟨rfl, ?_⟩
          rw [hrep]
          simp only [hpg, hne, implNs, fullP, h8', Bool.not_false, Bool.not_true, Bool.true_or, Bool.or_true, Bool.false_or, Bool.or_false, Bool.true_and, Bool.false_and, Bool.and_false, Bool.and_true, Bool.false_eq_true, if_true, if_false]
          rfl
        | true =>
          have h8' : decide (r = hubT) = true := h8
          repeat (first | refine Ops.pure T rfl (by decide) rfl ?_)
          refine Ops.call ((spec_firstOf (s.drop (k + 1)) 47 _ (by omega))) rfl (by decide) Proofs.Tryz.call81 rfl ?_
          rintro _ J5 l5 rfl
          repeat (first | refine Ops.nil ?_ | refine Ops.lss rfl (by decide) rfl rfl ?_ | refine Ops.pure T rfl (by decide) rfl ?_)
          rw [ixI_has']
          cases h9 : hasB 47 (s.drop (k + 1)) with
          | true =>
            repeat (first | refine Run.seq ?_ | refine Run.region ?_ | refine Ops.nil ?_ | refine Run.skip ?_ | refine Run.cond_f rfl ?_ | refine Ops.pure T rfl (by decide) rfl ?_)
            refine Run.fin (Run.ret4 (by rw [hCf]; exact Proofs.Tryz.func33) Proofs.Tryz.results33 rfl rfl rfl rfl (hR _ _ _ ?_))
            refine ⟨rfl, ?_⟩
            rw [hrep]
            simp only [hpg, hne, h9, implNs, fullP, h8', Bool.not_false, Bool.not_true, Bool.true_or, Bool.or_true, Bool.false_or, Bool.or_false, Bool.true_and, Bool.false_and, Bool.and_false, Bool.and_true, Bool.false_eq_true, if_true, if_false]
            rfl
          | false =>
            repeat (first | refine Run.seq ?_ | refine Run.region ?_ | refine Ops.nil ?_ | refine Run.cond_t rfl ?_ | refine Ops.pure T rfl (by decide) rfl ?_ | refine Ops.load 0 rfl (by decide) rfl rfl (T.aggOk rfl) rfl ?_)
            refine Run.fin (Run.ret4 (by rw [hCf]; exact Proofs.Tryz.func33) Proofs.Tryz.results33 rfl rfl rfl rfl (hR _ _ _ ?_))
            refine ⟨rfl, ?_⟩
            rw [hrep]
            simp only [hpg, hne, h9, implNs, fullP, h8', Bool.not_false, Bool.not_true, Bool.true_or, Bool.or_true, Bool.false_or, Bool.or_false, Bool.true_and, Bool.false_and, Bool.and_false, Bool.and_true, Bool.false_eq_true, if_true, if_false]
            rfl
end Go.V
/-
  A summary of the library, at this program: which number stands where.
-/
namespace Go.V
open Go.Shelf Go.Proofs
set_option linter.unusedVariables false
set_option maxRecDepth 100000
def ren156 : Go.Shelf.Ren := ⟨fun | 156 => 76 | 165 => 101 | 166 => 102 | 169 => 103 | 240 => 114 | 241 => 115 | 276 => 120 | 277 => 121 | n => n, fun | 0 => 0 | 3 => 3 | 4 => 4 | 5 => 5 | 9 => 9 | 20 => 20 | 31 => 36 | 37 => 111 | 70 => 110 | 72 => 113 | 75 => 45 | 76 => 115 | 80 => 61 | 127 => 127 | 164 => 132 | n => n, fun n => n⟩
theorem lays156 : Lays.n156 Proofs.Tryz.prog ren156 := {
  mixed := by kernel_rfl
  f156 := Proofs.Tryz.func76.trans (congrArg some (by kernel_rfl))
  f165 := Proofs.Tryz.func101.trans (congrArg some (by kernel_rfl))
  f166 := Proofs.Tryz.func102.trans (congrArg some (by kernel_rfl))
  f169 := Proofs.Tryz.func103.trans (congrArg some (by kernel_rfl))
  f240 := Proofs.Tryz.func114.trans (congrArg some (by kernel_rfl))
  f241 := Proofs.Tryz.func115.trans (congrArg some (by kernel_rfl))
  f276 := Proofs.Tryz.func120.trans (congrArg some (by kernel_rfl))
  f277 := Proofs.Tryz.func121.trans (congrArg some (by kernel_rfl))
  t0 := Proofs.Tryz.underlying0
  a0 := Proofs.Tryz.isAgg0
  z0 := Proofs.Tryz.sizeOf0
  v0 := Proofs.Tryz.zeroValue0
  t3 := Proofs.Tryz.underlying3
  a3 := Proofs.Tryz.isAgg3
  z3 := Proofs.Tryz.sizeOf3
  v3 := Proofs.Tryz.zeroValue3
  t4 := Proofs.Tryz.underlying4
  a4 := Proofs.Tryz.isAgg4
  z4 := Proofs.Tryz.sizeOf4
  v4 := Proofs.Tryz.zeroValue4
  t9 := Proofs.Tryz.underlying9
  a9 := Proofs.Tryz.isAgg9
  z9 := Proofs.Tryz.sizeOf9
  v9 := Proofs.Tryz.zeroValue9
  t20 := Proofs.Tryz.underlying20
  a20 := Proofs.Tryz.isAgg20
  z20 := Proofs.Tryz.sizeOf20
  v20 := Proofs.Tryz.zeroValue20
  t31 := Proofs.Tryz.underlying36
  a31 := Proofs.Tryz.isAgg36
  z31 := Proofs.Tryz.sizeOf36
  v31 := Proofs.Tryz.zeroValue36
  t37 := Proofs.Tryz.underlying111
  a37 := Proofs.Tryz.isAgg111
  z37 := Proofs.Tryz.sizeOf111
  v37 := Proofs.Tryz.zeroValue111
  t70 := Proofs.Tryz.underlying110
  a70 := Proofs.Tryz.isAgg110
  z70 := Proofs.Tryz.sizeOf110
  v70 := Proofs.Tryz.zeroValue110
  t72 := Proofs.Tryz.underlying113
  a72 := Proofs.Tryz.isAgg113
  z72 := Proofs.Tryz.sizeOf113
  v72 := Proofs.Tryz.zeroValue113
  t75 := Proofs.Tryz.underlying45
  a75 := Proofs.Tryz.isAgg45
  z75 := Proofs.Tryz.sizeOf45
  v75 := Proofs.Tryz.zeroValue45
  t76 := Proofs.Tryz.underlying115
  a76 := Proofs.Tryz.isAgg115
  z76 := Proofs.Tryz.sizeOf115
  v76 := Proofs.Tryz.zeroValue115
  t127 := Proofs.Tryz.underlying127
  a127 := Proofs.Tryz.isAgg127
  z127 := Proofs.Tryz.sizeOf127
  v127 := Proofs.Tryz.zeroValue127
  t164 := Proofs.Tryz.underlying132
  a164 := Proofs.Tryz.isAgg132
  z164 := Proofs.Tryz.sizeOf132
  v164 := Proofs.Tryz.zeroValue132 }
end Go.V
/-
  Texts joined: by the library's proved summary.
-/
namespace Go.V
open Go.RowKit Go.Shelf
set_option linter.unusedVariables false
set_option linter.unusedSimpArgs false
set_option maxRecDepth 10000
attribute [local irreducible] Run Ops
theorem extra156 : Proofs.Builder.Extra Proofs.Tryz.prog ren156 :=
  { sizeBuilder := by kernel_rfl, liesBuilder := by kernel_rfl, t5 := Proofs.Tryz.underlying5, a5 := Proofs.Tryz.isAgg5, z5 := Proofs.Tryz.sizeOf5, v5 := Proofs.Tryz.zeroValue5, infoByte := by kernel_rfl, cellsByte := by kernel_rfl, sizeByte := by kernel_rfl, neB5 := by decide }
abbrev Txts := List Tx
theorem bb_toList (x : Tx) : (⟨x.toArray⟩ : ByteArray).data.toList = x := by simp
theorem Sl.cell {I : Imm} {W : World} {v : Value} {xs : Txts} (hS : Sl tStr I v xs) (hf : ∀ b o, I b = some o → W.heap[b]? = some o) (hne : xs ≠ []) : ∃ b off c, v = .slice (some ⟨b, off, none⟩) xs.length c ∧ xs.length ≤ c ∧ b < W.heap.size ∧ ∀ (j : Nat) x, xs[j]? = some x → W.cell? ⟨b, off + j, none⟩ = some (str x) := by
  obtain ⟨A, c, rfl, hc, hrow⟩ := hS
  rcases hrow with rfl | ⟨b, off, rfl, hrow⟩
  · exact absurd rfl hne
  have key : ∀ (j : Nat) x, xs[j]? = some x → W.cell? ⟨b, off + j, none⟩ = some (str x) := by
    intro j x hx
    obtain ⟨cs, hr, hA⟩ := hrow j x hx
    obtain rfl : cs = [str x] := hr
    obtain ⟨cells, t, fr, h1, h2⟩ := hA
    have := h2 0 (str x) rfl
    rw [cell_blk (hf b _ h1)]
    have e : off + j * tStr.size = off + j := by rw [show tStr.size = 1 from rfl, Nat.mul_one]
    rw [e] at this
    exact this
  refine ⟨b, off, c, rfl, hc, ?_, key⟩
  cases xs with
  | nil => exact absurd rfl hne
  | cons x r =>
    obtain ⟨cs, hr, hA⟩ := hrow 0 x rfl
    obtain ⟨cells, t, fr, h1, _⟩ := hA
    exact (Array.getElem?_eq_some_iff.1 (hf b _ h1)).1
theorem strings_Join (I : Imm) (xs : Txts) (sep : Tx) (v : Value) (hS : Sl tStr I v xs) (hN : xs.length ≤ 140737488355328) (hlen : (Lib.join xs sep).length ≤ 140737488355328) : Pure Proofs.Tryz.prog 76 [v, str sep] I fun w J => w = str (Lib.join xs sep) ∧ J = I := by
  refine Pure.ofBelow fun w hf => ?_
  match xs, hS, hN, hlen with
  | [], hS, _, _ =>
    obtain ⟨A, c, rfl, _⟩ := hS
    refine (Proofs.Any.strings_Join_none lays156 extra156 A c ⟨sep.toArray⟩ w).mono ?_
    rintro e w' ⟨rfl, rfl⟩
    exact ⟨by rw [Lib.join_nil]; rfl, Below.refl _ _⟩
  | [x], hS, _, _ =>
    obtain ⟨b, off, c, rfl, _, _, hc⟩ := hS.cell hf.imm (by simp)
    refine (Proofs.Any.strings_Join_one lays156 extra156 b off c ⟨x.toArray⟩ ⟨sep.toArray⟩ w (hc 0 x rfl)).mono ?_
    rintro e w' ⟨rfl, rfl⟩
    exact ⟨by rw [Lib.join_one]; rfl, Below.refl _ _⟩
  | x :: y :: r, hS, hN, hlen =>
    obtain ⟨b, off, c, rfl, hcap, hb, hc⟩ := hS.cell hf.imm (by simp)
    have em : ∀ l : Txts, (l.map fun x => (⟨x.toArray⟩ : ByteArray)).map (·.data.toList) = l := by
      intro l
      rw [List.map_map]
      conv => rhs; rw [← List.map_id l]
      exact List.map_congr_left fun x _ => bb_toList x
    have := Proofs.Any.strings_Join_many lays156 extra156 b off c ((x :: y :: r).map fun x => ⟨x.toArray⟩) ⟨sep.toArray⟩ w (by
      intro j z hz
      rw [List.getElem?_map] at hz
      obtain ⟨q, hq, rfl⟩ := Option.map_eq_some_iff.1 hz
      exact hc j q hq) hb (by simp) (by simpa using hN) (by simpa using hcap) (by rw [em, bb_toList]; exact hlen)
    rw [em, bb_toList, List.length_map] at this
    exact this
theorem join_cons2 (x y : Tx) (r : Txts) (sep : Tx) : Lib.join (x :: y :: r) sep = x ++ sep ++ Lib.join (y :: r) sep := by
  rw [Lib.join_cons, Lib.join_cons]
  simp [Lib.joinTail]
theorem join_spl (c : UInt8) : ∀ s : Tx, Lib.join (spl c s) [c] = s
  | [] => by simp [spl, Lib.join_one]
  | b :: r => by
    have ih := join_spl c r
    simp only [spl]
    by_cases h : b = c
    · rw [if_pos h]
      cases hr : spl c r with
      | nil => exact absurd hr (spl_pos c r)
      | cons y ys =>
        rw [join_cons2, ← hr, ih, h]; rfl
    · rw [if_neg h]
      cases hr : spl c r with
      | nil => exact absurd hr (spl_pos c r)
      | cons y ys =>
        rw [hr] at ih
        cases ys with
        | nil => rw [Lib.join_one] at ih ⊢; rw [ih]
        | cons z zs =>
          simp only
          rw [join_cons2] at ih ⊢
          rw [← ih]; simp
theorem spl_app2 (c : UInt8) (t : Tx) (ht : hasB c t = false) : ∀ x : Tx, spl c (x ++ c :: t) = spl c x ++ [t]
  | [] => by
    have : spl c t = [t] := spl_none (ix_none.2 ht)
    simp [spl, this]
  | b :: r => by
    simp only [List.cons_append, spl, spl_app2 c t ht r]
    by_cases h : b = c
    · simp [h]
    · rw [if_neg h, if_neg h]
      cases hr : spl c r with
      | nil => exact absurd hr (spl_pos c r)
      | cons y ys => simp
/-- the last part, and what is ahead -/
theorem spl_last {c : UInt8} {s : Tx} {k : Nat} (h : lx c s = some k) : spl c s = spl c (s.take k) ++ [s.drop (k + 1)] ∧ Lib.join (spl c (s.take k)) [c] = s.take k := by
  obtain ⟨_, e, hn⟩ := lx_split h
  refine ⟨?_, join_spl c _⟩
  conv => lhs; rw [e]
  exact spl_app2 c _ hn _
theorem spl_no {c : UInt8} {s : Tx} (h : lx c s = none) : spl c s = [s] := spl_none (ix_none.2 (lx_none.1 h))
theorem spl_two {c : UInt8} {s : Tx} {k : Nat} (h1 : ix c s = some k) (h2 : lx c s = some k) : spl c s = [s.take k, s.drop (k + 1)] := by
  rw [(spl_last h2).1, spl_none (ix_none.2 (ix_split h1).2)]; rfl
/-- parted in two: once -/
theorem spl_len2 {c : UInt8} {s : Tx} (h : (spl c s).length = 2) : ∃ k, ix c s = some k ∧ lx c s = some k := by
  cases hk : ix c s with
  | none => rw [spl_none hk] at h; simp at h
  | some k =>
    rw [spl_some hk] at h
    have h1 : (spl c (s.drop (k + 1))).length = 1 := by simpa using h
    have hn : hasB c (s.drop (k + 1)) = false := by
      rw [← ix_none]
      cases hj : ix c (s.drop (k + 1)) with
      | none => rfl
      | some j =>
        rw [spl_some hj] at h1
        have h3 := List.length_pos_iff.2 (spl_pos c ((s.drop (k + 1)).drop (j + 1)))
        rw [List.length_cons] at h1
        omega
    refine ⟨k, rfl, ?_⟩
    obtain ⟨e, _⟩ := ix_split hk
    conv => lhs; rw [e]
    rw [lx_app hn]
    have := ix_lt hk
    simp; omega
end Go.V
/-
  Options of names: made, taken.
-/
namespace Go.V
open Go.RowKit
set_option linter.unusedVariables false
set_option linter.unusedSimpArgs false
set_option maxRecDepth 10000
attribute [local irreducible] Run Ops
inductive Opt where
  | strict
  | ins
  | reg (s : Tx)
  | tag (s : Tx)
def tOpt : Ty Opt := ⟨1, fun I cs x => match x with
    | .strict => cs = [.func (.func 45) #[] #[]]
    | .ins => cs = [.func (.func 46) #[] #[]]
    | .reg s => ∃ b, cs = [.func (.func 90) #[] #[.pointer (some ⟨b, 0, none⟩)]] ∧ I b = some (blk [str s] 9)
    | .tag s => ∃ b, cs = [.func (.func 91) #[] #[.pointer (some ⟨b, 0, none⟩)]] ∧ I b = some (blk [str s] 9),
  fun {I cs x} h => by
    cases x with
    | strict => have h : cs = _ := h; subst h; rfl
    | ins => have h : cs = _ := h; subst h; rfl
    | reg s => obtain ⟨b, h, _⟩ := h; subst h; rfl
    | tag s => obtain ⟨b, h, _⟩ := h; subst h; rfl,
  fun {I J cs x} h hle => by
    cases x with
    | strict => exact h
    | ins => exact h
    | reg s => obtain ⟨b, h, h2⟩ := h; exact ⟨b, h, hle _ _ h2⟩
    | tag s => obtain ⟨b, h, h2⟩ := h; exact ⟨b, h, hle _ _ h2⟩⟩
def NOpt.opts (o : NOpt) : List Opt := (if o.strict then [.strict] else []) ++ (if o.ins then [.ins] else []) ++ (if o.reg = [] then [] else [.reg o.reg]) ++ (if o.tag = [] then [] else [.tag o.tag])
def Opt.put : Opt → NOpt → NOpt
  | .strict, o => { o with strict := true }
  | .ins, o => { o with ins := true }
  | .reg s, o => { o with reg := s }
  | .tag s, o => { o with tag := s }
def optsOf (l : List Opt) : NOpt := l.foldl (fun o x => x.put o) ⟨false, false, hubT, latestT⟩
theorem optsOf_opts (o : NOpt) : optsOf o.opts = ⟨o.strict, o.ins, hub o.reg, tagOr o.tag⟩ := by
  obtain ⟨a, b, c, d⟩ := o
  unfold optsOf NOpt.opts hub tagOr
  cases a <;> cases b <;> by_cases h1 : c = [] <;> by_cases h2 : d = [] <;> simp [h1, h2, Opt.put]
theorem name_WithDefaultRegistry (I : Imm) (s : Tx) : Pure Proofs.Tryz.prog 47 [str s] I fun w J => tOpt.rel J [w] (.reg s) := by
  refine Spec.enter 4 [(0, _)] Proofs.Tryz.func47 rfl Proofs.Tryz.ntmps47 (by simp) rfl ?_
  intro C hCf hR hCI
  repeat (first | refine Run.seq ?_ | refine Run.region ?_)
  refine Ops.box rfl (by decide) rfl rfl (fun b => ?_)
  repeat (first | refine Run.seq ?_ | refine Run.region ?_ | refine Ops.nil ?_ | refine Ops.pure T rfl (by decide) rfl ?_)
  refine Run.freeze fun J l hJ => ?_
  refine Run.fin (Run.ret1 (by rw [hCf]; exact Proofs.Tryz.func47) Proofs.Tryz.results47 rfl (hR _ _ _ ?_))
  exact ⟨rfl, b, rfl, hJ⟩
theorem name_WithDefaultTag (I : Imm) (s : Tx) : Pure Proofs.Tryz.prog 48 [str s] I fun w J => tOpt.rel J [w] (.tag s) := by
  refine Spec.enter 4 [(0, _)] Proofs.Tryz.func48 rfl Proofs.Tryz.ntmps48 (by simp) rfl ?_
  intro C hCf hR hCI
  repeat (first | refine Run.seq ?_ | refine Run.region ?_)
  refine Ops.box rfl (by decide) rfl rfl (fun b => ?_)
  repeat (first | refine Run.seq ?_ | refine Run.region ?_ | refine Ops.nil ?_ | refine Ops.pure T rfl (by decide) rfl ?_)
  refine Run.freeze fun J l hJ => ?_
  refine Run.fin (Run.ret1 (by rw [hCf]; exact Proofs.Tryz.func48) Proofs.Tryz.results48 rfl (hR _ _ _ ?_))
  exact ⟨rfl, b, rfl, hJ⟩
theorem name_StrictValidation (I : Imm) (b : Nat) (o : NOpt) : Spec Proofs.Tryz.prog 45 [.pointer (some ⟨b, 0, none⟩)] I [(b, blk o.cs 92)] fun w J M => J = I ∧ M = [(b, blk (Opt.strict.put o).cs 92)] := by
  refine Spec.enter 5 [(0, _)] Proofs.Tryz.func45 rfl Proofs.Tryz.ntmps45 (by simp) rfl ?_
  intro C hCf hR hCI
  repeat (first | refine Run.region ?_ | refine Ops.nil ?_ | refine Ops.pure T rfl (by decide) rfl ?_ | refine Ops.store 0 rfl rfl rfl rfl rfl (T.sizeOk rfl) rfl (Nat.le_of_ble_eq_true rfl) rfl rfl ?_)
  refine Run.end0 (by rw [hCf]; exact Proofs.Tryz.func45) Proofs.Tryz.results45 (hR _ _ _ ⟨rfl, rfl⟩)
theorem name_Insecure (I : Imm) (b : Nat) (o : NOpt) : Spec Proofs.Tryz.prog 46 [.pointer (some ⟨b, 0, none⟩)] I [(b, blk o.cs 92)] fun w J M => J = I ∧ M = [(b, blk (Opt.ins.put o).cs 92)] := by
  refine Spec.enter 5 [(0, _)] Proofs.Tryz.func46 rfl Proofs.Tryz.ntmps46 (by simp) rfl ?_
  intro C hCf hR hCI
  repeat (first | refine Run.region ?_ | refine Ops.nil ?_ | refine Ops.pure T rfl (by decide) rfl ?_ | refine Ops.store 0 rfl rfl rfl rfl rfl (T.sizeOk rfl) rfl (Nat.le_of_ble_eq_true rfl) rfl rfl ?_)
  refine Run.end0 (by rw [hCf]; exact Proofs.Tryz.func46) Proofs.Tryz.results46 (hR _ _ _ ⟨rfl, rfl⟩)
theorem name_WithDefaultRegistry1 (I : Imm) (b b2 : Nat) (o : NOpt) (s : Tx) (h : I b2 = some (blk [str s] 9)) : Spec Proofs.Tryz.prog 90 [.pointer (some ⟨b, 0, none⟩), .pointer (some ⟨b2, 0, none⟩)] I [(b, blk o.cs 92)] fun w J M => J = I ∧ M = [(b, blk ((Opt.reg s).put o).cs 92)] := by
  refine Spec.enter 7 [(0, _), (1, _)] Proofs.Tryz.func90 rfl Proofs.Tryz.ntmps90 (by simp) rfl ?_
  intro C hCf hR hCI
  repeat (first | refine Run.region ?_ | refine Ops.pure T rfl (by decide) rfl ?_)
  refine Ops.loadI rfl (by decide) rfl ((At.block h)) (T.aggOk rfl) ?_
  repeat (first | refine Ops.nil ?_ | refine Ops.pure T rfl (by decide) rfl ?_ | refine Ops.store 0 rfl rfl rfl rfl rfl (T.sizeOk rfl) rfl (Nat.le_of_ble_eq_true rfl) rfl rfl ?_)
  refine Run.end0 (by rw [hCf]; exact Proofs.Tryz.func90) Proofs.Tryz.results90 (hR _ _ _ ⟨rfl, rfl⟩)
theorem name_WithDefaultTag1 (I : Imm) (b b2 : Nat) (o : NOpt) (s : Tx) (h : I b2 = some (blk [str s] 9)) : Spec Proofs.Tryz.prog 91 [.pointer (some ⟨b, 0, none⟩), .pointer (some ⟨b2, 0, none⟩)] I [(b, blk o.cs 92)] fun w J M => J = I ∧ M = [(b, blk ((Opt.tag s).put o).cs 92)] := by
  refine Spec.enter 7 [(0, _), (1, _)] Proofs.Tryz.func91 rfl Proofs.Tryz.ntmps91 (by simp) rfl ?_
  intro C hCf hR hCI
  repeat (first | refine Run.region ?_ | refine Ops.pure T rfl (by decide) rfl ?_)
  refine Ops.loadI rfl (by decide) rfl ((At.block h)) (T.aggOk rfl) ?_
  repeat (first | refine Ops.nil ?_ | refine Ops.pure T rfl (by decide) rfl ?_ | refine Ops.store 0 rfl rfl rfl rfl rfl (T.sizeOk rfl) rfl (Nat.le_of_ble_eq_true rfl) rfl rfl ?_)
  refine Run.end0 (by rw [hCf]; exact Proofs.Tryz.func91) Proofs.Tryz.results91 (hR _ _ _ ⟨rfl, rfl⟩)
set_option maxHeartbeats 2000000 in
theorem name_makeOptions (I : Imm) (xs : List Opt) (v : Value) (hS : Sl tOpt I v xs) (hlen : xs.length ≤ 2147483647) : Pure Proofs.Tryz.prog 66 [v] I fun w J => w = .agg (optsOf xs).cs.toArray := by
  refine Spec.enter 17 [(0, _)] Proofs.Tryz.func66 rfl Proofs.Tryz.ntmps66 (by simp) rfl ?_
  intro C hCf hR hCI
  repeat (first | refine Run.seq ?_ | refine Run.region ?_)
  refine Ops.alloc rfl (by decide) (T.zeroOk rfl) rfl (fun b => ?_)
  repeat (first | refine Run.seq ?_ | refine Run.region ?_ | refine Ops.nil ?_)
  refine Ops.buildL bd92 rfl (by decide) rfl rfl ?_
  refine Ops.alloc rfl (by decide) (T.zeroOk rfl) rfl (fun b2 => ?_)
  repeat (first | refine Run.seq ?_ | refine Run.region ?_ | refine Ops.nil ?_ | refine Ops.pure T rfl (by decide) rfl ?_ | refine Ops.store 0 rfl rfl rfl rfl rfl (T.sizeOk rfl) rfl (Nat.le_of_ble_eq_true rfl) rfl rfl ?_)
  refine Ops.lenSl (hS) rfl (by decide) rfl (T.undOk rfl) ?_
  repeat (first | refine Ops.nil ?_ | refine Run.block ?_ | refine Ops.pure T rfl (by decide) rfl ?_)
  refine Run.keep [2, 3, 7, 8, 9] [_, _, _, _, _] rfl ?_
  refine Run.rounds (fun m env L J => ∃ (i : Nat) (o : NOpt), m = xs.length - i ∧ i ≤ xs.length ∧ (xs.drop i).foldl (fun o x => x.put o) o = optsOf xs ∧
    env = [(2, .pointer (some ⟨b, 0, none⟩)), (3, .pointer (some ⟨b2, 0, none⟩)), (7, v), (8, .int .i64 xs.length), (9, .int .i64 i)] ∧
    L = [(b2, blk o.cs 92), (b, blk (NOpt.mk false false [] []).cs 92)] ∧ Le I J) xs.length ⟨0, ⟨false, false, hubT, latestT⟩, by omega, by omega, rfl, rfl, rfl, Le.refl _⟩ ?_
  rintro m env L J ⟨i, o, rfl, hi, hfold, rfl, rfl, hle⟩ ih
  repeat (first | refine Run.seq ?_ | refine Run.region ?_ | refine Ops.nil ?_ | refine Ops.lss rfl (by decide) rfl rfl ?_)
  refine Run.cond rfl rfl (fun h => ?_) (fun h => ?_)
  all_goals (try rw [h])
  all_goals (try simp only [decide_eq_true_eq, decide_eq_false_iff_not, Bool.not_eq_true', Bool.not_eq_false', Bool.and_eq_true, Bool.or_eq_true, Bool.and_eq_false_imp, Bool.or_eq_false_iff] at h)
  · have hi' : i < xs.length := by omega
    rw [List.drop_eq_getElem_cons hi', List.foldl_cons] at hfold
    repeat (first | refine Run.seq ?_ | refine Run.region ?_ | refine Run.skip ?_ | refine Run.block ?_)
    refine Ops.indexSl (hS.mono hle) rfl (by decide) rfl rfl (T.undOk rfl) (T.sizeOk rfl) (by omega) (by omega) ?_
    rintro b_ off_ x cs_ hx hr_ hA_
    rw [Int.toNat_natCast, List.getElem?_eq_getElem hi'] at hx
    cases hx
    cases hxe : xs[i] with
    | strict =>
      rw [hxe] at hr_ hfold
      have hr2 : cs_ = _ := hr_
      subst hr2
      refine Ops.loadI rfl (by decide) rfl hA_ (T.aggOk rfl) ?_
      repeat (first | refine Run.region ?_ | refine Ops.nil ?_ | refine Ops.pure T rfl (by decide) rfl ?_)
      refine Ops.callVX (vs := [_]) (ws := []) (M := [_]) (N := [_]) (name_StrictValidation J b2 o) (.refl _) rfl (by decide) Proofs.Tryz.call45 rfl rfl ?_
      rintro _ J2 M l2 ⟨rfl, rfl⟩
      repeat (first | refine Run.region ?_ | refine Ops.nil ?_ | refine Run.inBlock ?_ | refine Ops.add rfl (by decide) rfl rfl (wI (by first | omega | (simp only [List.length_cons, List.length_nil] ; omega) | (simp; omega)) (by first | omega | (simp only [List.length_cons, List.length_nil] ; omega) | (simp; omega))) ?_ | refine Ops.pure T rfl (by decide) rfl ?_)
      refine Run.keep [2, 3, 7, 8, 9] [_, _, _, _, _] rfl ?_
      refine ih (xs.length - (i + 1)) _ _ _ (by omega) ⟨i + 1, _, rfl, by omega, ?_, rfl, rfl, hle.trans l2⟩
      exact hfold
    | ins =>
      rw [hxe] at hr_ hfold
      have hr2 : cs_ = _ := hr_
      subst hr2
      refine Ops.loadI rfl (by decide) rfl hA_ (T.aggOk rfl) ?_
      repeat (first | refine Run.region ?_ | refine Ops.nil ?_ | refine Ops.pure T rfl (by decide) rfl ?_)
      refine Ops.callVX (vs := [_]) (ws := []) (M := [_]) (N := [_]) (name_Insecure J b2 o) (.refl _) rfl (by decide) Proofs.Tryz.call46 rfl rfl ?_
      rintro _ J2 M l2 ⟨rfl, rfl⟩
      repeat (first | refine Run.region ?_ | refine Ops.nil ?_ | refine Run.inBlock ?_ | refine Ops.add rfl (by decide) rfl rfl (wI (by first | omega | (simp only [List.length_cons, List.length_nil] ; omega) | (simp; omega)) (by first | omega | (simp only [List.length_cons, List.length_nil] ; omega) | (simp; omega))) ?_ | refine Ops.pure T rfl (by decide) rfl ?_)
      refine Run.keep [2, 3, 7, 8, 9] [_, _, _, _, _] rfl ?_
      refine ih (xs.length - (i + 1)) _ _ _ (by omega) ⟨i + 1, _, rfl, by omega, ?_, rfl, rfl, hle.trans l2⟩
      exact hfold
    | reg s =>
      rw [hxe] at hr_ hfold
      obtain ⟨b3, rfl, hb3⟩ := hr_
      refine Ops.loadI rfl (by decide) rfl hA_ (T.aggOk rfl) ?_
      repeat (first | refine Run.region ?_ | refine Ops.nil ?_ | refine Ops.pure T rfl (by decide) rfl ?_)
      refine Ops.callVX (vs := [_]) (ws := [_]) (M := [_]) (N := [_]) (name_WithDefaultRegistry1 J b2 b3 o s hb3) (.refl _) rfl (by decide) Proofs.Tryz.call90 rfl rfl ?_
      rintro _ J2 M l2 ⟨rfl, rfl⟩
      repeat (first | refine Run.region ?_ | refine Ops.nil ?_ | refine Run.inBlock ?_ | refine Ops.add rfl (by decide) rfl rfl (wI (by first | omega | (simp only [List.length_cons, List.length_nil] ; omega) | (simp; omega)) (by first | omega | (simp only [List.length_cons, List.length_nil] ; omega) | (simp; omega))) ?_ | refine Ops.pure T rfl (by decide) rfl ?_)
      refine Run.keep [2, 3, 7, 8, 9] [_, _, _, _, _] rfl ?_
      refine ih (xs.length - (i + 1)) _ _ _ (by omega) ⟨i + 1, _, rfl, by omega, ?_, rfl, rfl, hle.trans l2⟩
      exact hfold
    | tag s =>
      rw [hxe] at hr_ hfold
      obtain ⟨b3, rfl, hb3⟩ := hr_
      refine Ops.loadI rfl (by decide) rfl hA_ (T.aggOk rfl) ?_
      repeat (first | refine Run.region ?_ | refine Ops.nil ?_ | refine Ops.pure T rfl (by decide) rfl ?_)
      refine Ops.callVX (vs := [_]) (ws := [_]) (M := [_]) (N := [_]) (name_WithDefaultTag1 J b2 b3 o s hb3) (.refl _) rfl (by decide) Proofs.Tryz.call91 rfl rfl ?_
      rintro _ J2 M l2 ⟨rfl, rfl⟩
      repeat (first | refine Run.region ?_ | refine Ops.nil ?_ | refine Run.inBlock ?_ | refine Ops.add rfl (by decide) rfl rfl (wI (by first | omega | (simp only [List.length_cons, List.length_nil] ; omega) | (simp; omega)) (by first | omega | (simp only [List.length_cons, List.length_nil] ; omega) | (simp; omega))) ?_ | refine Ops.pure T rfl (by decide) rfl ?_)
      refine Run.keep [2, 3, 7, 8, 9] [_, _, _, _, _] rfl ?_
      refine ih (xs.length - (i + 1)) _ _ _ (by omega) ⟨i + 1, _, rfl, by omega, ?_, rfl, rfl, hle.trans l2⟩
      exact hfold
  · have : i = xs.length := by omega
    subst this
    rw [List.drop_length] at hfold
    repeat (first | refine Run.seq ?_ | refine Run.region ?_ | refine Ops.nil ?_ | refine Run.exit rfl ?_ | refine Ops.loadN 0 rfl (by decide) rfl rfl (T.aggOk rfl) (T.sizeOk rfl) rfl rfl ?_ | refine Ops.store 1 rfl rfl rfl rfl rfl (T.sizeOk rfl) rfl (Nat.le_of_ble_eq_true rfl) rfl rfl ?_)
    refine Run.retC T 1 (by rw [hCf]; exact Proofs.Tryz.func66) Proofs.Tryz.results66 rfl rfl rfl rfl rfl rfl (hR _ _ _ ?_)
    exact ⟨rfl, by rw [← hfold]; rfl⟩
theorem tOpt.one {I : Imm} {cs : List Value} {x : Opt} (h : tOpt.rel I cs x) : V.one cs = true := by
  cases x with
  | strict => have h : cs = _ := h; subst h; rfl
  | ins => have h : cs = _ := h; subst h; rfl
  | reg s => obtain ⟨b, h, _⟩ := h; subst h; rfl
  | tag s => obtain ⟨b, h, _⟩ := h; subst h; rfl
set_option maxHeartbeats 2000000 in
theorem NameOpts_options (I : Imm) (o : NOpt) : Pure Proofs.Tryz.prog 22 [.agg o.cs.toArray] I fun w J => Sl tOpt J w o.opts := by
  refine Spec.enter 32 [(0, _)] Proofs.Tryz.func22 rfl Proofs.Tryz.ntmps22 (by simp) rfl ?_
  intro C hCf hR hCI
  repeat (first | refine Run.seq ?_ | refine Run.region ?_)
  refine Ops.box rfl (by decide) rfl rfl (fun b => ?_)
  repeat (first | refine Run.seq ?_ | refine Run.region ?_ | refine Ops.nil ?_ | refine Ops.pure T rfl (by decide) rfl ?_ | refine Ops.load 0 rfl (by decide) rfl rfl (T.aggOk rfl) rfl ?_)
  have hG : Gr tOpt I 87 (.slice none 0 0) [] [] := Gr.nil _ _ _
  have hl : ([] : List Opt).length ≤ 0 := Nat.le_refl _
  refine Run.merge (fun env' L' I' => ∃ v M, env' = [(1, .pointer (some ⟨b, 0, none⟩)), (2, v)] ∧ L' = [(b, blk o.cs 30)] ++ M ∧ Gr tOpt I' 87 v (if o.strict then [.strict] else []) M ∧ (if o.strict then [Opt.strict] else []).length ≤ 1) rfl ?_ ?_ ?_
  · intro h k' fin
    repeat (first | refine Run.region ?_ | refine Ops.pure T rfl (by decide) rfl ?_)
    refine Ops.lit T rfl rfl rfl (by decide) rfl (by decide) (by decide) rfl rfl rfl rfl rfl (fun b2 => ?_)
    refine Ops.appOne (y := Opt.strict) (N := [_]) el48 hG rfl rfl (by decide) rfl rfl rfl rfl (by decide) (by decide) ?_
    rintro v2 M2 hG2
    repeat (first | refine Ops.nil ?_ | refine Ops.pure T rfl (by decide) rfl ?_)
    refine Run.keep [1, 2] [_, _] rfl ?_
    exact fin _ _ _ ⟨v2, M2, rfl, rfl, by rw [h]; exact hG2, by rw [h]; decide⟩
  · intro h k' fin
    repeat (first | refine Run.skip ?_)
    refine Run.keep [1, 2] [_, _] rfl ?_
    exact fin _ _ _ ⟨_, _, rfl, rfl, by rw [h]; exact hG, by rw [h]; decide⟩
  clear hG hl
  generalize hx1 : (if o.strict then [Opt.strict] else []) = x1
  rintro env L J1 ⟨v, M, rfl, rfl, hG, hl⟩
  repeat (first | refine Run.seq ?_ | refine Run.region ?_ | refine Ops.nil ?_ | refine Ops.pure T rfl (by decide) rfl ?_ | refine Ops.load 0 rfl (by decide) rfl rfl (T.aggOk rfl) rfl ?_)
  refine Run.merge (fun env' L' I' => ∃ v M, env' = [(1, .pointer (some ⟨b, 0, none⟩)), (2, v)] ∧ L' = [(b, blk o.cs 30)] ++ M ∧ Gr tOpt I' 87 v (x1 ++ (if o.ins then [.ins] else [])) M ∧ (x1 ++ (if o.ins then [Opt.ins] else [])).length ≤ 2) rfl ?_ ?_ ?_
  · intro h k' fin
    repeat (first | refine Run.region ?_ | refine Ops.pure T rfl (by decide) rfl ?_)
    refine Ops.lit T rfl rfl rfl (by decide) rfl (by decide) (by decide) rfl rfl rfl rfl rfl (fun b2 => ?_)
    refine Ops.appOne (y := Opt.ins) (N := [_]) el48 hG rfl rfl (by decide) rfl rfl rfl rfl (by omega) (by omega) ?_
    rintro v2 M2 hG2
    repeat (first | refine Ops.nil ?_ | refine Ops.pure T rfl (by decide) rfl ?_)
    refine Run.keep [1, 2] [_, _] rfl ?_
    exact fin _ _ _ ⟨v2, M2, rfl, rfl, by rw [h]; exact hG2, by rw [h]; simp; omega⟩
  · intro h k' fin
    repeat (first | refine Run.skip ?_)
    refine Run.keep [1, 2] [_, _] rfl ?_
    exact fin _ _ _ ⟨_, _, rfl, rfl, by rw [h]; simpa using hG, by rw [h]; simp; omega⟩
  clear hG hl
  generalize hx2 : x1 ++ (if o.ins then [Opt.ins] else []) = x2
  rintro env L J2 ⟨v, M, rfl, rfl, hG, hl⟩
  repeat (first | refine Run.seq ?_ | refine Run.region ?_ | refine Ops.nil ?_ | refine Ops.neqStr rfl (by decide) rfl rfl ?_ | refine Ops.pure T rfl (by decide) rfl ?_ | refine Ops.load 0 rfl (by decide) rfl rfl (T.aggOk rfl) rfl ?_)
  refine Run.merge (fun env' L' I' => ∃ v M, env' = [(1, .pointer (some ⟨b, 0, none⟩)), (2, v)] ∧ L' = [(b, blk o.cs 30)] ++ M ∧ Gr tOpt I' 87 v (x2 ++ (if o.reg = [] then [] else [.reg o.reg])) M ∧ (x2 ++ (if o.reg = [] then [] else [Opt.reg o.reg])).length ≤ 3) rfl ?_ ?_ ?_
  · intro h k' fin
    have h' : ¬ o.reg = [] := by simpa using h
    repeat (first | refine Run.region ?_ | refine Ops.pure T rfl (by decide) rfl ?_ | refine Ops.load 0 rfl (by decide) rfl rfl (T.aggOk rfl) rfl ?_)
    refine Ops.call ((name_WithDefaultRegistry J2 o.reg)) rfl (by decide) Proofs.Tryz.call47 rfl ?_
    rintro w J3 l3 hw
    obtain ⟨b3, hw1, hw2⟩ := hw
    cases hw1
    refine Ops.lit T rfl rfl rfl (by decide) rfl (by decide) (by decide) rfl rfl rfl rfl rfl (fun b2 => ?_)
    refine Ops.appOne (y := Opt.reg o.reg) (N := [_]) el48 (hG.mono l3) ⟨b3, rfl, hw2⟩ rfl (by decide) rfl rfl rfl rfl (by omega) (by omega) ?_
    rintro v2 M2 hG2
    repeat (first | refine Ops.nil ?_ | refine Ops.pure T rfl (by decide) rfl ?_)
    refine Run.keep [1, 2] [_, _] rfl ?_
    exact fin _ _ _ ⟨v2, M2, rfl, rfl, by rw [if_neg h']; exact hG2, by rw [if_neg h']; simp; omega⟩
  · intro h k' fin
    have h' : o.reg = [] := by simpa using h
    repeat (first | refine Run.skip ?_)
    refine Run.keep [1, 2] [_, _] rfl ?_
    exact fin _ _ _ ⟨_, _, rfl, rfl, by rw [if_pos h']; simpa using hG, by rw [if_pos h']; simp; omega⟩
  clear hG hl
  generalize hx3 : x2 ++ (if o.reg = [] then [] else [Opt.reg o.reg]) = x3
  rintro env L J2 ⟨v, M, rfl, rfl, hG, hl⟩
  repeat (first | refine Run.seq ?_ | refine Run.region ?_ | refine Ops.nil ?_ | refine Ops.neqStr rfl (by decide) rfl rfl ?_ | refine Ops.pure T rfl (by decide) rfl ?_ | refine Ops.load 0 rfl (by decide) rfl rfl (T.aggOk rfl) rfl ?_)
  refine Run.merge (fun env' L' I' => ∃ v M, env' = [(1, .pointer (some ⟨b, 0, none⟩)), (2, v)] ∧ L' = [(b, blk o.cs 30)] ++ M ∧ Gr tOpt I' 87 v (x3 ++ (if o.tag = [] then [] else [.tag o.tag])) M ∧ (x3 ++ (if o.tag = [] then [] else [Opt.tag o.tag])).length ≤ 4) rfl ?_ ?_ ?_
  · intro h k' fin
    have h' : ¬ o.tag = [] := by simpa using h
    repeat (first | refine Run.region ?_ | refine Ops.pure T rfl (by decide) rfl ?_ | refine Ops.load 0 rfl (by decide) rfl rfl (T.aggOk rfl) rfl ?_)
    refine Ops.call ((name_WithDefaultTag J2 o.tag)) rfl (by decide) Proofs.Tryz.call48 rfl ?_
    rintro w J3 l3 hw
    obtain ⟨b3, hw1, hw2⟩ := hw
    cases hw1
    refine Ops.lit T rfl rfl rfl (by decide) rfl (by decide) (by decide) rfl rfl rfl rfl rfl (fun b2 => ?_)
    refine Ops.appOne (y := Opt.tag o.tag) (N := [_]) el48 (hG.mono l3) ⟨b3, rfl, hw2⟩ rfl (by decide) rfl rfl rfl rfl (by omega) (by omega) ?_
    rintro v2 M2 hG2
    repeat (first | refine Ops.nil ?_ | refine Ops.pure T rfl (by decide) rfl ?_)
    refine Run.keep [1, 2] [_, _] rfl ?_
    exact fin _ _ _ ⟨v2, M2, rfl, rfl, by rw [if_neg h']; exact hG2, by rw [if_neg h']; simp; omega⟩
  · intro h k' fin
    have h' : o.tag = [] := by simpa using h
    repeat (first | refine Run.skip ?_)
    refine Run.keep [1, 2] [_, _] rfl ?_
    exact fin _ _ _ ⟨_, _, rfl, rfl, by rw [if_pos h']; simpa using hG, by rw [if_pos h']; simp; omega⟩
  rintro env L J3 ⟨v, M, rfl, rfl, hG, hl⟩
  repeat (first | refine Run.seq ?_ | refine Run.region ?_ | refine Ops.nil ?_ | refine Ops.pure T rfl (by decide) rfl ?_)
  refine Run.keepG (N := [_]) hG rfl fun J4 l4 hS => ?_
  refine Run.fin (Run.ret1 (by rw [hCf]; exact Proofs.Tryz.func22) Proofs.Tryz.results22 rfl (hR _ _ _ ?_))
  exact ⟨rfl, by rw [NOpt.opts, hx1, hx2, hx3]; exact hS⟩
end Go.V
