import Derived.Test.YtnoklmcaeijfaaaGreatBM9
/-
  Private addresses, as the document's function reads them.
-/
namespace Go.V
open Go.RowKit
set_option linter.unusedVariables false
set_option linter.unusedSimpArgs false
set_option maxRecDepth 10000
attribute [local irreducible] Run Ops
def i64n (n : Nat) : Value := .int .i64 (n : Int)
abbrev Q4 := Nat × Nat × Nat × Nat
def Q4.l (q : Q4) : List Nat := [q.1, q.2.1, q.2.2.1, q.2.2.2]
def qInv (s : Tx) (i : Nat) (out : List Nat) (n d : Nat) : Prop := (i ≤ s.length ∧ quadGo (s.drop i) out n d = quadF s) ∨ (i = s.length + 1 ∧ quadF s = if out.length = 4 then some out else none)
set_option maxHeartbeats 8000000 in
theorem spec_quad (I : Imm) (s : Tx) (hs : s.length ≤ 4620000000000000000) : Pure Proofs.Tryz.prog 105 [str s] I fun w J => ∃ q : Q4, w = .tuple #[.agg (q.l.map i64n).toArray, .bool (quadF s).isSome] ∧ ∀ l', quadF s = some l' → l' = q.l := by
  refine Spec.enter 75 [(0, _)] Proofs.Tryz.func105 rfl Proofs.Tryz.ntmps105 (by simp) rfl ?_
  intro C hCf hR hCI
  repeat (first | refine Run.seq ?_ | refine Run.region ?_)
  refine Ops.alloc rfl (by decide) (T.zeroOk rfl) rfl (fun b => ?_)
  repeat (first | refine Run.seq ?_ | refine Run.region ?_ | refine Ops.nil ?_ | refine Run.block ?_ | refine Ops.pure T rfl (by decide) rfl ?_)
  refine Run.keep [0, 2, 4, 5, 6, 7] [_, _, _, _, _, _] rfl ?_
  refine Run.rounds (fun m env L K => ∃ (i k n d : Nat) (q : Q4), m = s.length + 1 - i ∧ k ≤ 4 ∧ n < 10 ^ d ∧ d ≤ 3 ∧ i ≤ s.length + 1 ∧ qInv s i (q.l.take k) n d ∧
    env = [(0, str s), (2, .pointer (some ⟨b, 0, none⟩)), (4, .int .i64 k), (5, .int .i64 n), (6, .int .i64 d), (7, .int .i64 i)] ∧
    L = [(b, blk (q.l.map i64n) 118)] ∧ K = I) (s.length + 1) ⟨0, 0, 0, 0, (0, 0, 0, 0), rfl, by omega, by decide, by decide, by omega, .inl ⟨by omega, rfl⟩, rfl, rfl, rfl⟩ ?_
  rintro m env L J ⟨i, k, n, d, ⟨a0, a1, a2, a3⟩, rfl, hk, hn10, hd3, hi1, hinv, rfl, rfl, rfl⟩ ih
  have hn3 : n < 1000 := Nat.lt_of_lt_of_le hn10 (Nat.pow_le_pow_right (by decide) hd3 : 10 ^ d ≤ 10 ^ 3)
  repeat (first | refine Run.seq ?_ | refine Run.region ?_ | refine Ops.nil ?_ | refine Ops.leq rfl (by decide) rfl rfl ?_ | refine Ops.pure T rfl (by decide) rfl ?_ | refine Ops.lenS T rfl (by decide) rfl rfl ?_)
  refine Run.cond rfl rfl (fun h => ?_) (fun h => ?_)
  all_goals (try rw [h])
  all_goals (try simp only [decide_eq_true_eq, decide_eq_false_iff_not, Bool.not_eq_true', Bool.not_eq_false', Bool.and_eq_true, Bool.or_eq_true, Bool.and_eq_false_imp, Bool.or_eq_false_iff] at h)
  · have hgo : quadGo (s.drop i) ((Q4.l (a0, a1, a2, a3)).take k) n d = quadF s := by
      rcases hinv with h | h
      · exact h.2
      · omega
    repeat (first | refine Run.seq ?_ | refine Run.region ?_ | refine Run.skip ?_ | refine Run.block ?_ | refine Ops.eql rfl (by decide) rfl rfl ?_ | refine Ops.pure T rfl (by decide) rfl ?_ | refine Ops.lenS T rfl (by decide) rfl rfl ?_)
    cases he : decide ((i : Int) = (s.length : Int)) with
    | true =>
      have hie : i = s.length := by have := of_decide_eq_true he; omega
      rw [hie, List.drop_length] at hgo
      simp only [quadGo] at hgo
      repeat (first | refine Run.seq ?_ | refine Run.region ?_ | refine Ops.nil ?_ | refine Run.cond_t rfl ?_ | refine Ops.not rfl (by decide) ?_ | refine Ops.eql rfl (by decide) rfl rfl ?_ | refine Ops.pure T rfl (by decide) rfl ?_)
      have hol : ((Q4.l (a0, a1, a2, a3)).take k).length = k := by simp [Q4.l]; omega
      rw [hol] at hgo
      have hbad : (d = 0 ∨ 3 < k ∨ 255 < n) → quadF s = none := (fun hh => by rw [← hgo, if_pos hh])
      have hok : ¬ (d = 0 ∨ 3 < k ∨ 255 < n) → qInv s (i + 1) ((Q4.l (a0, a1, a2, a3)).take k ++ [n]) 0 0 := (fun hh => .inr ⟨by omega, by rw [← hgo, if_neg hh]; simp only [List.length_append, hol, List.length_cons, List.length_nil]; by_cases h3 : k = 3 <;> simp [h3]⟩)
      cases d0 : decide ((d : Int) = 0) with
      | true =>
        have hn : quadF s = none := hbad (.inl (by have := of_decide_eq_true d0; omega))
        repeat (first | refine Run.seq ?_ | refine Run.region ?_ | refine Ops.nil ?_ | refine Run.cond_t rfl ?_ | refine Ops.not rfl (by decide) ?_ | refine Ops.pure T rfl (by decide) rfl ?_ | refine Ops.loadN 0 rfl (by decide) rfl rfl (T.aggOk rfl) (T.sizeOk rfl) rfl rfl ?_ | refine Ops.store 0 rfl rfl rfl rfl rfl (T.sizeOk rfl) rfl (Nat.le_of_ble_eq_true rfl) rfl rfl ?_)
        refine Run.retCT T 0 (by rw [hCf]; exact Proofs.Tryz.func105) Proofs.Tryz.results105 rfl rfl rfl rfl rfl rfl rfl (hR _ _ _ ?_)
        refine ⟨rfl, (a0, a1, a2, a3), ?_, ?_⟩
        · rw [hn]; rfl
        · rw [hn]; intro _ h; cases h
      | false =>
      have d0' := of_decide_eq_false d0
      repeat (first | refine Ops.gtr rfl (by decide) rfl rfl ?_ | refine Ops.pure T rfl (by decide) rfl ?_)
      cases d1 : decide ((3 : Int) < (k : Int)) with
      | true =>
        have hn : quadF s = none := hbad (.inr (.inl (by have := of_decide_eq_true d1; omega)))
        repeat (first | refine Run.seq ?_ | refine Run.region ?_ | refine Ops.nil ?_ | refine Run.cond_t rfl ?_ | refine Ops.not rfl (by decide) ?_ | refine Ops.pure T rfl (by decide) rfl ?_ | refine Ops.loadN 0 rfl (by decide) rfl rfl (T.aggOk rfl) (T.sizeOk rfl) rfl rfl ?_ | refine Ops.store 0 rfl rfl rfl rfl rfl (T.sizeOk rfl) rfl (Nat.le_of_ble_eq_true rfl) rfl rfl ?_)
        refine Run.retCT T 0 (by rw [hCf]; exact Proofs.Tryz.func105) Proofs.Tryz.results105 rfl rfl rfl rfl rfl rfl rfl (hR _ _ _ ?_)
        refine ⟨rfl, (a0, a1, a2, a3), ?_, ?_⟩
        · rw [hn]; rfl
        · rw [hn]; intro _ h; cases h
      | false =>
      have d1' := of_decide_eq_false d1
      repeat (first | refine Ops.nil ?_ | refine Ops.gtr rfl (by decide) rfl rfl ?_ | refine Ops.pure T rfl (by decide) rfl ?_)
      cases d2 : decide ((255 : Int) < (n : Int)) with
      | true =>
        have hn : quadF s = none := hbad (.inr (.inr (by have := of_decide_eq_true d2; omega)))
        repeat (first | refine Run.seq ?_ | refine Run.region ?_ | refine Ops.nil ?_ | refine Run.cond_t rfl ?_ | refine Ops.pure T rfl (by decide) rfl ?_ | refine Ops.loadN 0 rfl (by decide) rfl rfl (T.aggOk rfl) (T.sizeOk rfl) rfl rfl ?_ | refine Ops.store 0 rfl rfl rfl rfl rfl (T.sizeOk rfl) rfl (Nat.le_of_ble_eq_true rfl) rfl rfl ?_)
        refine Run.retCT T 0 (by rw [hCf]; exact Proofs.Tryz.func105) Proofs.Tryz.results105 rfl rfl rfl rfl rfl rfl rfl (hR _ _ _ ?_)
        refine ⟨rfl, (a0, a1, a2, a3), ?_, ?_⟩
        · rw [hn]; rfl
        · rw [hn]; intro _ h; cases h
      | false =>
      have d2' := of_decide_eq_false d2
      have hnx : qInv s (i + 1) ((Q4.l (a0, a1, a2, a3)).take k ++ [n]) 0 0 := hok (by rintro (h | h | h) <;> omega)
      repeat (first | refine Run.seq ?_ | refine Run.region ?_ | refine Run.skip ?_ | refine Run.cond_f rfl ?_ | refine Ops.pure T rfl (by decide) rfl ?_)
      have hk4 : k = 0 ∨ k = 1 ∨ k = 2 ∨ k = 3 := by omega
      rcases hk4 with rfl | rfl | rfl | rfl
      · refine Ops.indexArr T rfl (by decide) rfl rfl rfl rfl (by decide) (by decide) ?_
        repeat (first | refine Run.seq ?_ | refine Run.region ?_ | refine Ops.nil ?_ | refine Run.exit rfl ?_ | refine Ops.add rfl (by decide) rfl rfl (wI (by first | omega | (simp only [List.length_cons, List.length_nil] ; omega) | (simp; omega)) (by first | omega | (simp only [List.length_cons, List.length_nil] ; omega) | (simp; omega))) ?_ | refine Ops.pure T rfl (by decide) rfl ?_ | refine Ops.store 0 rfl rfl rfl rfl rfl (T.sizeOk rfl) rfl (Nat.le_of_ble_eq_true rfl) rfl rfl ?_)
        refine Run.keep [0, 2, 4, 5, 6, 7] [_, _, _, _, _, _] rfl ?_
        refine ih (s.length + 1 - (i + 1)) _ _ _ (by omega) ⟨i + 1, 0 + 1, 0, 0, (n, a1, a2, a3), rfl, by omega, by decide, by decide, by omega, ?_, rfl, rfl, rfl⟩
        rw [show (Q4.l (n, a1, a2, a3)).take (0 + 1) = (Q4.l (a0, a1, a2, a3)).take 0 ++ [n] from rfl]
        exact hnx
      · refine Ops.indexArr T rfl (by decide) rfl rfl rfl rfl (by decide) (by decide) ?_
        repeat (first | refine Run.seq ?_ | refine Run.region ?_ | refine Ops.nil ?_ | refine Run.exit rfl ?_ | refine Ops.add rfl (by decide) rfl rfl (wI (by first | omega | (simp only [List.length_cons, List.length_nil] ; omega) | (simp; omega)) (by first | omega | (simp only [List.length_cons, List.length_nil] ; omega) | (simp; omega))) ?_ | refine Ops.pure T rfl (by decide) rfl ?_ | refine Ops.store 0 rfl rfl rfl rfl rfl (T.sizeOk rfl) rfl (Nat.le_of_ble_eq_true rfl) rfl rfl ?_)
        refine Run.keep [0, 2, 4, 5, 6, 7] [_, _, _, _, _, _] rfl ?_
        refine ih (s.length + 1 - (i + 1)) _ _ _ (by omega) ⟨i + 1, 1 + 1, 0, 0, (a0, n, a2, a3), rfl, by omega, by decide, by decide, by omega, ?_, rfl, rfl, rfl⟩
        rw [show (Q4.l (a0, n, a2, a3)).take (1 + 1) = (Q4.l (a0, a1, a2, a3)).take 1 ++ [n] from rfl]
        exact hnx
      · refine Ops.indexArr T rfl (by decide) rfl rfl rfl rfl (by decide) (by decide) ?_
        repeat (first | refine Run.seq ?_ | refine Run.region ?_ | refine Ops.nil ?_ | refine Run.exit rfl ?_ | refine Ops.add rfl (by decide) rfl rfl (wI (by first | omega | (simp only [List.length_cons, List.length_nil] ; omega) | (simp; omega)) (by first | omega | (simp only [List.length_cons, List.length_nil] ; omega) | (simp; omega))) ?_ | refine Ops.pure T rfl (by decide) rfl ?_ | refine Ops.store 0 rfl rfl rfl rfl rfl (T.sizeOk rfl) rfl (Nat.le_of_ble_eq_true rfl) rfl rfl ?_)
        refine Run.keep [0, 2, 4, 5, 6, 7] [_, _, _, _, _, _] rfl ?_
        refine ih (s.length + 1 - (i + 1)) _ _ _ (by omega) ⟨i + 1, 2 + 1, 0, 0, (a0, a1, n, a3), rfl, by omega, by decide, by decide, by omega, ?_, rfl, rfl, rfl⟩
        rw [show (Q4.l (a0, a1, n, a3)).take (2 + 1) = (Q4.l (a0, a1, a2, a3)).take 2 ++ [n] from rfl]
        exact hnx
      · refine Ops.indexArr T rfl (by decide) rfl rfl rfl rfl (by decide) (by decide) ?_
        repeat (first | refine Run.seq ?_ | refine Run.region ?_ | refine Ops.nil ?_ | refine Run.exit rfl ?_ | refine Ops.add rfl (by decide) rfl rfl (wI (by first | omega | (simp only [List.length_cons, List.length_nil] ; omega) | (simp; omega)) (by first | omega | (simp only [List.length_cons, List.length_nil] ; omega) | (simp; omega))) ?_ | refine Ops.pure T rfl (by decide) rfl ?_ | refine Ops.store 0 rfl rfl rfl rfl rfl (T.sizeOk rfl) rfl (Nat.le_of_ble_eq_true rfl) rfl rfl ?_)
        refine Run.keep [0, 2, 4, 5, 6, 7] [_, _, _, _, _, _] rfl ?_
        refine ih (s.length + 1 - (i + 1)) _ _ _ (by omega) ⟨i + 1, 3 + 1, 0, 0, (a0, a1, a2, n), rfl, by omega, by decide, by decide, by omega, ?_, rfl, rfl, rfl⟩
        rw [show (Q4.l (a0, a1, a2, n)).take (3 + 1) = (Q4.l (a0, a1, a2, a3)).take 3 ++ [n] from rfl]
        exact hnx
    | false =>
      have hi : i < s.length := by have := of_decide_eq_false he; omega
      rw [drop_cons hi] at hgo
      repeat (first | refine Ops.nil ?_ | refine Ops.eql rfl (by decide) rfl rfl ?_ | refine Ops.pure T rfl (by decide) rfl ?_ | refine Ops.indexStr rfl (by decide) (T.undOk rfl) rfl rfl (by first | omega | (simp only [List.length_cons, List.length_nil] ; omega) | (simp; omega)) (by first | omega | (simp only [List.length_cons, List.length_nil] ; omega) | (simp; omega)) ?_)
      have ei : ((i : Int)).toNat = i := by omega
      rw [ei]
      generalize hc : s.getD i 0 = c at *
      simp only [quadGo] at hgo
      cases h46 : decide ((c.toNat : Int) = 46) with
      | true =>
        have hc46 : c = 46 := u8_inj.1 (of_decide_eq_true h46)
        rw [if_pos hc46] at hgo
        repeat (first | refine Run.seq ?_ | refine Run.region ?_ | refine Run.cond_t rfl ?_ | refine Ops.eql rfl (by decide) rfl rfl ?_ | refine Ops.pure T rfl (by decide) rfl ?_)
        have hol : ((Q4.l (a0, a1, a2, a3)).take k).length = k := by simp [Q4.l]; omega
        rw [hol] at hgo
        have hbad : (d = 0 ∨ 3 < k ∨ 255 < n) → quadF s = none := (fun hh => by rw [← hgo, if_pos hh])
        have hok : ¬ (d = 0 ∨ 3 < k ∨ 255 < n) → qInv s (i + 1) ((Q4.l (a0, a1, a2, a3)).take k ++ [n]) 0 0 := (fun hh => .inl ⟨by omega, by rw [← hgo, if_neg hh]⟩)
        cases d0 : decide ((d : Int) = 0) with
        | true =>
          have hn : quadF s = none := hbad (.inl (by have := of_decide_eq_true d0; omega))
          repeat (first | refine Run.seq ?_ | refine Run.region ?_ | refine Ops.nil ?_ | refine Run.cond_t rfl ?_ | refine Ops.not rfl (by decide) ?_ | refine Ops.pure T rfl (by decide) rfl ?_ | refine Ops.loadN 0 rfl (by decide) rfl rfl (T.aggOk rfl) (T.sizeOk rfl) rfl rfl ?_ | refine Ops.store 0 rfl rfl rfl rfl rfl (T.sizeOk rfl) rfl (Nat.le_of_ble_eq_true rfl) rfl rfl ?_)
          refine Run.retCT T 0 (by rw [hCf]; exact Proofs.Tryz.func105) Proofs.Tryz.results105 rfl rfl rfl rfl rfl rfl rfl (hR _ _ _ ?_)
          refine ⟨rfl, (a0, a1, a2, a3), ?_, ?_⟩
          · rw [hn]; rfl
          · rw [hn]; intro _ h; cases h
        | false =>
        have d0' := of_decide_eq_false d0
        repeat (first | refine Ops.gtr rfl (by decide) rfl rfl ?_ | refine Ops.pure T rfl (by decide) rfl ?_)
        cases d1 : decide ((3 : Int) < (k : Int)) with
        | true =>
          have hn : quadF s = none := hbad (.inr (.inl (by have := of_decide_eq_true d1; omega)))
          repeat (first | refine Run.seq ?_ | refine Run.region ?_ | refine Ops.nil ?_ | refine Run.cond_t rfl ?_ | refine Ops.not rfl (by decide) ?_ | refine Ops.pure T rfl (by decide) rfl ?_ | refine Ops.loadN 0 rfl (by decide) rfl rfl (T.aggOk rfl) (T.sizeOk rfl) rfl rfl ?_ | refine Ops.store 0 rfl rfl rfl rfl rfl (T.sizeOk rfl) rfl (Nat.le_of_ble_eq_true rfl) rfl rfl ?_)
          refine Run.retCT T 0 (by rw [hCf]; exact Proofs.Tryz.func105) Proofs.Tryz.results105 rfl rfl rfl rfl rfl rfl rfl (hR _ _ _ ?_)
          refine ⟨rfl, (a0, a1, a2, a3), ?_, ?_⟩
          · rw [hn]; rfl
          · rw [hn]; intro _ h; cases h
        | false =>
        have d1' := of_decide_eq_false d1
        repeat (first | refine Ops.nil ?_ | refine Ops.gtr rfl (by decide) rfl rfl ?_ | refine Ops.pure T rfl (by decide) rfl ?_)
        cases d2 : decide ((255 : Int) < (n : Int)) with
        | true =>
          have hn : quadF s = none := hbad (.inr (.inr (by have := of_decide_eq_true d2; omega)))
          repeat (first | refine Run.seq ?_ | refine Run.region ?_ | refine Ops.nil ?_ | refine Run.cond_t rfl ?_ | refine Ops.pure T rfl (by decide) rfl ?_ | refine Ops.loadN 0 rfl (by decide) rfl rfl (T.aggOk rfl) (T.sizeOk rfl) rfl rfl ?_ | refine Ops.store 0 rfl rfl rfl rfl rfl (T.sizeOk rfl) rfl (Nat.le_of_ble_eq_true rfl) rfl rfl ?_)
          refine Run.retCT T 0 (by rw [hCf]; exact Proofs.Tryz.func105) Proofs.Tryz.results105 rfl rfl rfl rfl rfl rfl rfl (hR _ _ _ ?_)
          refine ⟨rfl, (a0, a1, a2, a3), ?_, ?_⟩
          · rw [hn]; rfl
          · rw [hn]; intro _ h; cases h
        | false =>
        have d2' := of_decide_eq_false d2
        have hnx : qInv s (i + 1) ((Q4.l (a0, a1, a2, a3)).take k ++ [n]) 0 0 := hok (by rintro (h | h | h) <;> omega)
        repeat (first | refine Run.seq ?_ | refine Run.region ?_ | refine Run.skip ?_ | refine Run.cond_f rfl ?_ | refine Ops.pure T rfl (by decide) rfl ?_)
        have hk4 : k = 0 ∨ k = 1 ∨ k = 2 ∨ k = 3 := by omega
        rcases hk4 with rfl | rfl | rfl | rfl
        · refine Ops.indexArr T rfl (by decide) rfl rfl rfl rfl (by decide) (by decide) ?_
          repeat (first | refine Run.seq ?_ | refine Run.region ?_ | refine Ops.nil ?_ | refine Run.exit rfl ?_ | refine Ops.add rfl (by decide) rfl rfl (wI (by first | omega | (simp only [List.length_cons, List.length_nil] ; omega) | (simp; omega)) (by first | omega | (simp only [List.length_cons, List.length_nil] ; omega) | (simp; omega))) ?_ | refine Ops.pure T rfl (by decide) rfl ?_ | refine Ops.store 0 rfl rfl rfl rfl rfl (T.sizeOk rfl) rfl (Nat.le_of_ble_eq_true rfl) rfl rfl ?_)
          refine Run.keep [0, 2, 4, 5, 6, 7] [_, _, _, _, _, _] rfl ?_
          refine ih (s.length + 1 - (i + 1)) _ _ _ (by omega) ⟨i + 1, 0 + 1, 0, 0, (n, a1, a2, a3), rfl, by omega, by decide, by decide, by omega, ?_, rfl, rfl, rfl⟩
          rw [show (Q4.l (n, a1, a2, a3)).take (0 + 1) = (Q4.l (a0, a1, a2, a3)).take 0 ++ [n] from rfl]
          exact hnx
        · refine Ops.indexArr T rfl (by decide) rfl rfl rfl rfl (by decide) (by decide) ?_
          repeat (first | refine Run.seq ?_ | refine Run.region ?_ | refine Ops.nil ?_ | refine Run.exit rfl ?_ | refine Ops.add rfl (by decide) rfl rfl (wI (by first | omega | (simp only [List.length_cons, List.length_nil] ; omega) | (simp; omega)) (by first | omega | (simp only [List.length_cons, List.length_nil] ; omega) | (simp; omega))) ?_ | refine Ops.pure T rfl (by decide) rfl ?_ | refine Ops.store 0 rfl rfl rfl rfl rfl (T.sizeOk rfl) rfl (Nat.le_of_ble_eq_true rfl) rfl rfl ?_)
          refine Run.keep [0, 2, 4, 5, 6, 7] [_, _, _, _, _, _] rfl ?_
          refine ih (s.length + 1 - (i + 1)) _ _ _ (by omega) ⟨i + 1, 1 + 1, 0, 0, (a0, n, a2, a3), rfl, by omega, by decide, by decide, by omega, ?_, rfl, rfl, rfl⟩
          rw [show (Q4.l (a0, n, a2, a3)).take (1 + 1) = (Q4.l (a0, a1, a2, a3)).take 1 ++ [n] from rfl]
          exact hnx
        · refine Ops.indexArr T rfl (by decide) rfl rfl rfl rfl (by decide) (by decide) ?_
          repeat (first | refine Run.seq ?_ | refine Run.region ?_ | refine Ops.nil ?_ | refine Run.exit rfl ?_ | refine Ops.add rfl (by decide) rfl rfl (wI (by first | omega | (simp only [List.length_cons, List.length_nil] ; omega) | (simp; omega)) (by first | omega | (simp only [List.length_cons, List.length_nil] ; omega) | (simp; omega))) ?_ | refine Ops.pure T rfl (by decide) rfl ?_ | refine Ops.store 0 rfl rfl rfl rfl rfl (T.sizeOk rfl) rfl (Nat.le_of_ble_eq_true rfl) rfl rfl ?_)
          refine Run.keep [0, 2, 4, 5, 6, 7] [_, _, _, _, _, _] rfl ?_
          refine ih (s.length + 1 - (i + 1)) _ _ _ (by omega) ⟨i + 1, 2 + 1, 0, 0, (a0, a1, n, a3), rfl, by omega, by decide, by decide, by omega, ?_, rfl, rfl, rfl⟩
          rw [show (Q4.l (a0, a1, n, a3)).take (2 + 1) = (Q4.l (a0, a1, a2, a3)).take 2 ++ [n] from rfl]
          exact hnx
        · refine Ops.indexArr T rfl (by decide) rfl rfl rfl rfl (by decide) (by decide) ?_
          repeat (first | refine Run.seq ?_ | refine Run.region ?_ | refine Ops.nil ?_ | refine Run.exit rfl ?_ | refine Ops.add rfl (by decide) rfl rfl (wI (by first | omega | (simp only [List.length_cons, List.length_nil] ; omega) | (simp; omega)) (by first | omega | (simp only [List.length_cons, List.length_nil] ; omega) | (simp; omega))) ?_ | refine Ops.pure T rfl (by decide) rfl ?_ | refine Ops.store 0 rfl rfl rfl rfl rfl (T.sizeOk rfl) rfl (Nat.le_of_ble_eq_true rfl) rfl rfl ?_)
          refine Run.keep [0, 2, 4, 5, 6, 7] [_, _, _, _, _, _] rfl ?_
          refine ih (s.length + 1 - (i + 1)) _ _ _ (by omega) ⟨i + 1, 3 + 1, 0, 0, (a0, a1, a2, n), rfl, by omega, by decide, by decide, by omega, ?_, rfl, rfl, rfl⟩
          rw [show (Q4.l (a0, a1, a2, n)).take (3 + 1) = (Q4.l (a0, a1, a2, a3)).take 3 ++ [n] from rfl]
          exact hnx
      | false =>
        rw [if_neg (fun h => of_decide_eq_false h46 (u8_inj.2 h))] at hgo
        repeat (first | refine Run.seq ?_ | refine Run.region ?_ | refine Run.skip ?_ | refine Run.cond_f rfl ?_ | refine Ops.lss rfl (by decide) rfl rfl ?_ | refine Ops.pure T rfl (by decide) rfl ?_ | refine Ops.indexStr rfl (by decide) (T.undOk rfl) rfl rfl (by first | omega | (simp only [List.length_cons, List.length_nil] ; omega) | (simp; omega)) (by first | omega | (simp only [List.length_cons, List.length_nil] ; omega) | (simp; omega)) ?_)
        rw [ei, hc]
        cases c1 : decide ((c.toNat : Int) < 48) with
        | true =>
          have hn : quadF s = none := by rw [← hgo, if_pos (.inl (by have := of_decide_eq_true c1; omega))]
          repeat (first | refine Run.seq ?_ | refine Run.region ?_ | refine Ops.nil ?_ | refine Run.cond_t rfl ?_ | refine Ops.not rfl (by decide) ?_ | refine Ops.notU rfl (by decide) ?_ | refine Ops.pure T rfl (by decide) rfl ?_ | refine Ops.loadN 0 rfl (by decide) rfl rfl (T.aggOk rfl) (T.sizeOk rfl) rfl rfl ?_ | refine Ops.store 0 rfl rfl rfl rfl rfl (T.sizeOk rfl) rfl (Nat.le_of_ble_eq_true rfl) rfl rfl ?_)
          refine Run.retCT T 0 (by rw [hCf]; exact Proofs.Tryz.func105) Proofs.Tryz.results105 rfl rfl rfl rfl rfl rfl rfl (hR _ _ _ ?_)
          refine ⟨rfl, (a0, a1, a2, a3), ?_, ?_⟩
          · rw [hn]; rfl
          · rw [hn]; intro _ h; cases h
        | false =>
        have c1' := of_decide_eq_false c1
        repeat (first | refine Ops.gtr rfl (by decide) rfl rfl ?_ | refine Ops.pure T rfl (by decide) rfl ?_ | refine Ops.indexStr rfl (by decide) (T.undOk rfl) rfl rfl (by first | omega | (simp only [List.length_cons, List.length_nil] ; omega) | (simp; omega)) (by first | omega | (simp only [List.length_cons, List.length_nil] ; omega) | (simp; omega)) ?_)
        rw [ei, hc]
        cases c2 : decide ((57 : Int) < (c.toNat : Int)) with
        | true =>
          have hn : quadF s = none := by rw [← hgo, if_pos (.inr (.inl (by have := of_decide_eq_true c2; omega)))]
          repeat (first | refine Run.seq ?_ | refine Run.region ?_ | refine Ops.nil ?_ | refine Run.cond_t rfl ?_ | refine Ops.not rfl (by decide) ?_ | refine Ops.notU rfl (by decide) ?_ | refine Ops.pure T rfl (by decide) rfl ?_ | refine Ops.loadN 0 rfl (by decide) rfl rfl (T.aggOk rfl) (T.sizeOk rfl) rfl rfl ?_ | refine Ops.store 0 rfl rfl rfl rfl rfl (T.sizeOk rfl) rfl (Nat.le_of_ble_eq_true rfl) rfl rfl ?_)
          refine Run.retCT T 0 (by rw [hCf]; exact Proofs.Tryz.func105) Proofs.Tryz.results105 rfl rfl rfl rfl rfl rfl rfl (hR _ _ _ ?_)
          refine ⟨rfl, (a0, a1, a2, a3), ?_, ?_⟩
          · rw [hn]; rfl
          · rw [hn]; intro _ h; cases h
        | false =>
        have c2' := of_decide_eq_false c2
        repeat (first | refine Ops.gtr rfl (by decide) rfl rfl ?_ | refine Ops.pure T rfl (by decide) rfl ?_)
        cases c3 : decide ((0 : Int) < (d : Int)) with
        | true =>
          repeat (first | refine Ops.nil ?_ | refine Ops.eql rfl (by decide) rfl rfl ?_ | refine Ops.pure T rfl (by decide) rfl ?_)
          cases c4 : decide ((n : Int) = 0) with
          | true =>
            have hn : quadF s = none := by rw [← hgo, if_pos (.inr (.inr ⟨by have := of_decide_eq_true c3; omega, by have := of_decide_eq_true c4; omega⟩))]
            repeat (first | refine Run.seq ?_ | refine Run.region ?_ | refine Ops.nil ?_ | refine Run.cond_t rfl ?_ | refine Ops.pure T rfl (by decide) rfl ?_ | refine Ops.loadN 0 rfl (by decide) rfl rfl (T.aggOk rfl) (T.sizeOk rfl) rfl rfl ?_ | refine Ops.store 0 rfl rfl rfl rfl rfl (T.sizeOk rfl) rfl (Nat.le_of_ble_eq_true rfl) rfl rfl ?_)
            refine Run.retCT T 0 (by rw [hCf]; exact Proofs.Tryz.func105) Proofs.Tryz.results105 rfl rfl rfl rfl rfl rfl rfl (hR _ _ _ ?_)
            refine ⟨rfl, (a0, a1, a2, a3), ?_, ?_⟩
            · rw [hn]; rfl
            · rw [hn]; intro _ h; cases h
          | false =>
            have hz : ¬ (c.toNat < 48 ∨ 57 < c.toNat ∨ (0 < d ∧ n = 0)) := by have := of_decide_eq_false c4; omega
            rw [if_neg hz] at hgo
            repeat (first | refine Run.seq ?_ | refine Run.region ?_ | refine Run.skip ?_ | refine Run.cond_f rfl ?_ | refine Ops.pure T rfl (by decide) rfl ?_)
            refine Ops.mul rfl (by decide) rfl rfl (wI (by omega) (by omega)) ?_
            repeat (first | refine Ops.pure T rfl (by decide) rfl ?_ | refine Ops.indexStr rfl (by decide) (T.undOk rfl) rfl rfl (by first | omega | (simp only [List.length_cons, List.length_nil] ; omega) | (simp; omega)) (by first | omega | (simp only [List.length_cons, List.length_nil] ; omega) | (simp; omega)) ?_)
            rw [ei, hc]
            refine Ops.sub rfl (by decide) rfl rfl (w8 (by omega) (by omega)) ?_
            refine Ops.convInt rfl (by decide) (T.undOk rfl) (T.undOk rfl) rfl (wI (by omega) (by omega)) ?_
            repeat (first | refine Run.seq ?_ | refine Run.region ?_ | refine Ops.nil ?_ | refine Ops.add rfl (by decide) rfl rfl (wI (by first | omega | (simp only [List.length_cons, List.length_nil] ; omega) | (simp; omega)) (by first | omega | (simp only [List.length_cons, List.length_nil] ; omega) | (simp; omega))) ?_ | refine Ops.gtr rfl (by decide) rfl rfl ?_ | refine Ops.pure T rfl (by decide) rfl ?_)
            cases c5 : decide ((3 : Int) < (d : Int) + 1) with
            | true =>
              have hn : quadF s = none := by rw [← hgo, if_pos (by have := of_decide_eq_true c5; omega)]
              repeat (first | refine Run.seq ?_ | refine Run.region ?_ | refine Ops.nil ?_ | refine Run.cond_t rfl ?_ | refine Ops.pure T rfl (by decide) rfl ?_ | refine Ops.loadN 0 rfl (by decide) rfl rfl (T.aggOk rfl) (T.sizeOk rfl) rfl rfl ?_ | refine Ops.store 0 rfl rfl rfl rfl rfl (T.sizeOk rfl) rfl (Nat.le_of_ble_eq_true rfl) rfl rfl ?_)
              refine Run.retCT T 0 (by rw [hCf]; exact Proofs.Tryz.func105) Proofs.Tryz.results105 rfl rfl rfl rfl rfl rfl rfl (hR _ _ _ ?_)
              refine ⟨rfl, (a0, a1, a2, a3), ?_, ?_⟩
              · rw [hn]; rfl
              · rw [hn]; intro _ h; cases h
            | false =>
              have c5' := of_decide_eq_false c5
              rw [if_neg (by omega)] at hgo
              repeat (first | refine Run.region ?_ | refine Ops.nil ?_ | refine Run.skip ?_ | refine Run.inBlock ?_ | refine Run.cond_f rfl ?_ | refine Ops.add rfl (by decide) rfl rfl (wI (by first | omega | (simp only [List.length_cons, List.length_nil] ; omega) | (simp; omega)) (by first | omega | (simp only [List.length_cons, List.length_nil] ; omega) | (simp; omega))) ?_ | refine Ops.pure T rfl (by decide) rfl ?_)
              refine Run.keep [0, 2, 4, 5, 6, 7] [_, _, _, _, _, _] rfl ?_
              refine ih (s.length + 1 - (i + 1)) _ _ _ (by omega) ⟨i + 1, k, n * 10 + (c.toNat - 48), d + 1, (a0, a1, a2, a3), rfl, hk, by rw [Nat.pow_succ]; omega, by omega, by omega, .inl ⟨by omega, hgo⟩, ?_, rfl, rfl⟩
              have e7 : (n : Int) * 10 + ((c.toNat : Int) - 48) = ((n * 10 + (c.toNat - 48) : Nat) : Int) := by omega
              rw [e7]
              rfl
        | false =>
          have hz : ¬ (c.toNat < 48 ∨ 57 < c.toNat ∨ (0 < d ∧ n = 0)) := by have := of_decide_eq_false c3; omega
          rw [if_neg hz] at hgo
          repeat (first | refine Run.seq ?_ | refine Run.region ?_ | refine Ops.nil ?_ | refine Run.skip ?_ | refine Run.cond_f rfl ?_ | refine Ops.not rfl (by decide) ?_ | refine Ops.pure T rfl (by decide) rfl ?_)
          refine Ops.mul rfl (by decide) rfl rfl (wI (by omega) (by omega)) ?_
          repeat (first | refine Ops.pure T rfl (by decide) rfl ?_ | refine Ops.indexStr rfl (by decide) (T.undOk rfl) rfl rfl (by first | omega | (simp only [List.length_cons, List.length_nil] ; omega) | (simp; omega)) (by first | omega | (simp only [List.length_cons, List.length_nil] ; omega) | (simp; omega)) ?_)
          rw [ei, hc]
          refine Ops.sub rfl (by decide) rfl rfl (w8 (by omega) (by omega)) ?_
          refine Ops.convInt rfl (by decide) (T.undOk rfl) (T.undOk rfl) rfl (wI (by omega) (by omega)) ?_
          repeat (first | refine Run.seq ?_ | refine Run.region ?_ | refine Ops.nil ?_ | refine Ops.add rfl (by decide) rfl rfl (wI (by first | omega | (simp only [List.length_cons, List.length_nil] ; omega) | (simp; omega)) (by first | omega | (simp only [List.length_cons, List.length_nil] ; omega) | (simp; omega))) ?_ | refine Ops.gtr rfl (by decide) rfl rfl ?_ | refine Ops.pure T rfl (by decide) rfl ?_)
          cases c5 : decide ((3 : Int) < (d : Int) + 1) with
          | true =>
            have hn : quadF s = none := by rw [← hgo, if_pos (by have := of_decide_eq_true c5; omega)]
            repeat (first | refine Run.seq ?_ | refine Run.region ?_ | refine Ops.nil ?_ | refine Run.cond_t rfl ?_ | refine Ops.pure T rfl (by decide) rfl ?_ | refine Ops.loadN 0 rfl (by decide) rfl rfl (T.aggOk rfl) (T.sizeOk rfl) rfl rfl ?_ | refine Ops.store 0 rfl rfl rfl rfl rfl (T.sizeOk rfl) rfl (Nat.le_of_ble_eq_true rfl) rfl rfl ?_)
            refine Run.retCT T 0 (by rw [hCf]; exact Proofs.Tryz.func105) Proofs.Tryz.results105 rfl rfl rfl rfl rfl rfl rfl (hR _ _ _ ?_)
            refine ⟨rfl, (a0, a1, a2, a3), ?_, ?_⟩
            · rw [hn]; rfl
            · rw [hn]; intro _ h; cases h
          | false =>
            have c5' := of_decide_eq_false c5
            rw [if_neg (by omega)] at hgo
            repeat (first | refine Run.region ?_ | refine Ops.nil ?_ | refine Run.skip ?_ | refine Run.inBlock ?_ | refine Run.cond_f rfl ?_ | refine Ops.add rfl (by decide) rfl rfl (wI (by first | omega | (simp only [List.length_cons, List.length_nil] ; omega) | (simp; omega)) (by first | omega | (simp only [List.length_cons, List.length_nil] ; omega) | (simp; omega))) ?_ | refine Ops.pure T rfl (by decide) rfl ?_)
            refine Run.keep [0, 2, 4, 5, 6, 7] [_, _, _, _, _, _] rfl ?_
            refine ih (s.length + 1 - (i + 1)) _ _ _ (by omega) ⟨i + 1, k, n * 10 + (c.toNat - 48), d + 1, (a0, a1, a2, a3), rfl, hk, by rw [Nat.pow_succ]; omega, by omega, by omega, .inl ⟨by omega, hgo⟩, ?_, rfl, rfl⟩
            have e7 : (n : Int) * 10 + ((c.toNat : Int) - 48) = ((n * 10 + (c.toNat - 48) : Nat) : Int) := by omega
            rw [e7]
            rfl
  · have hq : quadF s = if ((Q4.l (a0, a1, a2, a3)).take k).length = 4 then some ((Q4.l (a0, a1, a2, a3)).take k) else none := by
      rcases hinv with h | h
      · omega
      · exact h.2
    have hol : ((Q4.l (a0, a1, a2, a3)).take k).length = k := by simp [Q4.l]; omega
    rw [hol] at hq
    repeat (first | refine Run.seq ?_ | refine Run.region ?_ | refine Ops.nil ?_ | refine Run.exit rfl ?_ | refine Ops.eql rfl (by decide) rfl rfl ?_ | refine Ops.pure T rfl (by decide) rfl ?_ | refine Ops.loadN 0 rfl (by decide) rfl rfl (T.aggOk rfl) (T.sizeOk rfl) rfl rfl ?_ | refine Ops.store 0 rfl rfl rfl rfl rfl (T.sizeOk rfl) rfl (Nat.le_of_ble_eq_true rfl) rfl rfl ?_)
    refine Run.retCT T 0 (by rw [hCf]; exact Proofs.Tryz.func105) Proofs.Tryz.results105 rfl rfl rfl rfl rfl rfl rfl (hR _ _ _ ?_)
    refine ⟨rfl, (a0, a1, a2, a3), ?_, ?_⟩
    · rw [hq]
      by_cases h4 : k = 4
      · subst h4; rfl
      · rw [if_neg h4, decide_eq_false (show ¬ (k : Int) = 4 by omega)]; rfl
    · intro l' hl'
      rw [hq] at hl'
      split at hl'
      · rename_i h4
        subst h4
        cases hl'
        rfl
      · cases hl'
end Go.V
/-
  Names read, as the document's function does.
-/
namespace Go.V
open Go.RowKit
set_option linter.unusedVariables false
set_option linter.unusedSimpArgs false
set_option maxRecDepth 10000
attribute [local irreducible] Run Ops
theorem pvs (a0 a1 a2 a3 : Nat) : privO (some [a0, a1, a2, a3]) = (decide ((a0 : Int) = 10) || (decide ((a0 : Int) = 172) && decide ((16 : Int) ≤ (a1 : Int)) && decide ((a1 : Int) < 32)) || (decide ((a0 : Int) = 192) && decide ((a1 : Int) = 168))) := by
  show (decide (a0 = 10) || (decide (a0 = 172) && decide (16 ≤ a1) && decide (a1 < 32)) || (decide (a0 = 192) && decide (a1 = 168))) = _
  rw [← nat_dec a0 10, ← nat_dec a0 172, ← nat_dec a0 192, ← nat_dec a1 168, show decide (16 ≤ a1) = decide ((16 : Int) ≤ (a1 : Int)) by rw [decide_eq_decide]; omega, show decide (a1 < 32) = decide ((a1 : Int) < 32) by rw [decide_eq_decide]; omega]
  rfl
set_option maxHeartbeats 8000000 in
theorem spec_Local (I : Imm) (s : Tx) (hs : s.length ≤ 4620000000000000000) : Pure Proofs.Tryz.prog 86 [str s] I fun w J => w = .bool (localF s) := by
  refine Spec.enter 69 [(0, _)] Proofs.Tryz.func86 rfl Proofs.Tryz.ntmps86 (by simp) rfl ?_
  intro C hCf hR hCI
  repeat (first | refine Run.seq ?_ | refine Run.region ?_ | refine Ops.nil ?_ | refine Ops.pure T rfl (by decide) rfl ?_)
  refine Ops.call ((spec_firstOf s 58 I (by omega))) rfl (by decide) Proofs.Tryz.call81 rfl ?_
  rintro _ J1 l1 rfl
  cases hk : ix 58 s with
  | none =>
    rw [ixI_none hk]
    have hho : hostOf s = s := by simp [hostOf, hk]
    have hhl : (s : Tx).length ≤ s.length := by first | (simp; done) | (simp; omega) | omega
    repeat (first | refine Run.seq ?_ | refine Run.region ?_ | refine Ops.nil ?_ | refine Run.skip ?_ | refine Run.cond_f rfl ?_ | refine Ops.eqlStr rfl (by decide) rfl rfl ?_ | refine Ops.geq rfl (by decide) rfl rfl ?_ | refine Ops.pure T rfl (by decide) rfl ?_)
    cases e1 : decide ((s) = [108, 111, 99, 97, 108, 104, 111, 115, 116]) with
    | true =>
      have e1' : decide ((s) = localhostT) = true := e1
      repeat (first | refine Run.seq ?_ | refine Run.region ?_ | refine Ops.nil ?_ | refine Run.cond_t rfl ?_ | refine Ops.not rfl (by decide) ?_ | refine Ops.pure T rfl (by decide) rfl ?_)
      refine Run.fin (Run.ret1 (by rw [hCf]; exact Proofs.Tryz.func86) Proofs.Tryz.results86 rfl (hR _ _ _ ?_))
      refine ⟨rfl, ?_⟩
      simp only [localF, hho, e1']
      rfl
    | false =>
    have e1' : decide ((s) = localhostT) = false := e1
    repeat (first | refine Ops.nil ?_ | refine Ops.eqlStr rfl (by decide) rfl rfl ?_ | refine Ops.pure T rfl (by decide) rfl ?_)
    cases e2 : decide ((s) = [49, 50, 55, 46, 48, 46, 48, 46, 49]) with
    | true =>
      repeat (first | refine Run.seq ?_ | refine Run.region ?_ | refine Ops.nil ?_ | refine Run.cond_t rfl ?_ | refine Ops.pure T rfl (by decide) rfl ?_)
      refine Run.fin (Run.ret1 (by rw [hCf]; exact Proofs.Tryz.func86) Proofs.Tryz.results86 rfl (hR _ _ _ ?_))
      refine ⟨rfl, ?_⟩
      simp only [localF, hho, e1', e2]
      rfl
    | false =>
    repeat (first | refine Run.seq ?_ | refine Run.region ?_ | refine Ops.nil ?_ | refine Run.skip ?_ | refine Run.cond_f rfl ?_ | refine Ops.geq rfl (by decide) rfl rfl ?_ | refine Ops.pure T rfl (by decide) rfl ?_ | refine Ops.lenS T rfl (by decide) rfl rfl ?_)
    have esuf : endsT [46, 108, 111, 99, 97, 108, 104, 111, 115, 116] (s) = (decide ((10 : Int) ≤ ((s).length : Int)) && decide ((s).drop ((s).length - 10) = [46, 108, 111, 99, 97, 108, 104, 111, 115, 116])) := by
      unfold endsT
      rw [show decide (([46, 108, 111, 99, 97, 108, 104, 111, 115, 116] : Tx).length ≤ (s).length) = decide ((10 : Int) ≤ ((s).length : Int)) by rw [decide_eq_decide]; simp only [List.length_cons, List.length_nil]; omega]
      rfl
    cases e3 : decide ((10 : Int) ≤ ((s).length : Int)) with
    | false =>
      have e3' : endsT [46, 108, 111, 99, 97, 108, 104, 111, 115, 116] (s) = false := by rw [esuf, e3]; rfl
      repeat (first | refine Run.seq ?_ | refine Run.region ?_ | refine Ops.nil ?_ | refine Run.skip ?_ | refine Run.cond_f rfl ?_ | refine Ops.not rfl (by decide) ?_ | refine Ops.pure T rfl (by decide) rfl ?_)
      refine Ops.call ((spec_quad J1 (s) (by omega))) rfl (by decide) Proofs.Tryz.call105 rfl ?_
      rintro _ J4 l4 ⟨⟨a0, a1, a2, a3⟩, rfl, hq⟩
      repeat (first | refine Ops.pure T rfl (by decide) rfl ?_)
      refine Ops.alloc rfl (by decide) (T.zeroOk rfl) rfl (fun b2 => ?_)
      repeat (first | refine Run.seq ?_ | refine Run.region ?_ | refine Ops.nil ?_ | refine Ops.pure T rfl (by decide) rfl ?_ | refine Ops.store 0 rfl rfl rfl rfl rfl (T.sizeOk rfl) rfl (Nat.le_of_ble_eq_true rfl) rfl rfl ?_)
      cases hi : quadF (s) with
      | none =>
        repeat (first | refine Ops.nil ?_ | refine Ops.not rfl (by decide) ?_ | refine Ops.notU rfl (by decide) ?_ | refine Ops.pure T rfl (by decide) rfl ?_)
        refine Run.fin (Run.ret1 (by rw [hCf]; exact Proofs.Tryz.func86) Proofs.Tryz.results86 rfl (hR _ _ _ ?_))
        refine ⟨rfl, ?_⟩
        simp only [localF, hho, e1', e2, e3', hi]
        rfl
      | some l' =>
        obtain rfl := hq l' hi
        have hpv := pvs a0 a1 a2 a3
        have hi2 : privO (quadF (s)) = privO (some [a0, a1, a2, a3]) := by rw [hi]; rfl
        skip
        refine Ops.indexArr T rfl (by decide) rfl rfl rfl rfl (by decide) (by decide) ?_
        repeat (first | refine Ops.eql rfl (by decide) rfl rfl ?_ | refine Ops.pure T rfl (by decide) rfl ?_ | refine Ops.load 0 rfl (by decide) rfl rfl (T.aggOk rfl) rfl ?_)
        cases h1 : decide ((a0 : Int) = 10) with
        | true =>
          repeat (first | refine Ops.nil ?_ | refine Ops.not rfl (by decide) ?_ | refine Ops.notU rfl (by decide) ?_ | refine Ops.pure T rfl (by decide) rfl ?_)
          refine Run.fin (Run.ret1 (by rw [hCf]; exact Proofs.Tryz.func86) Proofs.Tryz.results86 rfl (hR _ _ _ ?_))
          refine ⟨rfl, ?_⟩
          simp only [localF, hho, e1', e2, e3', hi2, hpv, h1]
          rfl
        | false =>
          skip
          refine Ops.indexArr T rfl (by decide) rfl rfl rfl rfl (by decide) (by decide) ?_
          repeat (first | refine Ops.eql rfl (by decide) rfl rfl ?_ | refine Ops.pure T rfl (by decide) rfl ?_ | refine Ops.load 0 rfl (by decide) rfl rfl (T.aggOk rfl) rfl ?_)
          cases h2 : decide ((a0 : Int) = 172) with
          | false =>
            repeat (first | refine Ops.not rfl (by decide) ?_ | refine Ops.pure T rfl (by decide) rfl ?_)
            refine Ops.indexArr T rfl (by decide) rfl rfl rfl rfl (by decide) (by decide) ?_
            repeat (first | refine Ops.eql rfl (by decide) rfl rfl ?_ | refine Ops.pure T rfl (by decide) rfl ?_ | refine Ops.load 0 rfl (by decide) rfl rfl (T.aggOk rfl) rfl ?_)
            cases h4 : decide ((a0 : Int) = 192) with
            | false =>
              repeat (first | refine Ops.nil ?_ | refine Ops.not rfl (by decide) ?_ | refine Ops.pure T rfl (by decide) rfl ?_)
              refine Run.fin (Run.ret1 (by rw [hCf]; exact Proofs.Tryz.func86) Proofs.Tryz.results86 rfl (hR _ _ _ ?_))
              refine ⟨rfl, ?_⟩
              simp only [localF, hho, e1', e2, e3', hi2, hpv, h1, h2, h4]
              rfl
            | true =>
              skip
              refine Ops.indexArr T rfl (by decide) rfl rfl rfl rfl (by decide) (by decide) ?_
              repeat (first | refine Ops.nil ?_ | refine Ops.eql rfl (by decide) rfl rfl ?_ | refine Ops.pure T rfl (by decide) rfl ?_ | refine Ops.load 0 rfl (by decide) rfl rfl (T.aggOk rfl) rfl ?_)
              cases h5 : decide ((a1 : Int) = 168) with
              | false =>
                skip
                refine Run.fin (Run.ret1 (by rw [hCf]; exact Proofs.Tryz.func86) Proofs.Tryz.results86 rfl (hR _ _ _ ?_))
                refine ⟨rfl, ?_⟩
                simp only [localF, hho, e1', e2, e3', hi2, hpv, h1, h2, h4, h5]
                rfl
              | true =>
                skip
                refine Run.fin (Run.ret1 (by rw [hCf]; exact Proofs.Tryz.func86) Proofs.Tryz.results86 rfl (hR _ _ _ ?_))
                refine ⟨rfl, ?_⟩
                simp only [localF, hho, e1', e2, e3', hi2, hpv, h1, h2, h4, h5]
                rfl
          | true =>
            skip
            refine Ops.indexArr T rfl (by decide) rfl rfl rfl rfl (by decide) (by decide) ?_
            repeat (first | refine Ops.geq rfl (by decide) rfl rfl ?_ | refine Ops.pure T rfl (by decide) rfl ?_ | refine Ops.load 0 rfl (by decide) rfl rfl (T.aggOk rfl) rfl ?_)
            cases h3 : decide ((16 : Int) ≤ (a1 : Int)) with
            | false =>
              repeat (first | refine Ops.not rfl (by decide) ?_ | refine Ops.pure T rfl (by decide) rfl ?_)
              refine Ops.indexArr T rfl (by decide) rfl rfl rfl rfl (by decide) (by decide) ?_
              repeat (first | refine Ops.eql rfl (by decide) rfl rfl ?_ | refine Ops.pure T rfl (by decide) rfl ?_ | refine Ops.load 0 rfl (by decide) rfl rfl (T.aggOk rfl) rfl ?_)
              cases h4 : decide ((a0 : Int) = 192) with
              | false =>
                repeat (first | refine Ops.nil ?_ | refine Ops.not rfl (by decide) ?_ | refine Ops.pure T rfl (by decide) rfl ?_)
                refine Run.fin (Run.ret1 (by rw [hCf]; exact Proofs.Tryz.func86) Proofs.Tryz.results86 rfl (hR _ _ _ ?_))
                refine ⟨rfl, ?_⟩
                simp only [localF, hho, e1', e2, e3', hi2, hpv, h1, h2, h3, h4]
                rfl
              | true =>
                skip
                refine Ops.indexArr T rfl (by decide) rfl rfl rfl rfl (by decide) (by decide) ?_
                repeat (first | refine Ops.nil ?_ | refine Ops.eql rfl (by decide) rfl rfl ?_ | refine Ops.pure T rfl (by decide) rfl ?_ | refine Ops.load 0 rfl (by decide) rfl rfl (T.aggOk rfl) rfl ?_)
                cases h5 : decide ((a1 : Int) = 168) with
                | false =>
                  skip
                  refine Run.fin (Run.ret1 (by rw [hCf]; exact Proofs.Tryz.func86) Proofs.Tryz.results86 rfl (hR _ _ _ ?_))
                  refine ⟨rfl, ?_⟩
                  simp only [localF, hho, e1', e2, e3', hi2, hpv, h1, h2, h3, h4, h5]
                  rfl
                | true =>
                  skip
                  refine Run.fin (Run.ret1 (by rw [hCf]; exact Proofs.Tryz.func86) Proofs.Tryz.results86 rfl (hR _ _ _ ?_))
                  refine ⟨rfl, ?_⟩
                  simp only [localF, hho, e1', e2, e3', hi2, hpv, h1, h2, h3, h4, h5]
                  rfl
            | true =>
              skip
              refine Ops.indexArr T rfl (by decide) rfl rfl rfl rfl (by decide) (by decide) ?_
              repeat (first | refine Ops.lss rfl (by decide) rfl rfl ?_ | refine Ops.pure T rfl (by decide) rfl ?_ | refine Ops.load 0 rfl (by decide) rfl rfl (T.aggOk rfl) rfl ?_)
              cases h6 : decide ((a1 : Int) < 32) with
              | false =>
                skip
                refine Ops.indexArr T rfl (by decide) rfl rfl rfl rfl (by decide) (by decide) ?_
                repeat (first | refine Ops.eql rfl (by decide) rfl rfl ?_ | refine Ops.pure T rfl (by decide) rfl ?_ | refine Ops.load 0 rfl (by decide) rfl rfl (T.aggOk rfl) rfl ?_)
                cases h4 : decide ((a0 : Int) = 192) with
                | false =>
                  repeat (first | refine Ops.nil ?_ | refine Ops.not rfl (by decide) ?_ | refine Ops.pure T rfl (by decide) rfl ?_)
                  refine Run.fin (Run.ret1 (by rw [hCf]; exact Proofs.Tryz.func86) Proofs.Tryz.results86 rfl (hR _ _ _ ?_))
                  refine ⟨rfl, ?_⟩
                  simp only [localF, hho, e1', e2, e3', hi2, hpv, h1, h2, h3, h6, h4]
                  rfl
                | true =>
                  skip
                  refine Ops.indexArr T rfl (by decide) rfl rfl rfl rfl (by decide) (by decide) ?_
                  repeat (first | refine Ops.nil ?_ | refine Ops.eql rfl (by decide) rfl rfl ?_ | refine Ops.pure T rfl (by decide) rfl ?_ | refine Ops.load 0 rfl (by decide) rfl rfl (T.aggOk rfl) rfl ?_)
                  cases h5 : decide ((a1 : Int) = 168) with
                  | false =>
                    skip
                    refine Run.fin (Run.ret1 (by rw [hCf]; exact Proofs.Tryz.func86) Proofs.Tryz.results86 rfl (hR _ _ _ ?_))
                    refine ⟨rfl, ?_⟩
                    simp only [localF, hho, e1', e2, e3', hi2, hpv, h1, h2, h3, h6, h4, h5]
                    rfl
                  | true =>
                    skip
                    refine Run.fin (Run.ret1 (by rw [hCf]; exact Proofs.Tryz.func86) Proofs.Tryz.results86 rfl (hR _ _ _ ?_))
                    refine ⟨rfl, ?_⟩
                    simp only [localF, hho, e1', e2, e3', hi2, hpv, h1, h2, h3, h6, h4, h5]
                    rfl
              | true =>
                repeat (first | refine Ops.nil ?_ | refine Ops.not rfl (by decide) ?_ | refine Ops.notU rfl (by decide) ?_ | refine Ops.pure T rfl (by decide) rfl ?_)
                refine Run.fin (Run.ret1 (by rw [hCf]; exact Proofs.Tryz.func86) Proofs.Tryz.results86 rfl (hR _ _ _ ?_))
                refine ⟨rfl, ?_⟩
                simp only [localF, hho, e1', e2, e3', hi2, hpv, h1, h2, h3, h6]
                rfl
    | true =>
      have e3a := of_decide_eq_true e3
      repeat (first | refine Ops.nil ?_ | refine Ops.eqlStr rfl (by decide) rfl rfl ?_ | refine Ops.sub rfl (by decide) rfl rfl (wI (by first | omega | (simp only [List.length_cons, List.length_nil] ; omega) | (simp; omega)) (by first | omega | (simp only [List.length_cons, List.length_nil] ; omega) | (simp; omega))) ?_ | refine Ops.pure T rfl (by decide) rfl ?_ | refine Ops.sliceStrLo rfl (by decide) (T.undOk rfl) rfl rfl (by first | omega | (simp only [List.length_cons, List.length_nil] ; omega) | (simp; omega)) (by first | omega | (simp only [List.length_cons, List.length_nil] ; omega) | (simp; omega)) ?_)
      have es : (((s).length : Int) - 10).toNat = (s).length - 10 := by omega
      rw [es]
      cases e4 : decide ((s).drop ((s).length - 10) = [46, 108, 111, 99, 97, 108, 104, 111, 115, 116]) with
      | true =>
        have e3' : endsT [46, 108, 111, 99, 97, 108, 104, 111, 115, 116] (s) = true := by rw [esuf, e3, e4]; rfl
        repeat (first | refine Run.seq ?_ | refine Run.region ?_ | refine Ops.nil ?_ | refine Run.cond_t rfl ?_ | refine Ops.pure T rfl (by decide) rfl ?_)
        refine Run.fin (Run.ret1 (by rw [hCf]; exact Proofs.Tryz.func86) Proofs.Tryz.results86 rfl (hR _ _ _ ?_))
        refine ⟨rfl, ?_⟩
        simp only [localF, hho, e1', e2, e3']
        rfl
      | false =>
        have e3' : endsT [46, 108, 111, 99, 97, 108, 104, 111, 115, 116] (s) = false := by rw [esuf, e3, e4]; rfl
        repeat (first | refine Run.seq ?_ | refine Run.region ?_ | refine Run.skip ?_ | refine Run.cond_f rfl ?_ | refine Ops.pure T rfl (by decide) rfl ?_)
        refine Ops.call ((spec_quad J1 (s) (by omega))) rfl (by decide) Proofs.Tryz.call105 rfl ?_
        rintro _ J4 l4 ⟨⟨a0, a1, a2, a3⟩, rfl, hq⟩
        repeat (first | refine Ops.pure T rfl (by decide) rfl ?_)
        refine Ops.alloc rfl (by decide) (T.zeroOk rfl) rfl (fun b2 => ?_)
        repeat (first | refine Run.seq ?_ | refine Run.region ?_ | refine Ops.nil ?_ | refine Ops.pure T rfl (by decide) rfl ?_ | refine Ops.store 0 rfl rfl rfl rfl rfl (T.sizeOk rfl) rfl (Nat.le_of_ble_eq_true rfl) rfl rfl ?_)
        cases hi : quadF (s) with
        | none =>
          repeat (first | refine Ops.nil ?_ | refine Ops.not rfl (by decide) ?_ | refine Ops.notU rfl (by decide) ?_ | refine Ops.pure T rfl (by decide) rfl ?_)
          refine Run.fin (Run.ret1 (by rw [hCf]; exact Proofs.Tryz.func86) Proofs.Tryz.results86 rfl (hR _ _ _ ?_))
          refine ⟨rfl, ?_⟩
          simp only [localF, hho, e1', e2, e3', hi]
          rfl
        | some l' =>
          obtain rfl := hq l' hi
          have hpv := pvs a0 a1 a2 a3
          have hi2 : privO (quadF (s)) = privO (some [a0, a1, a2, a3]) := by rw [hi]; rfl
          skip
          refine Ops.indexArr T rfl (by decide) rfl rfl rfl rfl (by decide) (by decide) ?_
          repeat (first | refine Ops.eql rfl (by decide) rfl rfl ?_ | refine Ops.pure T rfl (by decide) rfl ?_ | refine Ops.load 0 rfl (by decide) rfl rfl (T.aggOk rfl) rfl ?_)
          cases h1 : decide ((a0 : Int) = 10) with
          | true =>
            repeat (first | refine Ops.nil ?_ | refine Ops.not rfl (by decide) ?_ | refine Ops.notU rfl (by decide) ?_ | refine Ops.pure T rfl (by decide) rfl ?_)
            refine Run.fin (Run.ret1 (by rw [hCf]; exact Proofs.Tryz.func86) Proofs.Tryz.results86 rfl (hR _ _ _ ?_))
            refine ⟨rfl, ?_⟩
            simp only [localF, hho, e1', e2, e3', hi2, hpv, h1]
            rfl
          | false =>
            skip
            refine Ops.indexArr T rfl (by decide) rfl rfl rfl rfl (by decide) (by decide) ?_
            repeat (first | refine Ops.eql rfl (by decide) rfl rfl ?_ | refine Ops.pure T rfl (by decide) rfl ?_ | refine Ops.load 0 rfl (by decide) rfl rfl (T.aggOk rfl) rfl ?_)
            cases h2 : decide ((a0 : Int) = 172) with
            | false =>
              repeat (first | refine Ops.not rfl (by decide) ?_ | refine Ops.pure T rfl (by decide) rfl ?_)
              refine Ops.indexArr T rfl (by decide) rfl rfl rfl rfl (by decide) (by decide) ?_
              repeat (first | refine Ops.eql rfl (by decide) rfl rfl ?_ | refine Ops.pure T rfl (by decide) rfl ?_ | refine Ops.load 0 rfl (by decide) rfl rfl (T.aggOk rfl) rfl ?_)
              cases h4 : decide ((a0 : Int) = 192) with
              | false =>
                repeat (first | refine Ops.nil ?_ | refine Ops.not rfl (by decide) ?_ | refine Ops.pure T rfl (by decide) rfl ?_)
                refine Run.fin (Run.ret1 (by rw [hCf]; exact Proofs.Tryz.func86) Proofs.Tryz.results86 rfl (hR _ _ _ ?_))
                refine ⟨rfl, ?_⟩
                simp only [localF, hho, e1', e2, e3', hi2, hpv, h1, h2, h4]
                rfl
              | true =>
                skip
                refine Ops.indexArr T rfl (by decide) rfl rfl rfl rfl (by decide) (by decide) ?_
                repeat (first | refine Ops.nil ?_ | refine Ops.eql rfl (by decide) rfl rfl ?_ | refine Ops.pure T rfl (by decide) rfl ?_ | refine Ops.load 0 rfl (by decide) rfl rfl (T.aggOk rfl) rfl ?_)
                cases h5 : decide ((a1 : Int) = 168) with
                | false =>
                  skip
                  refine Run.fin (Run.ret1 (by rw [hCf]; exact Proofs.Tryz.func86) Proofs.Tryz.results86 rfl (hR _ _ _ ?_))
                  refine ⟨rfl, ?_⟩
                  simp only [localF, hho, e1', e2, e3', hi2, hpv, h1, h2, h4, h5]
                  rfl
                | true =>
                  skip
                  refine Run.fin (Run.ret1 (by rw [hCf]; exact Proofs.Tryz.func86) Proofs.Tryz.results86 rfl (hR _ _ _ ?_))
                  refine ⟨rfl, ?_⟩
                  simp only [localF, hho, e1', e2, e3', hi2, hpv, h1, h2, h4, h5]
                  rfl
            | true =>
              skip
              refine Ops.indexArr T rfl (by decide) rfl rfl rfl rfl (by decide) (by decide) ?_
              repeat (first | refine Ops.geq rfl (by decide) rfl rfl ?_ | refine Ops.pure T rfl (by decide) rfl ?_ | refine Ops.load 0 rfl (by decide) rfl rfl (T.aggOk rfl) rfl ?_)
              cases h3 : decide ((16 : Int) ≤ (a1 : Int)) with
              | false =>
                repeat (first | refine Ops.not rfl (by decide) ?_ | refine Ops.pure T rfl (by decide) rfl ?_)
                refine Ops.indexArr T rfl (by decide) rfl rfl rfl rfl (by decide) (by decide) ?_
                repeat (first | refine Ops.eql rfl (by decide) rfl rfl ?_ | refine Ops.pure T rfl (by decide) rfl ?_ | refine Ops.load 0 rfl (by decide) rfl rfl (T.aggOk rfl) rfl ?_)
                cases h4 : decide ((a0 : Int) = 192) with
                | false =>
                  repeat (first | refine Ops.nil ?_ | refine Ops.not rfl (by decide) ?_ | refine Ops.pure T rfl (by decide) rfl ?_)
                  refine Run.fin (Run.ret1 (by rw [hCf]; exact Proofs.Tryz.func86) Proofs.Tryz.results86 rfl (hR _ _ _ ?_))
                  refine ⟨rfl, ?_⟩
                  simp only [localF, hho, e1', e2, e3', hi2, hpv, h1, h2, h3, h4]
                  rfl
                | true =>
                  skip
                  refine Ops.indexArr T rfl (by decide) rfl rfl rfl rfl (by decide) (by decide) ?_
                  repeat (first | refine Ops.nil ?_ | refine Ops.eql rfl (by decide) rfl rfl ?_ | refine Ops.pure T rfl (by decide) rfl ?_ | refine Ops.load 0 rfl (by decide) rfl rfl (T.aggOk rfl) rfl ?_)
                  cases h5 : decide ((a1 : Int) = 168) with
                  | false =>
                    skip
                    refine Run.fin (Run.ret1 (by rw [hCf]; exact Proofs.Tryz.func86) Proofs.Tryz.results86 rfl (hR _ _ _ ?_))
                    refine ⟨rfl, ?_⟩
                    simp only [localF, hho, e1', e2, e3', hi2, hpv, h1, h2, h3, h4, h5]
                    rfl
                  | true =>
                    skip
                    refine Run.fin (Run.ret1 (by rw [hCf]; exact Proofs.Tryz.func86) Proofs.Tryz.results86 rfl (hR _ _ _ ?_))
                    refine ⟨rfl, ?_⟩
                    simp only [localF, hho, e1', e2, e3', hi2, hpv, h1, h2, h3, h4, h5]
                    rfl
              | true =>
                skip
                refine Ops.indexArr T rfl (by decide) rfl rfl rfl rfl (by decide) (by decide) ?_
                repeat (first | refine Ops.lss rfl (by decide) rfl rfl ?_ | refine Ops.pure T rfl (by decide) rfl ?_ | refine Ops.load 0 rfl (by decide) rfl rfl (T.aggOk rfl) rfl ?_)
                cases h6 : decide ((a1 : Int) < 32) with
                | false =>
                  skip
                  refine Ops.indexArr T rfl (by decide) rfl rfl rfl rfl (by decide) (by decide) ?_
                  repeat (first | refine Ops.eql rfl (by decide) rfl rfl ?_ | refine Ops.pure T rfl (by decide) rfl ?_ | refine Ops.load 0 rfl (by decide) rfl rfl (T.aggOk rfl) rfl ?_)
                  cases h4 : decide ((a0 : Int) = 192) with
                  | false =>
                    repeat (first | refine Ops.nil ?_ | refine Ops.not rfl (by decide) ?_ | refine Ops.pure T rfl (by decide) rfl ?_)
                    refine Run.fin (Run.ret1 (by rw [hCf]; exact Proofs.Tryz.func86) Proofs.Tryz.results86 rfl (hR _ _ _ ?_))
                    refine ⟨rfl, ?_⟩
                    simp only [localF, hho, e1', e2, e3', hi2, hpv, h1, h2, h3, h6, h4]
                    rfl
                  | true =>
                    skip
                    refine Ops.indexArr T rfl (by decide) rfl rfl rfl rfl (by decide) (by decide) ?_
                    repeat (first | refine Ops.nil ?_ | refine Ops.eql rfl (by decide) rfl rfl ?_ | refine Ops.pure T rfl (by decide) rfl ?_ | refine Ops.load 0 rfl (by decide) rfl rfl (T.aggOk rfl) rfl ?_)
                    cases h5 : decide ((a1 : Int) = 168) with
                    | false =>
                      skip
                      refine Run.fin (Run.ret1 (by rw [hCf]; exact Proofs.Tryz.func86) Proofs.Tryz.results86 rfl (hR _ _ _ ?_))
                      refine ⟨rfl, ?_⟩
                      simp only [localF, hho, e1', e2, e3', hi2, hpv, h1, h2, h3, h6, h4, h5]
                      rfl
                    | true =>
                      skip
                      refine Run.fin (Run.ret1 (by rw [hCf]; exact Proofs.Tryz.func86) Proofs.Tryz.results86 rfl (hR _ _ _ ?_))
                      refine ⟨rfl, ?_⟩
                      simp only [localF, hho, e1', e2, e3', hi2, hpv, h1, h2, h3, h6, h4, h5]
                      rfl
                | true =>
                  repeat (first | refine Ops.nil ?_ | refine Ops.not rfl (by decide) ?_ | refine Ops.notU rfl (by decide) ?_ | refine Ops.pure T rfl (by decide) rfl ?_)
                  refine Run.fin (Run.ret1 (by rw [hCf]; exact Proofs.Tryz.func86) Proofs.Tryz.results86 rfl (hR _ _ _ ?_))
                  refine ⟨rfl, ?_⟩
                  simp only [localF, hho, e1', e2, e3', hi2, hpv, h1, h2, h3, h6]
                  rfl
  | some k =>
    rw [ixI_eq hk]
    have hlt := ix_lt hk
    have hho : hostOf s = s.take k := by simp [hostOf, hk]
    repeat (first | refine Run.seq ?_ | refine Run.region ?_ | refine Ops.nil ?_ | refine Run.cond_t rfl ?_ | refine Ops.eqlStr rfl (by decide) rfl rfl ?_ | refine Ops.geq rfl (by decide) rfl rfl ?_ | refine Ops.pure T rfl (by decide) rfl ?_ | refine Ops.sliceStrHi rfl (by decide) (T.undOk rfl) rfl rfl (by first | omega | (simp only [List.length_cons, List.length_nil] ; omega) | (simp; omega)) (by first | omega | (simp only [List.length_cons, List.length_nil] ; omega) | (simp; omega)) ?_)
    rw [decide_eq_true (show (0 : Int) ≤ (k : Int) by omega)]
    skip
    have ek : ((k : Int)).toNat = k := by omega
    rw [ek]
    have hhl : (s.take k : Tx).length ≤ s.length := by first | (simp; done) | (simp; omega) | omega
    skip
    cases e1 : decide ((s.take k) = [108, 111, 99, 97, 108, 104, 111, 115, 116]) with
    | true =>
      have e1' : decide ((s.take k) = localhostT) = true := e1
      repeat (first | refine Run.seq ?_ | refine Run.region ?_ | refine Ops.nil ?_ | refine Run.cond_t rfl ?_ | refine Ops.not rfl (by decide) ?_ | refine Ops.pure T rfl (by decide) rfl ?_)
      refine Run.fin (Run.ret1 (by rw [hCf]; exact Proofs.Tryz.func86) Proofs.Tryz.results86 rfl (hR _ _ _ ?_))
      refine ⟨rfl, ?_⟩
      simp only [localF, hho, e1']
      rfl
    | false =>
    have e1' : decide ((s.take k) = localhostT) = false := e1
    repeat (first | refine Ops.nil ?_ | refine Ops.eqlStr rfl (by decide) rfl rfl ?_ | refine Ops.pure T rfl (by decide) rfl ?_)
    cases e2 : decide ((s.take k) = [49, 50, 55, 46, 48, 46, 48, 46, 49]) with
    | true =>
      repeat (first | refine Run.seq ?_ | refine Run.region ?_ | refine Ops.nil ?_ | refine Run.cond_t rfl ?_ | refine Ops.pure T rfl (by decide) rfl ?_)
      refine Run.fin (Run.ret1 (by rw [hCf]; exact Proofs.Tryz.func86) Proofs.Tryz.results86 rfl (hR _ _ _ ?_))
      refine ⟨rfl, ?_⟩
      simp only [localF, hho, e1', e2]
      rfl
    | false =>
    repeat (first | refine Run.seq ?_ | refine Run.region ?_ | refine Ops.nil ?_ | refine Run.skip ?_ | refine Run.cond_f rfl ?_ | refine Ops.geq rfl (by decide) rfl rfl ?_ | refine Ops.pure T rfl (by decide) rfl ?_ | refine Ops.lenS T rfl (by decide) rfl rfl ?_)
    have esuf : endsT [46, 108, 111, 99, 97, 108, 104, 111, 115, 116] (s.take k) = (decide ((10 : Int) ≤ ((s.take k).length : Int)) && decide ((s.take k).drop ((s.take k).length - 10) = [46, 108, 111, 99, 97, 108, 104, 111, 115, 116])) := by
      unfold endsT
      rw [show decide (([46, 108, 111, 99, 97, 108, 104, 111, 115, 116] : Tx).length ≤ (s.take k).length) = decide ((10 : Int) ≤ ((s.take k).length : Int)) by rw [decide_eq_decide]; simp only [List.length_cons, List.length_nil]; omega]
      rfl
    cases e3 : decide ((10 : Int) ≤ ((s.take k).length : Int)) with
    | false =>
      have e3' : endsT [46, 108, 111, 99, 97, 108, 104, 111, 115, 116] (s.take k) = false := by rw [esuf, e3]; rfl
      repeat (first | refine Run.seq ?_ | refine Run.region ?_ | refine Ops.nil ?_ | refine Run.skip ?_ | refine Run.cond_f rfl ?_ | refine Ops.not rfl (by decide) ?_ | refine Ops.pure T rfl (by decide) rfl ?_)
      refine Ops.call ((spec_quad J1 (s.take k) (by omega))) rfl (by decide) Proofs.Tryz.call105 rfl ?_
      rintro _ J4 l4 ⟨⟨a0, a1, a2, a3⟩, rfl, hq⟩
      repeat (first | refine Ops.pure T rfl (by decide) rfl ?_)
      refine Ops.alloc rfl (by decide) (T.zeroOk rfl) rfl (fun b2 => ?_)
      repeat (first | refine Run.seq ?_ | refine Run.region ?_ | refine Ops.nil ?_ | refine Ops.pure T rfl (by decide) rfl ?_ | refine Ops.store 0 rfl rfl rfl rfl rfl (T.sizeOk rfl) rfl (Nat.le_of_ble_eq_true rfl) rfl rfl ?_)
      cases hi : quadF (s.take k) with
      | none =>
        repeat (first | refine Ops.nil ?_ | refine Ops.not rfl (by decide) ?_ | refine Ops.notU rfl (by decide) ?_ | refine Ops.pure T rfl (by decide) rfl ?_)
        refine Run.fin (Run.ret1 (by rw [hCf]; exact Proofs.Tryz.func86) Proofs.Tryz.results86 rfl (hR _ _ _ ?_))
        refine ⟨rfl, ?_⟩
        simp only [localF, hho, e1', e2, e3', hi]
        rfl
      | some l' =>
        obtain rfl := hq l' hi
        have hpv := pvs a0 a1 a2 a3
        have hi2 : privO (quadF (s.take k)) = privO (some [a0, a1, a2, a3]) := by rw [hi]; rfl
        skip
        refine Ops.indexArr T rfl (by decide) rfl rfl rfl rfl (by decide) (by decide) ?_
        repeat (first | refine Ops.eql rfl (by decide) rfl rfl ?_ | refine Ops.pure T rfl (by decide) rfl ?_ | refine Ops.load 0 rfl (by decide) rfl rfl (T.aggOk rfl) rfl ?_)
        cases h1 : decide ((a0 : Int) = 10) with
        | true =>
          repeat (first | refine Ops.nil ?_ | refine Ops.not rfl (by decide) ?_ | refine Ops.notU rfl (by decide) ?_ | refine Ops.pure T rfl (by decide) rfl ?_)
          refine Run.fin (Run.ret1 (by rw [hCf]; exact Proofs.Tryz.func86) Proofs.Tryz.results86 rfl (hR _ _ _ ?_))
          refine ⟨rfl, ?_⟩
          simp only [localF, hho, e1', e2, e3', hi2, hpv, h1]
          rfl
        | false =>
          skip
          refine Ops.indexArr T rfl (by decide) rfl rfl rfl rfl (by decide) (by decide) ?_
          repeat (first | refine Ops.eql rfl (by decide) rfl rfl ?_ | refine Ops.pure T rfl (by decide) rfl ?_ | refine Ops.load 0 rfl (by decide) rfl rfl (T.aggOk rfl) rfl ?_)
          cases h2 : decide ((a0 : Int) = 172) with
          | false =>
            repeat (first | refine Ops.not rfl (by decide) ?_ | refine Ops.pure T rfl (by decide) rfl ?_)
            refine Ops.indexArr T rfl (by decide) rfl rfl rfl rfl (by decide) (by decide) ?_
            repeat (first | refine Ops.eql rfl (by decide) rfl rfl ?_ | refine Ops.pure T rfl (by decide) rfl ?_ | refine Ops.load 0 rfl (by decide) rfl rfl (T.aggOk rfl) rfl ?_)
            cases h4 : decide ((a0 : Int) = 192) with
            | false =>
              repeat (first | refine Ops.nil ?_ | refine Ops.not rfl (by decide) ?_ | refine Ops.pure T rfl (by decide) rfl ?_)
              refine Run.fin (Run.ret1 (by rw [hCf]; exact Proofs.Tryz.func86) Proofs.Tryz.results86 rfl (hR _ _ _ ?_))
              refine ⟨rfl, ?_⟩
              simp only [localF, hho, e1', e2, e3', hi2, hpv, h1, h2, h4]
              rfl
            | true =>
              skip
              refine Ops.indexArr T rfl (by decide) rfl rfl rfl rfl (by decide) (by decide) ?_
              repeat (first | refine Ops.nil ?_ | refine Ops.eql rfl (by decide) rfl rfl ?_ | refine Ops.pure T rfl (by decide) rfl ?_ | refine Ops.load 0 rfl (by decide) rfl rfl (T.aggOk rfl) rfl ?_)
              cases h5 : decide ((a1 : Int) = 168) with
              | false =>
                skip
                refine Run.fin (Run.ret1 (by rw [hCf]; exact Proofs.Tryz.func86) Proofs.Tryz.results86 rfl (hR _ _ _ ?_))
                refine ⟨rfl, ?_⟩
                simp only [localF, hho, e1', e2, e3', hi2, hpv, h1, h2, h4, h5]
                rfl
              | true =>
                skip
                refine Run.fin (Run.ret1 (by rw [hCf]; exact Proofs.Tryz.func86) Proofs.Tryz.results86 rfl (hR _ _ _ ?_))
                refine ⟨rfl, ?_⟩
                simp only [localF, hho, e1', e2, e3', hi2, hpv, h1, h2, h4, h5]
                rfl
          | true =>
            skip
            refine Ops.indexArr T rfl (by decide) rfl rfl rfl rfl (by decide) (by decide) ?_
            repeat (first | refine Ops.geq rfl (by decide) rfl rfl ?_ | refine Ops.pure T rfl (by decide) rfl ?_ | refine Ops.load 0 rfl (by decide) rfl rfl (T.aggOk rfl) rfl ?_)
            cases h3 : decide ((16 : Int) ≤ (a1 : Int)) with
            | false =>
              repeat (first | refine Ops.not rfl (by decide) ?_ | refine Ops.pure T rfl (by decide) rfl ?_)
              refine Ops.indexArr T rfl (by decide) rfl rfl rfl rfl (by decide) (by decide) ?_
              repeat (first | refine Ops.eql rfl (by decide) rfl rfl ?_ | refine Ops.pure T rfl (by decide) rfl ?_ | refine Ops.load 0 rfl (by decide) rfl rfl (T.aggOk rfl) rfl ?_)
              cases h4 : decide ((a0 : Int) = 192) with
              | false =>
                repeat (first | refine Ops.nil ?_ | refine Ops.not rfl (by decide) ?_ | refine Ops.pure T rfl (by decide) rfl ?_)
                refine Run.fin (Run.ret1 (by rw [hCf]; exact Proofs.Tryz.func86) Proofs.Tryz.results86 rfl (hR _ _ _ ?_))
                refine ⟨rfl, ?_⟩
                simp only [localF, hho, e1', e2, e3', hi2, hpv, h1, h2, h3, h4]
                rfl
              | true =>
                skip
                refine Ops.indexArr T rfl (by decide) rfl rfl rfl rfl (by decide) (by decide) ?_
                repeat (first | refine Ops.nil ?_ | refine Ops.eql rfl (by decide) rfl rfl ?_ | refine Ops.pure T rfl (by decide) rfl ?_ | refine Ops.load 0 rfl (by decide) rfl rfl (T.aggOk rfl) rfl ?_)
                cases h5 : decide ((a1 : Int) = 168) with
                | false =>
                  skip
                  refine Run.fin (Run.ret1 (by rw [hCf]; exact Proofs.Tryz.func86) Proofs.Tryz.results86 rfl (hR _ _ _ ?_))
                  refine ⟨rfl, ?_⟩
                  simp only [localF, hho, e1', e2, e3', hi2, hpv, h1, h2, h3, h4, h5]
                  rfl
                | true =>
                  skip
                  refine Run.fin (Run.ret1 (by rw [hCf]; exact Proofs.Tryz.func86) Proofs.Tryz.results86 rfl (hR _ _ _ ?_))
                  refine ⟨rfl, ?_⟩
                  simp only [localF, hho, e1', e2, e3', hi2, hpv, h1, h2, h3, h4, h5]
                  rfl
            | true =>
              skip
              refine Ops.indexArr T rfl (by decide) rfl rfl rfl rfl (by decide) (by decide) ?_
              repeat (first | refine Ops.lss rfl (by decide) rfl rfl ?_ | refine Ops.pure T rfl (by decide) rfl ?_ | refine Ops.load 0 rfl (by decide) rfl rfl (T.aggOk rfl) rfl ?_)
              cases h6 : decide ((a1 : Int) < 32) with
              | false =>
                skip
                refine Ops.indexArr T rfl (by decide) rfl rfl rfl rfl (by decide) (by decide) ?_
                repeat (first | refine Ops.eql rfl (by decide) rfl rfl ?_ | refine Ops.pure T rfl (by decide) rfl ?_ | refine Ops.load 0 rfl (by decide) rfl rfl (T.aggOk rfl) rfl ?_)
                cases h4 : decide ((a0 : Int) = 192) with
                | false =>
                  repeat (first | refine Ops.nil ?_ | refine Ops.not rfl (by decide) ?_ | refine Ops.pure T rfl (by decide) rfl ?_)
                  refine Run.fin (Run.ret1 (by rw [hCf]; exact Proofs.Tryz.func86) Proofs.Tryz.results86 rfl (hR _ _ _ ?_))
                  refine ⟨rfl, ?_⟩
                  simp only [localF, hho, e1', e2, e3', hi2, hpv, h1, h2, h3, h6, h4]
                  rfl
                | true =>
                  skip
                  refine Ops.indexArr T rfl (by decide) rfl rfl rfl rfl (by decide) (by decide) ?_
                  repeat (first | refine Ops.nil ?_ | refine Ops.eql rfl (by decide) rfl rfl ?_ | refine Ops.pure T rfl (by decide) rfl ?_ | refine Ops.load 0 rfl (by decide) rfl rfl (T.aggOk rfl) rfl ?_)
                  cases h5 : decide ((a1 : Int) = 168) with
                  | false =>
                    skip
                    refine Run.fin (Run.ret1 (by rw [hCf]; exact Proofs.Tryz.func86) Proofs.Tryz.results86 rfl (hR _ _ _ ?_))
                    refine ⟨rfl, ?_⟩
                    simp only [localF, hho, e1', e2, e3', hi2, hpv, h1, h2, h3, h6, h4, h5]
                    rfl
                  | true =>
                    skip
                    refine Run.fin (Run.ret1 (by rw [hCf]; exact Proofs.Tryz.func86) Proofs.Tryz.results86 rfl (hR _ _ _ ?_))
                    refine ⟨rfl, ?_⟩
                    simp only [localF, hho, e1', e2, e3', hi2, hpv, h1, h2, h3, h6, h4, h5]
                    rfl
              | true =>
                repeat (first | refine Ops.nil ?_ | refine Ops.not rfl (by decide) ?_ | refine Ops.notU rfl (by decide) ?_ | refine Ops.pure T rfl (by decide) rfl ?_)
                refine Run.fin (Run.ret1 (by rw [hCf]; exact Proofs.Tryz.func86) Proofs.Tryz.results86 rfl (hR _ _ _ ?_))
                refine ⟨rfl, ?_⟩
                simp only [localF, hho, e1', e2, e3', hi2, hpv, h1, h2, h3, h6]
                rfl
    | true =>
      have e3a := of_decide_eq_true e3
      repeat (first | refine Ops.nil ?_ | refine Ops.eqlStr rfl (by decide) rfl rfl ?_ | refine Ops.sub rfl (by decide) rfl rfl (wI (by first | omega | (simp only [List.length_cons, List.length_nil] ; omega) | (simp; omega)) (by first | omega | (simp only [List.length_cons, List.length_nil] ; omega) | (simp; omega))) ?_ | refine Ops.pure T rfl (by decide) rfl ?_ | refine Ops.sliceStrLo rfl (by decide) (T.undOk rfl) rfl rfl (by first | omega | (simp only [List.length_cons, List.length_nil] ; omega) | (simp; omega)) (by first | omega | (simp only [List.length_cons, List.length_nil] ; omega) | (simp; omega)) ?_)
      have es : (((s.take k).length : Int) - 10).toNat = (s.take k).length - 10 := by omega
      rw [es]
      cases e4 : decide ((s.take k).drop ((s.take k).length - 10) = [46, 108, 111, 99, 97, 108, 104, 111, 115, 116]) with
      | true =>
        have e3' : endsT [46, 108, 111, 99, 97, 108, 104, 111, 115, 116] (s.take k) = true := by rw [esuf, e3, e4]; rfl
        repeat (first | refine Run.seq ?_ | refine Run.region ?_ | refine Ops.nil ?_ | refine Run.cond_t rfl ?_ | refine Ops.pure T rfl (by decide) rfl ?_)
        refine Run.fin (Run.ret1 (by rw [hCf]; exact Proofs.Tryz.func86) Proofs.Tryz.results86 rfl (hR _ _ _ ?_))
        refine ⟨rfl, ?_⟩
        simp only [localF, hho, e1', e2, e3']
        rfl
      | false =>
        have e3' : endsT [46, 108, 111, 99, 97, 108, 104, 111, 115, 116] (s.take k) = false := by rw [esuf, e3, e4]; rfl
        repeat (first | refine Run.seq ?_ | refine Run.region ?_ | refine Run.skip ?_ | refine Run.cond_f rfl ?_ | refine Ops.pure T rfl (by decide) rfl ?_)
        refine Ops.call ((spec_quad J1 (s.take k) (by omega))) rfl (by decide) Proofs.Tryz.call105 rfl ?_
        rintro _ J4 l4 ⟨⟨a0, a1, a2, a3⟩, rfl, hq⟩
        repeat (first | refine Ops.pure T rfl (by decide) rfl ?_)
        refine Ops.alloc rfl (by decide) (T.zeroOk rfl) rfl (fun b2 => ?_)
        repeat (first | refine Run.seq ?_ | refine Run.region ?_ | refine Ops.nil ?_ | refine Ops.pure T rfl (by decide) rfl ?_ | refine Ops.store 0 rfl rfl rfl rfl rfl (T.sizeOk rfl) rfl (Nat.le_of_ble_eq_true rfl) rfl rfl ?_)
        cases hi : quadF (s.take k) with
        | none =>
          repeat (first | refine Ops.nil ?_ | refine Ops.not rfl (by decide) ?_ | refine Ops.notU rfl (by decide) ?_ | refine Ops.pure T rfl (by decide) rfl ?_)
          refine Run.fin (Run.ret1 (by rw [hCf]; exact Proofs.Tryz.func86) Proofs.Tryz.results86 rfl (hR _ _ _ ?_))
          refine ⟨rfl, ?_⟩
          simp only [localF, hho, e1', e2, e3', hi]
          rfl
        | some l' =>
          obtain rfl := hq l' hi
          have hpv := pvs a0 a1 a2 a3
          have hi2 : privO (quadF (s.take k)) = privO (some [a0, a1, a2, a3]) := by rw [hi]; rfl
          skip
          refine Ops.indexArr T rfl (by decide) rfl rfl rfl rfl (by decide) (by decide) ?_
          repeat (first | refine Ops.eql rfl (by decide) rfl rfl ?_ | refine Ops.pure T rfl (by decide) rfl ?_ | refine Ops.load 0 rfl (by decide) rfl rfl (T.aggOk rfl) rfl ?_)
          cases h1 : decide ((a0 : Int) = 10) with
          | true =>
            repeat (first | refine Ops.nil ?_ | refine Ops.not rfl (by decide) ?_ | refine Ops.notU rfl (by decide) ?_ | refine Ops.pure T rfl (by decide) rfl ?_)
            refine Run.fin (Run.ret1 (by rw [hCf]; exact Proofs.Tryz.func86) Proofs.Tryz.results86 rfl (hR _ _ _ ?_))
            refine ⟨rfl, ?_⟩
            simp only [localF, hho, e1', e2, e3', hi2, hpv, h1]
            rfl
          | false =>
            skip
            refine Ops.indexArr T rfl (by decide) rfl rfl rfl rfl (by decide) (by decide) ?_
            repeat (first | refine Ops.eql rfl (by decide) rfl rfl ?_ | refine Ops.pure T rfl (by decide) rfl ?_ | refine Ops.load 0 rfl (by decide) rfl rfl (T.aggOk rfl) rfl ?_)
            cases h2 : decide ((a0 : Int) = 172) with
            | false =>
              repeat (first | refine Ops.not rfl (by decide) ?_ | refine Ops.pure T rfl (by decide) rfl ?_)
              refine Ops.indexArr T rfl (by decide) rfl rfl rfl rfl (by decide) (by decide) ?_
              repeat (first | refine Ops.eql rfl (by decide) rfl rfl ?_ | refine Ops.pure T rfl (by decide) rfl ?_ | refine Ops.load 0 rfl (by decide) rfl rfl (T.aggOk rfl) rfl ?_)
              cases h4 : decide ((a0 : Int) = 192) with
              | false =>
                repeat (first | refine Ops.nil ?_ | refine Ops.not rfl (by decide) ?_ | refine Ops.pure T rfl (by decide) rfl ?_)
                refine Run.fin (Run.ret1 (by rw [hCf]; exact Proofs.Tryz.func86) Proofs.Tryz.results86 rfl (hR _ _ _ ?_))
                refine ⟨rfl, ?_⟩
                simp only [localF, hho, e1', e2, e3', hi2, hpv, h1, h2, h4]
                rfl
              | true =>
                skip
                refine Ops.indexArr T rfl (by decide) rfl rfl rfl rfl (by decide) (by decide) ?_
                repeat (first | refine Ops.nil ?_ | refine Ops.eql rfl (by decide) rfl rfl ?_ | refine Ops.pure T rfl (by decide) rfl ?_ | refine Ops.load 0 rfl (by decide) rfl rfl (T.aggOk rfl) rfl ?_)
                cases h5 : decide ((a1 : Int) = 168) with
                | false =>
                  skip
                  refine Run.fin (Run.ret1 (by rw [hCf]; exact Proofs.Tryz.func86) Proofs.Tryz.results86 rfl (hR _ _ _ ?_))
                  refine ⟨rfl, ?_⟩
                  simp only [localF, hho, e1', e2, e3', hi2, hpv, h1, h2, h4, h5]
                  rfl
                | true =>
                  skip
                  refine Run.fin (Run.ret1 (by rw [hCf]; exact Proofs.Tryz.func86) Proofs.Tryz.results86 rfl (hR _ _ _ ?_))
                  refine ⟨rfl, ?_⟩
                  simp only [localF, hho, e1', e2, e3', hi2, hpv, h1, h2, h4, h5]
                  rfl
            | true =>
              skip
              refine Ops.indexArr T rfl (by decide) rfl rfl rfl rfl (by decide) (by decide) ?_
              repeat (first | refine Ops.geq rfl (by decide) rfl rfl ?_ | refine Ops.pure T rfl (by decide) rfl ?_ | refine Ops.load 0 rfl (by decide) rfl rfl (T.aggOk rfl) rfl ?_)
              cases h3 : decide ((16 : Int) ≤ (a1 : Int)) with
              | false =>
                repeat (first | refine Ops.not rfl (by decide) ?_ | refine Ops.pure T rfl (by decide) rfl ?_)
                refine Ops.indexArr T rfl (by decide) rfl rfl rfl rfl (by decide) (by decide) ?_
                repeat (first | refine Ops.eql rfl (by decide) rfl rfl ?_ | refine Ops.pure T rfl (by decide) rfl ?_ | refine Ops.load 0 rfl (by decide) rfl rfl (T.aggOk rfl) rfl ?_)
                cases h4 : decide ((a0 : Int) = 192) with
                | false =>
                  repeat (first | refine Ops.nil ?_ | refine Ops.not rfl (by decide) ?_ | refine Ops.pure T rfl (by decide) rfl ?_)
                  refine Run.fin (Run.ret1 (by rw [hCf]; exact Proofs.Tryz.func86) Proofs.Tryz.results86 rfl (hR _ _ _ ?_))
                  refine ⟨rfl, ?_⟩
                  simp only [localF, hho, e1', e2, e3', hi2, hpv, h1, h2, h3, h4]
                  rfl
                | true =>
                  skip
                  refine Ops.indexArr T rfl (by decide) rfl rfl rfl rfl (by decide) (by decide) ?_
                  repeat (first | refine Ops.nil ?_ | refine Ops.eql rfl (by decide) rfl rfl ?_ | refine Ops.pure T rfl (by decide) rfl ?_ | refine Ops.load 0 rfl (by decide) rfl rfl (T.aggOk rfl) rfl ?_)
                  cases h5 : decide ((a1 : Int) = 168) with
                  | false =>
                    skip
                    refine Run.fin (Run.ret1 (by rw [hCf]; exact Proofs.Tryz.func86) Proofs.Tryz.results86 rfl (hR _ _ _ ?_))
                    refine ⟨rfl, ?_⟩
                    simp only [localF, hho, e1', e2, e3', hi2, hpv, h1, h2, h3, h4, h5]
                    rfl
                  | true =>
                    skip
                    refine Run.fin (Run.ret1 (by rw [hCf]; exact Proofs.Tryz.func86) Proofs.Tryz.results86 rfl (hR _ _ _ ?_))
                    refine ⟨rfl, ?_⟩
                    simp only [localF, hho, e1', e2, e3', hi2, hpv, h1, h2, h3, h4, h5]
                    rfl
              | true =>
                skip
                refine Ops.indexArr T rfl (by decide) rfl rfl rfl rfl (by decide) (by decide) ?_
                repeat (first | refine Ops.lss rfl (by decide) rfl rfl ?_ | refine Ops.pure T rfl (by decide) rfl ?_ | refine Ops.load 0 rfl (by decide) rfl rfl (T.aggOk rfl) rfl ?_)
                cases h6 : decide ((a1 : Int) < 32) with
                | false =>
                  skip
                  refine Ops.indexArr T rfl (by decide) rfl rfl rfl rfl (by decide) (by decide) ?_
                  repeat (first | refine Ops.eql rfl (by decide) rfl rfl ?_ | refine Ops.pure T rfl (by decide) rfl ?_ | refine Ops.load 0 rfl (by decide) rfl rfl (T.aggOk rfl) rfl ?_)
                  cases h4 : decide ((a0 : Int) = 192) with
                  | false =>
                    repeat (first | refine Ops.nil ?_ | refine Ops.not rfl (by decide) ?_ | refine Ops.pure T rfl (by decide) rfl ?_)
                    refine Run.fin (Run.ret1 (by rw [hCf]; exact Proofs.Tryz.func86) Proofs.Tryz.results86 rfl (hR _ _ _ ?_))
                    refine ⟨rfl, ?_⟩
                    simp only [localF, hho, e1', e2, e3', hi2, hpv, h1, h2, h3, h6, h4]
                    rfl
                  | true =>
                    skip
                    refine Ops.indexArr T rfl (by decide) rfl rfl rfl rfl (by decide) (by decide) ?_
                    repeat (first | refine Ops.nil ?_ | refine Ops.eql rfl (by decide) rfl rfl ?_ | refine Ops.pure T rfl (by decide) rfl ?_ | refine Ops.load 0 rfl (by decide) rfl rfl (T.aggOk rfl) rfl ?_)
                    cases h5 : decide ((a1 : Int) = 168) with
                    | false =>
                      skip
                      refine Run.fin (Run.ret1 (by rw [hCf]; exact Proofs.Tryz.func86) Proofs.Tryz.results86 rfl (hR _ _ _ ?_))
                      refine ⟨rfl, ?_⟩
                      simp only [localF, hho, e1', e2, e3', hi2, hpv, h1, h2, h3, h6, h4, h5]
                      rfl
                    | true =>
                      skip
                      refine Run.fin (Run.ret1 (by rw [hCf]; exact Proofs.Tryz.func86) Proofs.Tryz.results86 rfl (hR _ _ _ ?_))
                      refine ⟨rfl, ?_⟩
                      simp only [localF, hho, e1', e2, e3', hi2, hpv, h1, h2, h3, h6, h4, h5]
                      rfl
                | true =>
                  repeat (first | refine Ops.nil ?_ | refine Ops.not rfl (by decide) ?_ | refine Ops.notU rfl (by decide) ?_ | refine Ops.pure T rfl (by decide) rfl ?_)
                  refine Run.fin (Run.ret1 (by rw [hCf]; exact Proofs.Tryz.func86) Proofs.Tryz.results86 rfl (hR _ _ _ ?_))
                  refine ⟨rfl, ?_⟩
                  simp only [localF, hho, e1', e2, e3', hi2, hpv, h1, h2, h3, h6]
                  rfl
end Go.V
/-
  A name made, as the document's function does.
-/
namespace Go.V
open Go.RowKit
set_option linter.unusedVariables false
set_option linter.unusedSimpArgs false
set_option maxRecDepth 10000
attribute [local irreducible] Run Ops
theorem Ops.own {P : Program} {n : Nat} {C : Cx} {ops : Array Oper} {i : Nat} {l : List Oper} {k : List Item} {env : Env} {L L' : Own} {I : Imm} (h : L = L') (hr : Ops P n C ops i l k env L' I) : Ops P n C ops i l k env L I := by subst h; exact hr
set_option maxHeartbeats 8000000 in
theorem spec_named (I : Imm) (kind : Int) (r p id text : Tx) (st ins : Bool) (reg tag : Tx) (hk : kind = 1 ∨ kind = 2 ∨ kind = 3 ∨ kind = 4) (hr : r.length ≤ 1099511627776) (hp : p.length ≤ 1099511627776) (hid : id.length ≤ 1099511627776) :
    Pure Proofs.Tryz.prog 36 [.int .i64 kind, str r, str p, str id, str text, .agg (NOpt.mk st ins reg tag).cs.toArray] I fun w J => w = .agg (nmd (ins || localF r) kind r p id text).cs.toArray := by
  rcases hk with rfl | rfl | rfl | rfl
  · skip
    refine Spec.enter 73 [(0, _), (1, _), (2, _), (3, _), (4, _), (5, _)] Proofs.Tryz.func36 rfl Proofs.Tryz.ntmps36 (by simp) rfl ?_
    intro C hCf hR hCI
    repeat (first | refine Run.seq ?_ | refine Run.region ?_)
    refine Ops.box rfl (by decide) rfl rfl (fun b1 => ?_)
    refine Ops.alloc rfl (by decide) (T.zeroOk rfl) rfl (fun b2 => ?_)
    repeat (first | refine Run.seq ?_ | refine Run.region ?_ | refine Ops.nil ?_ | refine Ops.pure T rfl (by decide) rfl ?_)
    refine Ops.buildL (vs := [(0, .int .i64 1), (1, str r), (2, str p), (3, str id), (5, str text), (6, str [104, 116, 116, 112, 115])]) (cs := [.int .i64 1, str r, str p, str id, str [], str text, str [104, 116, 116, 112, 115], str [], str [], str [], str []]) bd26 rfl (by decide) (by kernel_rfl) (by kernel_rfl) ?_
    refine Ops.alloc rfl (by decide) (T.zeroOk rfl) rfl (fun b3 => ?_)
    repeat (first | refine Run.seq ?_ | refine Run.region ?_ | refine Ops.nil ?_ | refine Run.skip ?_ | refine Run.block ?_ | refine Run.inBlock ?_ | refine Run.cond_t rfl ?_ | refine Run.cond_f rfl ?_ | refine Ops.cat rfl (by decide) rfl rfl (by first | omega | (simp only [List.length_cons, List.length_nil] ; omega) | (simp; omega)) ?_ | refine Ops.eql rfl (by decide) rfl rfl ?_ | refine Ops.geq rfl (by decide) rfl rfl ?_ | refine Ops.pure T rfl (by decide) rfl ?_ | refine Ops.load 2 rfl (by decide) rfl rfl (T.aggOk rfl) rfl ?_ | refine Ops.store 0 rfl rfl rfl rfl rfl (T.sizeOk rfl) rfl (Nat.le_of_ble_eq_true rfl) rfl rfl ?_)
    refine Ops.own (L' := [(b3, blk [.int .i64 1, str r, str p, str id, str r, str r, str [104, 116, 116, 112, 115], str [114, 101, 103, 105, 115, 116, 114, 121, 58, 99, 97, 116, 97, 108, 111, 103, 58, 42], str [], str [], str []] 26), (b2, blk [.int .i64 0, str [], str [], str [], str [], str [], str [], str [], str [], str [], str []] 26), (b1, blk [.bool st, .bool ins, str reg, str tag] 30)]) (by kernel_rfl) ?_
    cases hins : ins with
    | true =>
      repeat (first | refine Run.seq ?_ | refine Run.region ?_ | refine Ops.nil ?_ | refine Run.cond_t rfl ?_ | refine Ops.not rfl (by decide) ?_ | refine Ops.pure T rfl (by decide) rfl ?_ | refine Ops.loadN 0 rfl (by decide) rfl rfl (T.aggOk rfl) (T.sizeOk rfl) rfl rfl ?_ | refine Ops.store 0 rfl rfl rfl rfl rfl (T.sizeOk rfl) rfl (Nat.le_of_ble_eq_true rfl) rfl rfl ?_ | refine Ops.store 1 rfl rfl rfl rfl rfl (T.sizeOk rfl) rfl (Nat.le_of_ble_eq_true rfl) rfl rfl ?_)
      refine Run.retC T 1 (by rw [hCf]; exact Proofs.Tryz.func36) Proofs.Tryz.results36 rfl rfl rfl rfl rfl rfl (hR _ _ _ ?_)
      exact ⟨rfl, by simp only [hins]; rfl⟩
    | false =>
      repeat (first | refine Ops.pure T rfl (by decide) rfl ?_)
      refine Ops.call ((spec_Local I r (by omega))) rfl (by decide) Proofs.Tryz.call86 rfl ?_
      rintro _ J3 l3 rfl
      repeat (first | refine Ops.nil ?_ | refine Ops.pure T rfl (by decide) rfl ?_)
      cases hloc : localF r with
      | true =>
        repeat (first | refine Run.seq ?_ | refine Run.region ?_ | refine Ops.nil ?_ | refine Run.cond_t rfl ?_ | refine Ops.pure T rfl (by decide) rfl ?_ | refine Ops.loadN 0 rfl (by decide) rfl rfl (T.aggOk rfl) (T.sizeOk rfl) rfl rfl ?_ | refine Ops.store 0 rfl rfl rfl rfl rfl (T.sizeOk rfl) rfl (Nat.le_of_ble_eq_true rfl) rfl rfl ?_ | refine Ops.store 1 rfl rfl rfl rfl rfl (T.sizeOk rfl) rfl (Nat.le_of_ble_eq_true rfl) rfl rfl ?_)
        refine Run.retC T 1 (by rw [hCf]; exact Proofs.Tryz.func36) Proofs.Tryz.results36 rfl rfl rfl rfl rfl rfl (hR _ _ _ ?_)
        exact ⟨rfl, by simp only [hins, hloc]; rfl⟩
      | false =>
        repeat (first | refine Run.seq ?_ | refine Run.region ?_ | refine Ops.nil ?_ | refine Run.skip ?_ | refine Run.cond_f rfl ?_ | refine Ops.loadN 0 rfl (by decide) rfl rfl (T.aggOk rfl) (T.sizeOk rfl) rfl rfl ?_ | refine Ops.store 1 rfl rfl rfl rfl rfl (T.sizeOk rfl) rfl (Nat.le_of_ble_eq_true rfl) rfl rfl ?_)
        refine Run.retC T 1 (by rw [hCf]; exact Proofs.Tryz.func36) Proofs.Tryz.results36 rfl rfl rfl rfl rfl rfl (hR _ _ _ ?_)
        exact ⟨rfl, by simp only [hins, hloc]; rfl⟩
  · skip
    refine Spec.enter 73 [(0, _), (1, _), (2, _), (3, _), (4, _), (5, _)] Proofs.Tryz.func36 rfl Proofs.Tryz.ntmps36 (by simp) rfl ?_
    intro C hCf hR hCI
    repeat (first | refine Run.seq ?_ | refine Run.region ?_)
    refine Ops.box rfl (by decide) rfl rfl (fun b1 => ?_)
    refine Ops.alloc rfl (by decide) (T.zeroOk rfl) rfl (fun b2 => ?_)
    repeat (first | refine Run.seq ?_ | refine Run.region ?_ | refine Ops.nil ?_ | refine Ops.pure T rfl (by decide) rfl ?_)
    refine Ops.buildL (vs := [(0, .int .i64 2), (1, str r), (2, str p), (3, str id), (5, str text), (6, str [104, 116, 116, 112, 115])]) (cs := [.int .i64 2, str r, str p, str id, str [], str text, str [104, 116, 116, 112, 115], str [], str [], str [], str []]) bd26 rfl (by decide) (by kernel_rfl) (by kernel_rfl) ?_
    refine Ops.alloc rfl (by decide) (T.zeroOk rfl) rfl (fun b3 => ?_)
    repeat (first | refine Run.seq ?_ | refine Run.region ?_ | refine Ops.nil ?_ | refine Run.skip ?_ | refine Run.block ?_ | refine Run.inBlock ?_ | refine Run.cond_t rfl ?_ | refine Run.cond_f rfl ?_ | refine Ops.cat rfl (by decide) rfl rfl (by first | omega | (simp only [List.length_cons, List.length_nil] ; omega) | (simp; omega)) ?_ | refine Ops.eql rfl (by decide) rfl rfl ?_ | refine Ops.geq rfl (by decide) rfl rfl ?_ | refine Ops.pure T rfl (by decide) rfl ?_ | refine Ops.load 2 rfl (by decide) rfl rfl (T.aggOk rfl) rfl ?_ | refine Ops.store 0 rfl rfl rfl rfl rfl (T.sizeOk rfl) rfl (Nat.le_of_ble_eq_true rfl) rfl rfl ?_)
    refine Ops.own (L' := [(b3, blk [.int .i64 2, str r, str p, str id, str (repoT r p), str (repoT r p), str [104, 116, 116, 112, 115], str (scopeT p), str [], str [], str []] 26), (b2, blk [.int .i64 0, str [], str [], str [], str [], str [], str [], str [], str [], str [], str []] 26), (b1, blk [.bool st, .bool ins, str reg, str tag] 30)]) (by kernel_rfl) ?_
    cases hins : ins with
    | true =>
      repeat (first | refine Run.seq ?_ | refine Run.region ?_ | refine Ops.nil ?_ | refine Run.cond_t rfl ?_ | refine Ops.not rfl (by decide) ?_ | refine Ops.pure T rfl (by decide) rfl ?_ | refine Ops.loadN 0 rfl (by decide) rfl rfl (T.aggOk rfl) (T.sizeOk rfl) rfl rfl ?_ | refine Ops.store 0 rfl rfl rfl rfl rfl (T.sizeOk rfl) rfl (Nat.le_of_ble_eq_true rfl) rfl rfl ?_ | refine Ops.store 1 rfl rfl rfl rfl rfl (T.sizeOk rfl) rfl (Nat.le_of_ble_eq_true rfl) rfl rfl ?_)
      refine Run.retC T 1 (by rw [hCf]; exact Proofs.Tryz.func36) Proofs.Tryz.results36 rfl rfl rfl rfl rfl rfl (hR _ _ _ ?_)
      exact ⟨rfl, by simp only [hins]; rfl⟩
    | false =>
      repeat (first | refine Ops.pure T rfl (by decide) rfl ?_)
      refine Ops.call ((spec_Local I r (by omega))) rfl (by decide) Proofs.Tryz.call86 rfl ?_
      rintro _ J3 l3 rfl
      repeat (first | refine Ops.nil ?_ | refine Ops.pure T rfl (by decide) rfl ?_)
      cases hloc : localF r with
      | true =>
        repeat (first | refine Run.seq ?_ | refine Run.region ?_ | refine Ops.nil ?_ | refine Run.cond_t rfl ?_ | refine Ops.pure T rfl (by decide) rfl ?_ | refine Ops.loadN 0 rfl (by decide) rfl rfl (T.aggOk rfl) (T.sizeOk rfl) rfl rfl ?_ | refine Ops.store 0 rfl rfl rfl rfl rfl (T.sizeOk rfl) rfl (Nat.le_of_ble_eq_true rfl) rfl rfl ?_ | refine Ops.store 1 rfl rfl rfl rfl rfl (T.sizeOk rfl) rfl (Nat.le_of_ble_eq_true rfl) rfl rfl ?_)
        refine Run.retC T 1 (by rw [hCf]; exact Proofs.Tryz.func36) Proofs.Tryz.results36 rfl rfl rfl rfl rfl rfl (hR _ _ _ ?_)
        exact ⟨rfl, by simp only [hins, hloc]; rfl⟩
      | false =>
        repeat (first | refine Run.seq ?_ | refine Run.region ?_ | refine Ops.nil ?_ | refine Run.skip ?_ | refine Run.cond_f rfl ?_ | refine Ops.loadN 0 rfl (by decide) rfl rfl (T.aggOk rfl) (T.sizeOk rfl) rfl rfl ?_ | refine Ops.store 1 rfl rfl rfl rfl rfl (T.sizeOk rfl) rfl (Nat.le_of_ble_eq_true rfl) rfl rfl ?_)
        refine Run.retC T 1 (by rw [hCf]; exact Proofs.Tryz.func36) Proofs.Tryz.results36 rfl rfl rfl rfl rfl rfl (hR _ _ _ ?_)
        exact ⟨rfl, by simp only [hins, hloc]; rfl⟩
  · skip
    refine Spec.enter 73 [(0, _), (1, _), (2, _), (3, _), (4, _), (5, _)] Proofs.Tryz.func36 rfl Proofs.Tryz.ntmps36 (by simp) rfl ?_
    intro C hCf hR hCI
    repeat (first | refine Run.seq ?_ | refine Run.region ?_)
    refine Ops.box rfl (by decide) rfl rfl (fun b1 => ?_)
    refine Ops.alloc rfl (by decide) (T.zeroOk rfl) rfl (fun b2 => ?_)
    repeat (first | refine Run.seq ?_ | refine Run.region ?_ | refine Ops.nil ?_ | refine Ops.pure T rfl (by decide) rfl ?_)
    refine Ops.buildL (vs := [(0, .int .i64 3), (1, str r), (2, str p), (3, str id), (5, str text), (6, str [104, 116, 116, 112, 115])]) (cs := [.int .i64 3, str r, str p, str id, str [], str text, str [104, 116, 116, 112, 115], str [], str [], str [], str []]) bd26 rfl (by decide) (by kernel_rfl) (by kernel_rfl) ?_
    refine Ops.alloc rfl (by decide) (T.zeroOk rfl) rfl (fun b3 => ?_)
    repeat (first | refine Run.seq ?_ | refine Run.region ?_ | refine Ops.nil ?_ | refine Run.block ?_ | refine Run.inBlock ?_ | refine Run.cond_t rfl ?_ | refine Run.cond_f rfl ?_ | refine Ops.cat rfl (by decide) rfl rfl (by first | omega | (simp only [List.length_cons, List.length_nil] ; omega) | (simp; omega)) ?_ | refine Ops.eql rfl (by decide) rfl rfl ?_ | refine Ops.geq rfl (by decide) rfl rfl ?_ | refine Ops.pure T rfl (by decide) rfl ?_ | refine Ops.load 2 rfl (by decide) rfl rfl (T.aggOk rfl) rfl ?_ | refine Ops.store 0 rfl rfl rfl rfl rfl (T.sizeOk rfl) rfl (Nat.le_of_ble_eq_true rfl) rfl rfl ?_)
    refine Ops.own (L' := [(b3, blk [.int .i64 3, str r, str p, str id, str (repoT r p ++ [58] ++ id), str text, str [104, 116, 116, 112, 115], str (scopeT p), str (repoT r p), str (repoT r p), str r] 26), (b2, blk [.int .i64 0, str [], str [], str [], str [], str [], str [], str [], str [], str [], str []] 26), (b1, blk [.bool st, .bool ins, str reg, str tag] 30)]) (by kernel_rfl) ?_
    cases hins : ins with
    | true =>
      repeat (first | refine Run.seq ?_ | refine Run.region ?_ | refine Ops.nil ?_ | refine Run.cond_t rfl ?_ | refine Ops.not rfl (by decide) ?_ | refine Ops.pure T rfl (by decide) rfl ?_ | refine Ops.loadN 0 rfl (by decide) rfl rfl (T.aggOk rfl) (T.sizeOk rfl) rfl rfl ?_ | refine Ops.store 0 rfl rfl rfl rfl rfl (T.sizeOk rfl) rfl (Nat.le_of_ble_eq_true rfl) rfl rfl ?_ | refine Ops.store 1 rfl rfl rfl rfl rfl (T.sizeOk rfl) rfl (Nat.le_of_ble_eq_true rfl) rfl rfl ?_)
      refine Run.retC T 1 (by rw [hCf]; exact Proofs.Tryz.func36) Proofs.Tryz.results36 rfl rfl rfl rfl rfl rfl (hR _ _ _ ?_)
      exact ⟨rfl, by simp only [hins]; rfl⟩
    | false =>
      repeat (first | refine Ops.pure T rfl (by decide) rfl ?_)
      refine Ops.call ((spec_Local I r (by omega))) rfl (by decide) Proofs.Tryz.call86 rfl ?_
      rintro _ J3 l3 rfl
      repeat (first | refine Ops.nil ?_ | refine Ops.pure T rfl (by decide) rfl ?_)
      cases hloc : localF r with
      | true =>
        repeat (first | refine Run.seq ?_ | refine Run.region ?_ | refine Ops.nil ?_ | refine Run.cond_t rfl ?_ | refine Ops.pure T rfl (by decide) rfl ?_ | refine Ops.loadN 0 rfl (by decide) rfl rfl (T.aggOk rfl) (T.sizeOk rfl) rfl rfl ?_ | refine Ops.store 0 rfl rfl rfl rfl rfl (T.sizeOk rfl) rfl (Nat.le_of_ble_eq_true rfl) rfl rfl ?_ | refine Ops.store 1 rfl rfl rfl rfl rfl (T.sizeOk rfl) rfl (Nat.le_of_ble_eq_true rfl) rfl rfl ?_)
        refine Run.retC T 1 (by rw [hCf]; exact Proofs.Tryz.func36) Proofs.Tryz.results36 rfl rfl rfl rfl rfl rfl (hR _ _ _ ?_)
        exact ⟨rfl, by simp only [hins, hloc]; rfl⟩
      | false =>
        repeat (first | refine Run.seq ?_ | refine Run.region ?_ | refine Ops.nil ?_ | refine Run.skip ?_ | refine Run.cond_f rfl ?_ | refine Ops.loadN 0 rfl (by decide) rfl rfl (T.aggOk rfl) (T.sizeOk rfl) rfl rfl ?_ | refine Ops.store 1 rfl rfl rfl rfl rfl (T.sizeOk rfl) rfl (Nat.le_of_ble_eq_true rfl) rfl rfl ?_)
        refine Run.retC T 1 (by rw [hCf]; exact Proofs.Tryz.func36) Proofs.Tryz.results36 rfl rfl rfl rfl rfl rfl (hR _ _ _ ?_)
        exact ⟨rfl, by simp only [hins, hloc]; rfl⟩
  · skip
    refine Spec.enter 73 [(0, _), (1, _), (2, _), (3, _), (4, _), (5, _)] Proofs.Tryz.func36 rfl Proofs.Tryz.ntmps36 (by simp) rfl ?_
    intro C hCf hR hCI
    repeat (first | refine Run.seq ?_ | refine Run.region ?_)
    refine Ops.box rfl (by decide) rfl rfl (fun b1 => ?_)
    refine Ops.alloc rfl (by decide) (T.zeroOk rfl) rfl (fun b2 => ?_)
    repeat (first | refine Run.seq ?_ | refine Run.region ?_ | refine Ops.nil ?_ | refine Ops.pure T rfl (by decide) rfl ?_)
    refine Ops.buildL (vs := [(0, .int .i64 4), (1, str r), (2, str p), (3, str id), (5, str text), (6, str [104, 116, 116, 112, 115])]) (cs := [.int .i64 4, str r, str p, str id, str [], str text, str [104, 116, 116, 112, 115], str [], str [], str [], str []]) bd26 rfl (by decide) (by kernel_rfl) (by kernel_rfl) ?_
    refine Ops.alloc rfl (by decide) (T.zeroOk rfl) rfl (fun b3 => ?_)
    repeat (first | refine Run.seq ?_ | refine Run.region ?_ | refine Ops.nil ?_ | refine Run.block ?_ | refine Run.inBlock ?_ | refine Run.cond_t rfl ?_ | refine Run.cond_f rfl ?_ | refine Ops.cat rfl (by decide) rfl rfl (by first | omega | (simp only [List.length_cons, List.length_nil] ; omega) | (simp; omega)) ?_ | refine Ops.eql rfl (by decide) rfl rfl ?_ | refine Ops.geq rfl (by decide) rfl rfl ?_ | refine Ops.pure T rfl (by decide) rfl ?_ | refine Ops.load 2 rfl (by decide) rfl rfl (T.aggOk rfl) rfl ?_ | refine Ops.store 0 rfl rfl rfl rfl rfl (T.sizeOk rfl) rfl (Nat.le_of_ble_eq_true rfl) rfl rfl ?_)
    refine Ops.own (L' := [(b3, blk [.int .i64 4, str r, str p, str id, str (repoT r p ++ [64] ++ id), str text, str [104, 116, 116, 112, 115], str (scopeT p), str (repoT r p), str (repoT r p), str r] 26), (b2, blk [.int .i64 0, str [], str [], str [], str [], str [], str [], str [], str [], str [], str []] 26), (b1, blk [.bool st, .bool ins, str reg, str tag] 30)]) (by kernel_rfl) ?_
    cases hins : ins with
    | true =>
      repeat (first | refine Run.seq ?_ | refine Run.region ?_ | refine Ops.nil ?_ | refine Run.cond_t rfl ?_ | refine Ops.not rfl (by decide) ?_ | refine Ops.pure T rfl (by decide) rfl ?_ | refine Ops.loadN 0 rfl (by decide) rfl rfl (T.aggOk rfl) (T.sizeOk rfl) rfl rfl ?_ | refine Ops.store 0 rfl rfl rfl rfl rfl (T.sizeOk rfl) rfl (Nat.le_of_ble_eq_true rfl) rfl rfl ?_ | refine Ops.store 1 rfl rfl rfl rfl rfl (T.sizeOk rfl) rfl (Nat.le_of_ble_eq_true rfl) rfl rfl ?_)
      refine Run.retC T 1 (by rw [hCf]; exact Proofs.Tryz.func36) Proofs.Tryz.results36 rfl rfl rfl rfl rfl rfl (hR _ _ _ ?_)
      exact ⟨rfl, by simp only [hins]; rfl⟩
    | false =>
      repeat (first | refine Ops.pure T rfl (by decide) rfl ?_)
      refine Ops.call ((spec_Local I r (by omega))) rfl (by decide) Proofs.Tryz.call86 rfl ?_
      rintro _ J3 l3 rfl
      repeat (first | refine Ops.nil ?_ | refine Ops.pure T rfl (by decide) rfl ?_)
      cases hloc : localF r with
      | true =>
        repeat (first | refine Run.seq ?_ | refine Run.region ?_ | refine Ops.nil ?_ | refine Run.cond_t rfl ?_ | refine Ops.pure T rfl (by decide) rfl ?_ | refine Ops.loadN 0 rfl (by decide) rfl rfl (T.aggOk rfl) (T.sizeOk rfl) rfl rfl ?_ | refine Ops.store 0 rfl rfl rfl rfl rfl (T.sizeOk rfl) rfl (Nat.le_of_ble_eq_true rfl) rfl rfl ?_ | refine Ops.store 1 rfl rfl rfl rfl rfl (T.sizeOk rfl) rfl (Nat.le_of_ble_eq_true rfl) rfl rfl ?_)
        refine Run.retC T 1 (by rw [hCf]; exact Proofs.Tryz.func36) Proofs.Tryz.results36 rfl rfl rfl rfl rfl rfl (hR _ _ _ ?_)
        exact ⟨rfl, by simp only [hins, hloc]; rfl⟩
      | false =>
        repeat (first | refine Run.seq ?_ | refine Run.region ?_ | refine Ops.nil ?_ | refine Run.skip ?_ | refine Run.cond_f rfl ?_ | refine Ops.loadN 0 rfl (by decide) rfl rfl (T.aggOk rfl) (T.sizeOk rfl) rfl rfl ?_ | refine Ops.store 1 rfl rfl rfl rfl rfl (T.sizeOk rfl) rfl (Nat.le_of_ble_eq_true rfl) rfl rfl ?_)
        refine Run.retC T 1 (by rw [hCf]; exact Proofs.Tryz.func36) Proofs.Tryz.results36 rfl rfl rfl rfl rfl rfl (hR _ _ _ ?_)
        exact ⟨rfl, by simp only [hins, hloc]; rfl⟩
end Go.V
/-
  How long the parts of a name are: plain Lean.
-/
namespace Go.V
set_option linter.unusedVariables false
set_option linter.unusedSimpArgs false
set_option maxRecDepth 10000
theorem plain_len {s : Tx} (h1 : hostPlain s = true) : s.length ≤ 306 := by
  unfold hostPlain at h1
  cases hk : ix 58 s with
  | none =>
    rw [hk] at h1
    simp only [hp, Bool.and_eq_true] at h1
    have := (sWithin_all h1.1).2.2
    omega
  | some k =>
    rw [hk] at h1
    simp only [hp, Bool.and_eq_true] at h1
    have a1 := (sWithin_all h1.1).2.2
    have a2 := (sWithin_all h1.2.1).2.2
    have := ix_lt hk
    simp at a1 a2
    omega
theorem sRepo_len {b : Bool} {reg s r p : Tx} (hr : regOk reg) (h : sRepo b reg s = (r, p, true, false)) : hostPlain r = true ∧ r ≠ [] ∧ p.length ≤ 263 := by
  obtain ⟨g1, g2, g3, g4, g5⟩ := sRepo_ok hr h
  refine ⟨g1.plain, g1.ne, ?_⟩
  rw [g5]
  have := fullP_len r (hostCut s).2
  have := (sWithin_all (show sWithin (hostCut s).2 (smallT ++ [47]) 1 255 = true from g4)).2.2
  omega
def PartsOk (r p t : Tx) : Prop := hostPlain r = true ∧ r ≠ [] ∧ p.length ≤ 263 ∧ t.length ≤ 200
theorem sTag_len {o : NOpt} {s r p t : Tx} (hr : regOk o.reg) (ht : o.tag.length ≤ 200) (h : sTag o s = (r, p, t, true, false)) : PartsOk r p t := by
  unfold sTag at h
  split at h
  · split at h
    · rename_i hg
      simp only [Prod.mk.injEq] at h
      obtain ⟨h1, h2, rfl, h4, h5⟩ := h
      obtain ⟨g1, g2, g3⟩ := sRepo_len hr (show sRepo o.strict o.reg _ = (r, p, true, false) from Prod.ext h1 (Prod.ext h2 (Prod.ext h4 h5)))
      have := (sWithin_all hg).2.2
      exact ⟨g1, g2, g3, by omega⟩
    · simp at h
  · split at h
    · simp at h
    · simp only [Prod.mk.injEq] at h
      obtain ⟨h1, h2, rfl, h4, h5⟩ := h
      obtain ⟨g1, g2, g3⟩ := sRepo_len hr (show sRepo o.strict o.reg s = (r, p, true, false) from Prod.ext h1 (Prod.ext h2 (Prod.ext h4 h5)))
      refine ⟨g1, g2, g3, ?_⟩
      unfold tagOr
      split
      · decide
      · exact ht
theorem sDig_len {o : NOpt} {s r p t : Tx} (hr : regOk o.reg) (h : sDig o s = (r, p, t, true, false)) : PartsOk r p t := by
  have h0 := (sDig_ok hr h).2.2
  unfold sDig at h
  split at h
  · simp at h
  · split at h
    · split at h
      · rename_i hg
        simp only [Prod.mk.injEq, Bool.or_eq_false_iff] at h
        obtain ⟨h1, h2, rfl, h4, h5, h6⟩ := h
        obtain ⟨g1, g2, g3⟩ := sRepo_len hr (show sRepo o.strict o.reg _ = (r, p, true, false) from Prod.ext h1 (Prod.ext h2 (Prod.ext h4 h5)))
        refine ⟨g1, g2, g3, ?_⟩
        simp only [digGood, Bool.and_eq_true, decide_eq_true_eq] at h0
        omega
      · simp at h
    · simp at h
theorem sParts_len {o : NOpt} {which k : Int} {s r p t : Tx} (hr : regOk o.reg) (ht : o.tag.length ≤ 200) (h : sParts o which s = (k, r, p, t, true, false)) : PartsOk r p t ∧ (k = 1 ∨ k = 2 ∨ k = 3 ∨ k = 4) := by
  unfold sParts at h
  split at h
  · simp only [Prod.mk.injEq] at h
    obtain ⟨rfl, h1, rfl, rfl, h4, h5⟩ := h
    obtain ⟨g1, g2, g3, _⟩ := sReg_ok hr (show sReg o.strict o.reg s = (r, true, false) from Prod.ext h1 (Prod.ext h4 h5))
    exact ⟨⟨g1, g3, by decide, by decide⟩, by decide⟩
  split at h
  · simp only [Prod.mk.injEq] at h
    obtain ⟨rfl, h1, h2, rfl, h4, h5⟩ := h
    obtain ⟨g1, g2, g3⟩ := sRepo_len hr (show sRepo o.strict o.reg s = (r, p, true, false) from Prod.ext h1 (Prod.ext h2 (Prod.ext h4 h5)))
    exact ⟨⟨g1, g2, g3, by decide⟩, by decide⟩
  split at h
  · simp only [Prod.mk.injEq] at h
    obtain ⟨rfl, h1, h2, h3, h4, h5⟩ := h
    exact ⟨sTag_len hr ht (show sTag o s = (r, p, t, true, false) from Prod.ext h1 (Prod.ext h2 (Prod.ext h3 (Prod.ext h4 h5)))), by decide⟩
  split at h
  · simp only [Prod.mk.injEq] at h
    obtain ⟨rfl, h1, h2, h3, h4, h5⟩ := h
    exact ⟨sDig_len hr (show sDig o s = (r, p, t, true, false) from Prod.ext h1 (Prod.ext h2 (Prod.ext h3 (Prod.ext h4 h5)))), by decide⟩
  · simp only at h
    split at h
    · simp only [Prod.mk.injEq] at h
      obtain ⟨rfl, h1, h2, h3, h4, h5⟩ := h
      exact ⟨sDig_len hr (show sDig o s = (r, p, t, true, false) from Prod.ext h1 (Prod.ext h2 (Prod.ext h3 (Prod.ext h4 h5)))), by decide⟩
    · simp only [Prod.mk.injEq] at h
      obtain ⟨rfl, h1, h2, h3, h4, h5⟩ := h
      exact ⟨sTag_len hr ht (show sTag o s = (r, p, t, true, false) from Prod.ext h1 (Prod.ext h2 (Prod.ext h3 (Prod.ext h4 h5)))), by decide⟩
end Go.V
