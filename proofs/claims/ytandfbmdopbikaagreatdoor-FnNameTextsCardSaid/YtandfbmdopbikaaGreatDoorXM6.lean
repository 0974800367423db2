import Derived.Test.YtandfbmdopbikaaGreatDoorXM5
import Derived.Test.YtandfbmdopbikaaGreatDoorXM3
import Derived.Test.YtandfbmdopbikaaGreatDoorXM4
namespace Go.V
open Go.Proofs.Tryz
open Go.RowKit
set_option linter.unusedVariables false
set_option linter.unusedSimpArgs false
set_option maxRecDepth 10000
attribute [local irreducible] Run Ops
def u8 (c : UInt8) : Value := .int .u8 (c.toNat : Int)
set_option maxHeartbeats 400000 in
theorem name_zzIndex (s : List UInt8) (c : UInt8) (I : Imm) (hs : s.length ≤ 4620000000000000000) :
    Pure prog 98 [str s, str [c]] I fun v _ => v = .int .i64 (ixI c s) := by
  refine Spec.enter 25 [(0, _), (1, _)] func98 rfl ntmps98 (by simp) rfl ?_
  intro C hCf hR hCI
  repeat (first | refine Run.seq ?_ | refine Run.region ?_ | refine Ops.nil ?_ | refine Run.block ?_ | refine Ops.pure T rfl (by decide) rfl ?_)
  refine Run.keep [0, 1, 5] [_, _, _] rfl ?_
  refine Run.rounds (fun m env L J => ∃ i : Nat, m = s.length - i ∧ i ≤ s.length ∧ ix c s = (ix c (s.drop i)).map (· + i) ∧ env = [(0, str s), (1, str [c]), (5, .int .i64 i)] ∧ L = [] ∧ J = I) s.length ⟨0, by omega, by omega, by simp, rfl, rfl, rfl⟩ ?_
  rintro m env L J ⟨i, rfl, hi, hix, rfl, rfl, rfl⟩ ih
  repeat (first | refine Run.seq ?_ | refine Run.region ?_ | refine Ops.nil ?_ | refine Ops.add rfl (by decide) rfl rfl (wI (by first | omega | (simp only [List.length_cons, List.length_nil] ; omega) | (simp; omega)) (by first | omega | (simp only [List.length_cons, List.length_nil] ; omega) | (simp; omega))) ?_ | refine Ops.leq rfl (by decide) rfl rfl ?_ | refine Ops.pure T rfl (by decide) rfl ?_ | refine Ops.lenS T rfl (by decide) rfl rfl ?_)
  refine Run.cond rfl rfl (fun h => ?_) (fun h => ?_)
  all_goals (try rw [h])
  all_goals (try simp only [decide_eq_true_eq, decide_eq_false_iff_not, Bool.not_eq_true', Bool.not_eq_false', Bool.and_eq_true, Bool.or_eq_true, Bool.and_eq_false_imp, Bool.or_eq_false_iff] at h)
  · have hi' : i < s.length := by simp at h; omega
    have hx := ix_drop c s i hi'
    have hcut : List.drop (Int.toNat (i : Int)) (List.take (Int.toNat ((i : Int) + (([c] : List UInt8).length : Int))) s) = [s.getD i 0] := by
      have : Int.toNat ((i : Int) + (([c] : List UInt8).length : Int)) = i + 1 := by simp
      rw [this, Int.toNat_natCast]; exact cut1 s i hi'
    repeat (first | refine Run.seq ?_ | refine Run.region ?_ | refine Ops.nil ?_ | refine Run.skip ?_ | refine Run.block ?_ | refine Ops.add rfl (by decide) rfl rfl (wI (by first | omega | (simp only [List.length_cons, List.length_nil] ; omega) | (simp; omega)) (by first | omega | (simp only [List.length_cons, List.length_nil] ; omega) | (simp; omega))) ?_ | refine Ops.eqlStr rfl (by decide) rfl rfl ?_ | refine Ops.pure T rfl (by decide) rfl ?_ | refine Ops.lenS T rfl (by decide) rfl rfl ?_ | refine Ops.sliceStr rfl (by decide) (T.undOk rfl) rfl rfl rfl (by first | omega | (simp only [List.length_cons, List.length_nil] ; omega) | (simp; omega)) (by first | omega | (simp only [List.length_cons, List.length_nil] ; omega) | (simp; omega)) (by first | omega | (simp only [List.length_cons, List.length_nil] ; omega) | (simp; omega)) ?_)
    rw [hcut]
    refine Run.cond rfl rfl (fun h2 => ?_) (fun h2 => ?_)
    all_goals (try rw [h2])
    all_goals (try simp only [decide_eq_true_eq, decide_eq_false_iff_not, Bool.not_eq_true', Bool.not_eq_false', Bool.and_eq_true, Bool.or_eq_true, Bool.and_eq_false_imp, Bool.or_eq_false_iff] at h2)
    · skip
      repeat (first | refine Run.seq ?_ | refine Run.region ?_ | refine Ops.nil ?_ | refine Ops.pure T rfl (by decide) rfl ?_)
      refine Run.fin (Run.ret1 (by rw [hCf]; exact func98) results98 rfl (hR _ _ _ ?_))
      have h3 : s.getD i 0 = c := by simpa using h2
      rw [if_pos h3] at hx
      rw [hx] at hix
      exact ⟨rfl, by simp [ixI, hix]⟩
    · skip
      repeat (first | refine Run.region ?_ | refine Ops.nil ?_ | refine Run.skip ?_ | refine Run.inBlock ?_ | refine Ops.add rfl (by decide) rfl rfl (wI (by first | omega | (simp only [List.length_cons, List.length_nil] ; omega) | (simp; omega)) (by first | omega | (simp only [List.length_cons, List.length_nil] ; omega) | (simp; omega))) ?_ | refine Ops.pure T rfl (by decide) rfl ?_)
      refine Run.keep [0, 1, 5] [_, _, _] rfl ?_
      have h3 : s.getD i 0 ≠ c := by simpa using h2
      rw [if_neg h3] at hx
      refine ih (s.length - (i + 1)) _ _ _ (by omega) ⟨i + 1, rfl, by omega, ?_, ?_, rfl, rfl⟩
      · rw [hix, hx]; simp [Option.map_map]; congr 1; funext x; simp; omega
      · simp
  · have hi' : i = s.length := by simp at h; omega
    repeat (first | refine Run.seq ?_ | refine Run.region ?_ | refine Ops.nil ?_ | refine Run.exit rfl ?_ | refine Ops.pure T rfl (by decide) rfl ?_)
    refine Run.fin (Run.ret1 (by rw [hCf]; exact func98) results98 rfl (hR _ _ _ ?_))
    subst hi'
    simp [ix] at hix
    exact ⟨rfl, by simp [ixI, hix]⟩
theorem ixI_has (c : UInt8) (s : Tx) : decide ((0 : Int) ≤ ixI c s) = hasB c s := by
  rw [ix_has]
  unfold ixI
  cases ix c s with
  | none => rfl
  | some k => simp
theorem ixI_has' (c : UInt8) (s : Tx) : decide (ixI c s < 0) = !hasB c s := by
  rw [ix_has]
  unfold ixI
  cases ix c s with
  | none => rfl
  | some k => simp
theorem name_zzContains (s : Tx) (c : UInt8) (I : Imm) (hs : s.length ≤ 4620000000000000000) : Pure prog 68 [str s, str [c]] I fun v _ => v = .bool (hasB c s) := by
  refine Spec.enter 9 [(0, _), (1, _)] func68 rfl ntmps68 (by simp) rfl ?_
  intro C hCf hR hCI
  repeat (first | refine Run.seq ?_ | refine Run.region ?_ | refine Ops.nil ?_ | refine Ops.pure T rfl (by decide) rfl ?_)
  refine Ops.call ((name_zzIndex s c I hs)) rfl (by decide) call98 rfl ?_
  rintro _ J1 l1 rfl
  repeat (first | refine Ops.nil ?_ | refine Ops.geq rfl (by decide) rfl rfl ?_ | refine Ops.pure T rfl (by decide) rfl ?_)
  refine Run.fin (Run.ret1 (by rw [hCf]; exact func68) results68 rfl (hR _ _ _ ?_))
  exact ⟨rfl, by rw [ixI_has]⟩
theorem spec_firstOf (s : List UInt8) (c : UInt8) (I : Imm) (hs : s.length ≤ 4620000000000000000) :
    Pure prog 47 [str s, u8 c] I fun v J => v = .int .i64 (ixI c s) := by
  refine Spec.enter 18 [(0, _), (1, _)] func47 rfl ntmps47 (by simp) rfl ?_
  intro C hCf hR hCI
  repeat (first | refine Run.seq ?_ | refine Run.region ?_ | refine Ops.nil ?_ | refine Run.block ?_ | refine Ops.pure T rfl (by decide) rfl ?_ | refine Ops.lenS T rfl (by decide) rfl rfl ?_)
  refine Run.keep [0, 1, 7, 8] [_, _, _, _] rfl ?_
  refine Run.rounds (fun m env L J => ∃ i : Nat, m = s.length - i ∧ i ≤ s.length ∧ ix c s = (ix c (s.drop i)).map (· + i) ∧ env = [(0, str s), (1, u8 c), (7, .int .i64 s.length), (8, .int .i64 i)] ∧ L = [] ∧ J = I) s.length ⟨0, by omega, by omega, by simp, rfl, rfl, rfl⟩ ?_
  rintro m env L J ⟨i, rfl, hi, hix, rfl, rfl, rfl⟩ ih
  repeat (first | refine Run.seq ?_ | refine Run.region ?_ | refine Ops.nil ?_ | refine Ops.lss rfl (by decide) rfl rfl ?_)
  refine Run.cond rfl rfl (fun h => ?_) (fun h => ?_)
  all_goals (try rw [h])
  all_goals (try simp only [decide_eq_true_eq, decide_eq_false_iff_not, Bool.not_eq_true', Bool.not_eq_false', Bool.and_eq_true, Bool.or_eq_true, Bool.and_eq_false_imp, Bool.or_eq_false_iff] at h)
  · have hi' : i < s.length := by omega
    have hx := ix_drop c s i hi'
    repeat (first | refine Run.seq ?_ | refine Run.region ?_ | refine Ops.nil ?_ | refine Run.skip ?_ | refine Run.block ?_ | refine Ops.eql rfl (by decide) rfl rfl ?_ | refine Ops.pure T rfl (by decide) rfl ?_ | refine Ops.indexStr rfl (by decide) (T.undOk rfl) rfl rfl (by first | omega | (simp only [List.length_cons, List.length_nil] ; omega) | (simp; omega)) (by first | omega | (simp only [List.length_cons, List.length_nil] ; omega) | (simp; omega)) ?_)
    refine Run.cond rfl rfl (fun h2 => ?_) (fun h2 => ?_)
    all_goals (try rw [h2])
    all_goals (try simp only [decide_eq_true_eq, decide_eq_false_iff_not, Bool.not_eq_true', Bool.not_eq_false', Bool.and_eq_true, Bool.or_eq_true, Bool.and_eq_false_imp, Bool.or_eq_false_iff] at h2)
    · have h3 : s.getD i 0 = c := u8_inj.1 h2
      rw [if_pos h3] at hx
      rw [hx] at hix
      repeat (first | refine Run.seq ?_ | refine Run.region ?_ | refine Ops.nil ?_ | refine Ops.pure T rfl (by decide) rfl ?_)
      refine Run.fin (Run.ret1 (by rw [hCf]; exact func47) results47 rfl (hR _ _ _ ?_))
      exact ⟨rfl, by simp [ixI, hix]⟩
    · have h3 : ¬ s.getD i 0 = c := fun h => h2 (u8_inj.2 h)
      rw [if_neg h3] at hx
      repeat (first | refine Run.region ?_ | refine Ops.nil ?_ | refine Run.skip ?_ | refine Run.inBlock ?_ | refine Ops.add rfl (by decide) rfl rfl (wI (by first | omega | (simp only [List.length_cons, List.length_nil] ; omega) | (simp; omega)) (by first | omega | (simp only [List.length_cons, List.length_nil] ; omega) | (simp; omega))) ?_ | refine Ops.pure T rfl (by decide) rfl ?_)
      refine Run.keep [0, 1, 7, 8] [_, _, _, _] rfl ?_
      refine ih (s.length - (i + 1)) _ _ _ (by omega) ⟨i + 1, rfl, by omega, ?_, rfl, rfl, rfl⟩
      rw [hix, hx]; simp [Option.map_map]; congr 1; funext x; simp; omega
  · have hi' : i = s.length := by omega
    subst hi'
    repeat (first | refine Run.seq ?_ | refine Run.region ?_ | refine Ops.nil ?_ | refine Run.exit rfl ?_ | refine Ops.pure T rfl (by decide) rfl ?_)
    refine Run.fin (Run.ret1 (by rw [hCf]; exact func47) results47 rfl (hR _ _ _ ?_))
    simp [ix] at hix
    exact ⟨rfl, by simp [ixI, hix]⟩
def lxI (c : UInt8) (s : Tx) : Int := match lx c s with
  | some k => k
  | none => -1
theorem spec_lastOf (s : Tx) (c : UInt8) (I : Imm) (hs : s.length ≤ 4620000000000000000) :
    Pure prog 49 [str s, u8 c] I fun v J => v = .int .i64 (lxI c s) := by
  refine Spec.enter 19 [(0, _), (1, _)] func49 rfl ntmps49 (by simp) rfl ?_
  intro C hCf hR hCI
  repeat (first | refine Run.seq ?_ | refine Run.region ?_ | refine Ops.nil ?_ | refine Run.block ?_ | refine Ops.sub rfl (by decide) rfl rfl (wI (by first | omega | (simp only [List.length_cons, List.length_nil] ; omega) | (simp; omega)) (by first | omega | (simp only [List.length_cons, List.length_nil] ; omega) | (simp; omega))) ?_ | refine Ops.pure T rfl (by decide) rfl ?_ | refine Ops.lenS T rfl (by decide) rfl rfl ?_)
  refine Run.keep [0, 1, 5] [_, _, _] rfl ?_
  refine Run.rounds (fun m env L J => ∃ j : Nat, m = j ∧ j ≤ s.length ∧ hasB c (s.drop j) = false ∧ env = [(0, str s), (1, u8 c), (5, .int .i64 ((j : Int) - 1))] ∧ L = [] ∧ J = I) s.length ⟨s.length, rfl, by omega, by simp [hasB], rfl, rfl, rfl⟩ ?_
  rintro j env L J ⟨_, rfl, hj, hno, rfl, rfl, rfl⟩ ih
  repeat (first | refine Run.seq ?_ | refine Run.region ?_ | refine Ops.nil ?_ | refine Ops.geq rfl (by decide) rfl rfl ?_ | refine Ops.pure T rfl (by decide) rfl ?_)
  refine Run.cond rfl rfl (fun h => ?_) (fun h => ?_)
  all_goals (try rw [h])
  all_goals (try simp only [decide_eq_true_eq, decide_eq_false_iff_not, Bool.not_eq_true', Bool.not_eq_false', Bool.and_eq_true, Bool.or_eq_true, Bool.and_eq_false_imp, Bool.or_eq_false_iff] at h)
  · obtain ⟨i, rfl⟩ : ∃ i, j = i + 1 := ⟨j - 1, by omega⟩
    have hi' : i < s.length := by omega
    have e1 : ((i + 1 : Nat) : Int) - 1 = i := by omega
    rw [e1]
    repeat (first | refine Run.seq ?_ | refine Run.region ?_ | refine Ops.nil ?_ | refine Run.skip ?_ | refine Run.block ?_ | refine Ops.eql rfl (by decide) rfl rfl ?_ | refine Ops.pure T rfl (by decide) rfl ?_ | refine Ops.indexStr rfl (by decide) (T.undOk rfl) rfl rfl (by first | omega | (simp only [List.length_cons, List.length_nil] ; omega) | (simp; omega)) (by first | omega | (simp only [List.length_cons, List.length_nil] ; omega) | (simp; omega)) ?_)
    have hd := drop_cons hi'
    refine Run.cond rfl rfl (fun h2 => ?_) (fun h2 => ?_)
    all_goals (try rw [h2])
    all_goals (try simp only [decide_eq_true_eq, decide_eq_false_iff_not, Bool.not_eq_true', Bool.not_eq_false', Bool.and_eq_true, Bool.or_eq_true, Bool.and_eq_false_imp, Bool.or_eq_false_iff] at h2)
    · have h3 : s.getD i 0 = c := u8_inj.1 (by simpa using h2)
      repeat (first | refine Run.seq ?_ | refine Run.region ?_ | refine Ops.nil ?_ | refine Ops.pure T rfl (by decide) rfl ?_)
      refine Run.fin (Run.ret1 (by rw [hCf]; exact func49) results49 rfl (hR _ _ _ ?_))
      refine ⟨rfl, ?_⟩
      have : lx c s = some i := by
        conv => lhs; rw [← List.take_append_drop i s, hd, h3]
        rw [lx_app hno]; simp; omega
      simp [lxI, this]
    · have h3 : ¬ s.getD i 0 = c := fun h => h2 (by simpa using u8_inj.2 h)
      repeat (first | refine Run.region ?_ | refine Ops.nil ?_ | refine Run.skip ?_ | refine Run.inBlock ?_ | refine Ops.sub rfl (by decide) rfl rfl (wI (by first | omega | (simp only [List.length_cons, List.length_nil] ; omega) | (simp; omega)) (by first | omega | (simp only [List.length_cons, List.length_nil] ; omega) | (simp; omega))) ?_ | refine Ops.pure T rfl (by decide) rfl ?_)
      refine Run.keep [0, 1, 5] [_, _, _] rfl ?_
      refine ih i _ _ _ (by omega) ⟨i, rfl, by omega, ?_, rfl, rfl, rfl⟩
      rw [hd, hasB_cons, hno, decide_eq_false h3]; rfl
  · obtain rfl : j = 0 := by omega
    repeat (first | refine Run.seq ?_ | refine Run.region ?_ | refine Ops.nil ?_ | refine Run.exit rfl ?_ | refine Ops.pure T rfl (by decide) rfl ?_)
    refine Run.fin (Run.ret1 (by rw [hCf]; exact func49) results49 rfl (hR _ _ _ ?_))
    refine ⟨rfl, ?_⟩
    have : lx c s = none := lx_none.2 (by simpa using hno)
    simp [lxI, this]
theorem stringslite_HasPrefix (s t : Tx) (I : Imm) (hs : s.length ≤ 4620000000000000000) (ht : t.length ≤ 4620000000000000000) : Pure prog 112 [str s, str t] I fun v J => v = .bool (starts t s) := by
  refine Spec.enter 18 [(0, _), (1, _)] func112 rfl ntmps112 (by simp) rfl ?_
  intro C hCf hR hCI
  repeat (first | refine Run.seq ?_ | refine Run.region ?_ | refine Ops.nil ?_ | refine Ops.geq rfl (by decide) rfl rfl ?_ | refine Ops.pure T rfl (by decide) rfl ?_ | refine Ops.lenS T rfl (by decide) rfl rfl ?_)
  cases h : decide ((t.length : Int) ≤ (s.length : Int)) with
  | false =>
    repeat (first | refine Ops.nil ?_ | refine Ops.not rfl (by decide) ?_ | refine Ops.pure T rfl (by decide) rfl ?_)
    refine Run.fin (Run.ret1 (by rw [hCf]; exact func112) results112 rfl (hR _ _ _ ?_))
    have : decide (t.length ≤ s.length) = false := decide_eq_false (by have := of_decide_eq_false h; omega)
    exact ⟨rfl, by simp [starts, this]⟩
  | true =>
    have h' := of_decide_eq_true h
    have h2 : decide (t.length ≤ s.length) = true := decide_eq_true (by omega)
    repeat (first | refine Ops.nil ?_ | refine Ops.eqlStr rfl (by decide) rfl rfl ?_ | refine Ops.pure T rfl (by decide) rfl ?_ | refine Ops.lenS T rfl (by decide) rfl rfl ?_ | refine Ops.sliceStrHi rfl (by decide) (T.undOk rfl) rfl rfl (by first | omega | (simp only [List.length_cons, List.length_nil] ; omega) | (simp; omega)) (by first | omega | (simp only [List.length_cons, List.length_nil] ; omega) | (simp; omega)) ?_)
    refine Run.fin (Run.ret1 (by rw [hCf]; exact func112) results112 rfl (hR _ _ _ ?_))
    exact ⟨rfl, by rw [starts, h2]; rfl⟩
theorem strings_HasPrefix (s t : Tx) (I : Imm) (hs : s.length ≤ 4620000000000000000) (ht : t.length ≤ 4620000000000000000) : Pure prog 90 [str s, str t] I fun v J => v = .bool (starts t s) := by
  refine Spec.enter 8 [(0, _), (1, _)] func90 rfl ntmps90 (by simp) rfl ?_
  intro C hCf hR hCI
  repeat (first | refine Run.seq ?_ | refine Run.region ?_ | refine Ops.nil ?_ | refine Ops.pure T rfl (by decide) rfl ?_)
  refine Ops.call ((stringslite_HasPrefix s t I hs ht)) rfl (by decide) call112 rfl ?_
  rintro _ J1 l1 rfl
  repeat (first | refine Ops.nil ?_ | refine Ops.pure T rfl (by decide) rfl ?_)
  refine Run.fin (Run.ret1 (by rw [hCf]; exact func90) results90 rfl (hR _ _ _ ?_))
  exact ⟨rfl, rfl⟩
theorem stringslite_HasSuffix (s t : Tx) (I : Imm) (hs : s.length ≤ 4620000000000000000) (ht : t.length ≤ 4620000000000000000) : Pure prog 137 [str s, str t] I fun v J => v = .bool (endsT t s) := by
  refine Spec.enter 21 [(0, _), (1, _)] func137 rfl ntmps137 (by simp) rfl ?_
  intro C hCf hR hCI
  repeat (first | refine Run.seq ?_ | refine Run.region ?_ | refine Ops.nil ?_ | refine Ops.geq rfl (by decide) rfl rfl ?_ | refine Ops.pure T rfl (by decide) rfl ?_ | refine Ops.lenS T rfl (by decide) rfl rfl ?_)
  cases h : decide ((t.length : Int) ≤ (s.length : Int)) with
  | false =>
    repeat (first | refine Ops.nil ?_ | refine Ops.not rfl (by decide) ?_ | refine Ops.pure T rfl (by decide) rfl ?_)
    refine Run.fin (Run.ret1 (by rw [hCf]; exact func137) results137 rfl (hR _ _ _ ?_))
    have : decide (t.length ≤ s.length) = false := decide_eq_false (by have := of_decide_eq_false h; omega)
    exact ⟨rfl, by simp [endsT, this]⟩
  | true =>
    have h' := of_decide_eq_true h
    have h2 : decide (t.length ≤ s.length) = true := decide_eq_true (by omega)
    repeat (first | refine Ops.nil ?_ | refine Ops.eqlStr rfl (by decide) rfl rfl ?_ | refine Ops.sub rfl (by decide) rfl rfl (wI (by first | omega | (simp only [List.length_cons, List.length_nil] ; omega) | (simp; omega)) (by first | omega | (simp only [List.length_cons, List.length_nil] ; omega) | (simp; omega))) ?_ | refine Ops.pure T rfl (by decide) rfl ?_ | refine Ops.lenS T rfl (by decide) rfl rfl ?_ | refine Ops.sliceStrLo rfl (by decide) (T.undOk rfl) rfl rfl (by first | omega | (simp only [List.length_cons, List.length_nil] ; omega) | (simp; omega)) (by first | omega | (simp only [List.length_cons, List.length_nil] ; omega) | (simp; omega)) ?_)
    refine Run.fin (Run.ret1 (by rw [hCf]; exact func137) results137 rfl (hR _ _ _ ?_))
    refine ⟨rfl, ?_⟩
    rw [endsT, h2, show ((s.length : Int) - (t.length : Int)).toNat = s.length - t.length by omega]; rfl
theorem strings_HasSuffix (s t : Tx) (I : Imm) (hs : s.length ≤ 4620000000000000000) (ht : t.length ≤ 4620000000000000000) : Pure prog 128 [str s, str t] I fun v J => v = .bool (endsT t s) := by
  refine Spec.enter 8 [(0, _), (1, _)] func128 rfl ntmps128 (by simp) rfl ?_
  intro C hCf hR hCI
  repeat (first | refine Run.seq ?_ | refine Run.region ?_ | refine Ops.nil ?_ | refine Ops.pure T rfl (by decide) rfl ?_)
  refine Ops.call ((stringslite_HasSuffix s t I hs ht)) rfl (by decide) call137 rfl ?_
  rintro _ J1 l1 rfl
  repeat (first | refine Ops.nil ?_ | refine Ops.pure T rfl (by decide) rfl ?_)
  refine Run.fin (Run.ret1 (by rw [hCf]; exact func128) results128 rfl (hR _ _ _ ?_))
  exact ⟨rfl, rfl⟩
def ErrIs (w : Value) (ok : Bool) : Prop := if ok then w = .nilIface else ∃ b, w = .iface 88 (.pointer (some ⟨b, 0, none⟩))
theorem ErrIs.nil : ErrIs .nilIface true := rfl
theorem ErrIs.err (b : Nat) : ErrIs (.iface 88 (.pointer (some ⟨b, 0, none⟩))) false := ⟨b, rfl⟩
theorem name_newErrBadName (I : Imm) (s : Tx) (v : Value) : Pure prog 58 [str s, v] I fun w J => ∃ b, w = .pointer (some ⟨b, 0, none⟩) := by
  refine Spec.enter 8 [(0, _), (1, _)] func58 rfl ntmps58 (by simp) rfl ?_
  intro C hCf hR hCI
  repeat (first | refine Run.seq ?_ | refine Run.region ?_ | refine Ops.nil ?_ | refine Ops.pure T rfl (by decide) rfl ?_)
  refine Ops.buildL bd115 rfl (by decide) rfl rfl ?_
  refine Ops.box rfl (by decide) rfl rfl (fun b => ?_)
  repeat (first | refine Ops.nil ?_ | refine Ops.pure T rfl (by decide) rfl ?_)
  refine Run.fin (Run.ret1 (by rw [hCf]; exact func58) results58 rfl (hR _ _ _ ?_))
  exact ⟨rfl, b, rfl⟩
end Go.V
namespace Go.V
open Go.Proofs.Tryz
open Go.RowKit
set_option linter.unusedVariables false
set_option linter.unusedSimpArgs false
set_option maxRecDepth 10000
attribute [local irreducible] Run Ops
def inR (r : Nat) (cs : Tx) : Bool := decide (r ∈ runesW cs 0)
def allR (s cs : Tx) : Bool := (runesW s 0).all fun r => inR r cs
theorem memD (r x : Nat) (l : List Nat) : decide (r ∈ x :: l) = (decide ((r : Int) = (x : Int)) || decide (r ∈ l)) := by
  by_cases h : r = x
  · subst h; simp
  · have : decide ((r : Int) = (x : Int)) = false := decide_eq_false (by omega)
    rw [this]; simp [h]
set_option maxHeartbeats 2000000 in
theorem spec_within (I : Imm) (s cs : Tx) (a b : Nat) (hs : s.length ≤ 4620000000000000000) (hc : cs.length ≤ 4620000000000000000) : Pure prog 53 [str s, str cs, .int .i64 a, .int .i64 b] I fun w J =>
    w = .bool (allR s cs && (decide (a ≤ (runesW s 0).length) && decide ((runesW s 0).length ≤ b))) := by
  refine Spec.enter 43 [(0, _), (1, _), (2, _), (3, _)] func53 rfl ntmps53 (by simp) rfl ?_
  intro C hCf hR hCI
  repeat (first | refine Run.seq ?_ | refine Run.region ?_ | refine Ops.nil ?_ | refine Ops.pure T rfl (by decide) rfl ?_)
  refine Ops.rangeStr T rfl (by decide) rfl rfl (fun b1 => ?_)
  repeat (first | refine Ops.nil ?_ | refine Run.block ?_)
  refine Run.keep [0, 1, 2, 3, 9, 16] [_, _, _, _, _, _] rfl ?_
  refine Run.rounds (fun m env L J => ∃ p k : Nat, m = s.length - p ∧ p ≤ s.length ∧ k ≤ p ∧ k + (runesW s p).length = (runesW s 0).length ∧ ((runesW s p).all fun r => inR r cs) = allR s cs ∧
    env = [(0, str s), (1, str cs), (2, .int .i64 a), (3, .int .i64 b), (9, .int .i64 k), (16, .pointer (some ⟨b1, 0, none⟩))] ∧ L = [(b1, .stringIter (ba s) p)] ∧ J = I) s.length ⟨0, 0, by omega, by omega, by omega, by simp, rfl, rfl, rfl, rfl⟩ ?_
  rintro m env L J ⟨p, k, rfl, hp, hk, hlen, hall, rfl, rfl, rfl⟩ ih
  by_cases hlt : p < s.length
  · have hw := runeAt_width s p
    obtain ⟨_, _, hpw, _, _⟩ := runes_step hlt
    rw [runesW_lt hlt] at hlen hall
    repeat (first | refine Run.seq ?_ | refine Run.region ?_)
    refine Ops.nextStr 0 rfl (by decide) rfl rfl hlt ?_
    generalize runeAt s p = rw at *
    obtain ⟨r, w⟩ := rw
    simp only at hw hpw hlen hall
    repeat (first | refine Run.seq ?_ | refine Run.region ?_ | refine Ops.nil ?_ | refine Run.skip ?_ | refine Run.block ?_ | refine Run.cond_t rfl ?_ | refine Ops.add rfl (by decide) rfl rfl (wI (by first | omega | (simp only [List.length_cons, List.length_nil] ; omega) | (simp; omega)) (by first | omega | (simp only [List.length_cons, List.length_nil] ; omega) | (simp; omega))) ?_ | refine Ops.pure T rfl (by decide) rfl ?_)
    refine Ops.rangeStr T rfl (by decide) rfl rfl (fun b2 => ?_)
    repeat (first | refine Ops.nil ?_ | refine Run.block ?_)
    refine Run.keep [0, 1, 2, 3, 9, 16, 11, 12, 23] [_, _, _, _, _, _, _, _, _] rfl ?_
    refine Run.rounds (fun m env L K => ∃ (q : Nat) (fd : Bool), m = cs.length - q ∧ q ≤ cs.length ∧ (fd || decide (r ∈ runesW cs q)) = inR r cs ∧
      env = [(0, str s), (1, str cs), (2, .int .i64 a), (3, .int .i64 b), (9, .int .i64 ((k : Int) + 1)), (16, .pointer (some ⟨b1, 0, none⟩)), (11, .int .i32 r), (12, .bool fd), (23, .pointer (some ⟨b2, 0, none⟩))] ∧
      L = [(b2, .stringIter (ba cs) q), (b1, .stringIter (ba s) (p + w))] ∧ K = J) cs.length ⟨0, false, by omega, by omega, by simp [inR], rfl, rfl, rfl⟩ ?_
    rintro m env L K ⟨q, fd, rfl, hq, hfd, rfl, rfl, rfl⟩ ih2
    by_cases hqt : q < cs.length
    · have hw2 := runeAt_width cs q
      obtain ⟨_, _, hpw2, _, _⟩ := runes_step hqt
      rw [runesW_lt hqt, memD, ← Bool.or_assoc] at hfd
      repeat (first | refine Run.seq ?_ | refine Run.region ?_)
      refine Ops.nextStr 0 rfl (by decide) rfl rfl hqt ?_
      generalize runeAt cs q = rw at *
      obtain ⟨x, w2⟩ := rw
      simp only at hw2 hpw2 hfd
      cases fd with
      | true =>
        repeat (first | refine Run.seq ?_ | refine Run.region ?_ | refine Ops.nil ?_ | refine Run.skip ?_ | refine Run.block ?_ | refine Run.inBlock ?_ | refine Run.cond_t rfl ?_ | refine Ops.not rfl (by decide) ?_ | refine Ops.pure T rfl (by decide) rfl ?_)
        refine Run.keep [0, 1, 2, 3, 9, 16, 11, 12, 23] [_, _, _, _, _, _, _, _, _] rfl ?_
        refine ih2 (cs.length - (q + w2)) _ _ _ (by omega) ⟨q + w2, true, rfl, by omega, by simpa using hfd, rfl, rfl, rfl⟩
      | false =>
        repeat (first | refine Run.seq ?_ | refine Run.region ?_ | refine Ops.nil ?_ | refine Run.skip ?_ | refine Run.block ?_ | refine Run.inBlock ?_ | refine Run.cond_t rfl ?_ | refine Ops.eql rfl (by decide) rfl rfl ?_ | refine Ops.pure T rfl (by decide) rfl ?_)
        refine Run.keep [0, 1, 2, 3, 9, 16, 11, 12, 23] [_, _, _, _, _, _, _, _, _] rfl ?_
        refine ih2 (cs.length - (q + w2)) _ _ _ (by omega) ⟨q + w2, decide ((r : Int) = (x : Int)), rfl, by omega, by simpa using hfd, rfl, rfl, rfl⟩
    · rw [runesW_end hqt] at hfd
      repeat (first | refine Run.seq ?_ | refine Run.region ?_)
      refine Ops.nextStrEnd 0 rfl (by decide) rfl rfl hqt ?_
      cases fd with
      | false =>
        repeat (first | refine Run.seq ?_ | refine Run.region ?_ | refine Ops.nil ?_ | refine Run.exit rfl ?_ | refine Run.cond_t rfl ?_ | refine Run.cond_f rfl ?_ | refine Ops.pure T rfl (by decide) rfl ?_)
        refine Run.fin (Run.ret1 (by rw [hCf]; exact func53) results53 rfl (hR _ _ _ ?_))
        refine ⟨rfl, ?_⟩
        have : inR r cs = false := by rw [← hfd]; simp
        rw [← hall, List.all_cons, this]; rfl
      | true =>
        have hi : inR r cs = true := by rw [← hfd]; simp
        rw [List.all_cons, hi, Bool.true_and] at hall
        repeat (first | refine Run.seq ?_ | refine Run.region ?_ | refine Ops.nil ?_ | refine Run.skip ?_ | refine Run.inBlock ?_ | refine Run.exit rfl ?_ | refine Run.cond_f rfl ?_ | refine Ops.pure T rfl (by decide) rfl ?_)
        refine Run.dropL (List.sublist_cons_self _ _) ?_
        refine Run.keep [0, 1, 2, 3, 9, 16] [_, _, _, _, _, _] rfl ?_
        refine ih (s.length - (p + w)) _ _ _ (by omega) ⟨p + w, k + 1, rfl, by omega, by omega, by simp only [List.length_cons] at hlen; omega, hall, rfl, rfl, rfl⟩
  · rw [runesW_end hlt] at hlen hall
    repeat (first | refine Run.seq ?_ | refine Run.region ?_)
    refine Ops.nextStrEnd 0 rfl (by decide) rfl rfl hlt ?_
    repeat (first | refine Run.seq ?_ | refine Run.region ?_ | refine Ops.nil ?_ | refine Run.exit rfl ?_ | refine Run.cond_f rfl ?_ | refine Ops.geq rfl (by decide) rfl rfl ?_ | refine Ops.pure T rfl (by decide) rfl ?_)
    have hk' : k = (runesW s 0).length := by simpa using hlen
    cases h : decide ((a : Int) ≤ (k : Int)) with
    | false =>
      repeat (first | refine Ops.nil ?_ | refine Ops.not rfl (by decide) ?_ | refine Ops.pure T rfl (by decide) rfl ?_)
      refine Run.fin (Run.ret1 (by rw [hCf]; exact func53) results53 rfl (hR _ _ _ ?_))
      have := of_decide_eq_false h
      have h2 : decide (a ≤ (runesW s 0).length) = false := decide_eq_false (by omega)
      exact ⟨rfl, by rw [← hall, h2]; rfl⟩
    | true =>
      repeat (first | refine Ops.nil ?_ | refine Ops.leq rfl (by decide) rfl rfl ?_ | refine Ops.pure T rfl (by decide) rfl ?_)
      refine Run.fin (Run.ret1 (by rw [hCf]; exact func53) results53 rfl (hR _ _ _ ?_))
      have := of_decide_eq_true h
      have h2 : decide (a ≤ (runesW s 0).length) = true := decide_eq_true (by omega)
      refine ⟨rfl, ?_⟩
      rw [← hall, h2, ← hk']
      simp only [List.all_nil, Bool.true_and]
      congr 1
      rw [decide_eq_decide]; omega
set_option maxHeartbeats 1000000 in
theorem utf8_RuneCount (I : Imm) (s : Tx) (hs : s.length ≤ 4620000000000000000) : Pure prog 118 [str s] I fun w J => w = .int .i64 (runesW s 0).length := by
  refine Spec.enter 10 [(0, _)] func118 rfl ntmps118 (by simp) rfl ?_
  intro C hCf hR hCI
  repeat (first | refine Run.seq ?_ | refine Run.region ?_ | refine Ops.nil ?_ | refine Ops.pure T rfl (by decide) rfl ?_)
  refine Ops.rangeStr T rfl (by decide) rfl rfl (fun b1 => ?_)
  repeat (first | refine Ops.nil ?_ | refine Run.block ?_)
  refine Run.keep [2, 4] [_, _] rfl ?_
  refine Run.rounds (fun m env L J => ∃ p k : Nat, m = s.length - p ∧ p ≤ s.length ∧ k ≤ p ∧ k + (runesW s p).length = (runesW s 0).length ∧
    env = [(2, .int .i64 k), (4, .pointer (some ⟨b1, 0, none⟩))] ∧ L = [(b1, .stringIter (ba s) p)] ∧ J = I) s.length ⟨0, 0, by omega, by omega, by omega, by simp, rfl, rfl, rfl⟩ ?_
  rintro m env L J ⟨p, k, rfl, hp, hk, hlen, rfl, rfl, rfl⟩ ih
  by_cases hlt : p < s.length
  · have hw := runeAt_width s p
    obtain ⟨_, _, hpw, _, _⟩ := runes_step hlt
    rw [runesW_lt hlt] at hlen
    repeat (first | refine Run.seq ?_ | refine Run.region ?_)
    refine Ops.nextStr 0 rfl (by decide) rfl rfl hlt ?_
    generalize runeAt s p = rw at *
    obtain ⟨r, w⟩ := rw
    simp only at hw hpw hlen
    repeat (first | refine Run.seq ?_ | refine Run.region ?_ | refine Ops.nil ?_ | refine Run.skip ?_ | refine Run.block ?_ | refine Run.inBlock ?_ | refine Run.cond_t rfl ?_ | refine Ops.add rfl (by decide) rfl rfl (wI (by first | omega | (simp only [List.length_cons, List.length_nil] ; omega) | (simp; omega)) (by first | omega | (simp only [List.length_cons, List.length_nil] ; omega) | (simp; omega))) ?_ | refine Ops.pure T rfl (by decide) rfl ?_)
    refine Run.keep [2, 4] [_, _] rfl ?_
    refine ih (s.length - (p + w)) _ _ _ (by omega) ⟨p + w, k + 1, rfl, by omega, by omega, by simp only [List.length_cons] at hlen; omega, rfl, rfl, rfl⟩
  · rw [runesW_end hlt] at hlen
    repeat (first | refine Run.seq ?_ | refine Run.region ?_)
    refine Ops.nextStrEnd 0 rfl (by decide) rfl rfl hlt ?_
    repeat (first | refine Run.seq ?_ | refine Run.region ?_ | refine Ops.nil ?_ | refine Run.exit rfl ?_ | refine Run.cond_f rfl ?_ | refine Ops.pure T rfl (by decide) rfl ?_)
    refine Run.fin (Run.ret1 (by rw [hCf]; exact func118) results118 rfl (hR _ _ _ ?_))
    have hk' : k = (runesW s 0).length := by simpa using hlen
    exact ⟨rfl, by rw [hk']⟩
set_option maxHeartbeats 2000000 in
theorem name_zzIndexRune (I : Imm) (s : Tx) (r : Nat) (hr : okRune r) (hs : s.length ≤ 4620000000000000000) : Pure prog 119 [str s, .int .i32 r] I fun w J => ∃ i : Int, w = .int .i64 i ∧ decide (0 ≤ i) = inR r s := by
  have f1 : decide ((r : Int) < 0) = false := decide_eq_false (by omega)
  have f2 : decide ((1114111 : Int) < (r : Int)) = false := decide_eq_false (by rcases hr with h | h <;> omega)
  refine Spec.enter 35 [(0, _), (1, _)] func119 rfl ntmps119 (by simp) rfl ?_
  intro C hCf hR hCI
  repeat (first | refine Run.seq ?_ | refine Run.region ?_ | refine Ops.nil ?_ | refine Ops.neq rfl (by decide) rfl rfl ?_ | refine Ops.pure T rfl (by decide) rfl ?_)
  by_cases h1 : r = 65533
  · have e1 : decide ((r : Int) = 65533) = true := decide_eq_true (by omega)
    rw [e1]
    repeat (first | refine Run.seq ?_ | refine Run.region ?_ | refine Ops.nil ?_ | refine Run.skip ?_ | refine Run.cond_f rfl ?_ | refine Ops.not rfl (by decide) ?_ | refine Ops.notU rfl (by decide) ?_ | refine Ops.pure T rfl (by decide) rfl ?_)
    refine Ops.rangeStr T rfl (by decide) rfl rfl (fun b1 => ?_)
    repeat (first | refine Ops.nil ?_ | refine Run.block ?_)
    refine Run.keep [1, 26] [_, _] rfl ?_
    refine Run.rounds (fun m env L J => ∃ p : Nat, m = s.length - p ∧ p ≤ s.length ∧ decide (r ∈ runesW s p) = inR r s ∧
      env = [(1, .int .i32 r), (26, .pointer (some ⟨b1, 0, none⟩))] ∧ L = [(b1, .stringIter (ba s) p)] ∧ J = I) s.length ⟨0, by omega, by omega, rfl, rfl, rfl, rfl⟩ ?_
    rintro m env L J ⟨p, rfl, hp, hin, rfl, rfl, rfl⟩ ih
    by_cases hlt : p < s.length
    · have hw := runeAt_width s p
      obtain ⟨_, _, hpw, _, _⟩ := runes_step hlt
      rw [runesW_lt hlt, memD] at hin
      repeat (first | refine Run.seq ?_ | refine Run.region ?_)
      refine Ops.nextStr 0 rfl (by decide) rfl rfl hlt ?_
      generalize runeAt s p = rw at *
      obtain ⟨x, w⟩ := rw
      simp only at hw hpw hin
      repeat (first | refine Run.seq ?_ | refine Run.region ?_ | refine Ops.nil ?_ | refine Run.skip ?_ | refine Run.block ?_ | refine Run.cond_t rfl ?_ | refine Ops.eql rfl (by decide) rfl rfl ?_ | refine Ops.pure T rfl (by decide) rfl ?_)
      cases he : decide ((x : Int) = (r : Int)) with
      | true =>
        repeat (first | refine Run.seq ?_ | refine Run.region ?_ | refine Ops.nil ?_ | refine Run.cond_t rfl ?_ | refine Ops.pure T rfl (by decide) rfl ?_)
        refine Run.fin (Run.ret1 (by rw [hCf]; exact func119) results119 rfl (hR _ _ _ ?_))
        have := of_decide_eq_true he
        have e2 : decide ((r : Int) = (x : Int)) = true := decide_eq_true (by omega)
        rw [e2] at hin
        exact ⟨rfl, p, rfl, by rw [← hin]; simp⟩
      | false =>
        have := of_decide_eq_false he
        have e2 : decide ((r : Int) = (x : Int)) = false := decide_eq_false (by omega)
        rw [e2, Bool.false_or] at hin
        repeat (first | refine Run.skip ?_ | refine Run.inBlock ?_ | refine Run.cond_f rfl ?_)
        refine Run.keep [1, 26] [_, _] rfl ?_
        exact ih (s.length - (p + w)) _ _ _ (by omega) ⟨p + w, rfl, by omega, hin, rfl, rfl, rfl⟩
    · rw [runesW_end hlt] at hin
      repeat (first | refine Run.seq ?_ | refine Run.region ?_)
      refine Ops.nextStrEnd 0 rfl (by decide) rfl rfl hlt ?_
      repeat (first | refine Run.seq ?_ | refine Run.region ?_ | refine Ops.nil ?_ | refine Run.exit rfl ?_ | refine Run.cond_f rfl ?_ | refine Ops.pure T rfl (by decide) rfl ?_)
      refine Run.fin (Run.ret1 (by rw [hCf]; exact func119) results119 rfl (hR _ _ _ ?_))
      exact ⟨rfl, -1, rfl, by rw [← hin]; simp⟩
  · have e1 : decide ((r : Int) = 65533) = false := decide_eq_false (by omega)
    rw [e1]
    repeat (first | refine Ops.gtr rfl (by decide) rfl rfl ?_ | refine Ops.lss rfl (by decide) rfl rfl ?_ | refine Ops.pure T rfl (by decide) rfl ?_)
    rw [f1]
    skip
    rw [f2]
    repeat (first | refine Ops.leq rfl (by decide) rfl rfl ?_ | refine Ops.pure T rfl (by decide) rfl ?_)
    by_cases h2 : r < 55296
    · have e2 : decide ((55296 : Int) ≤ (r : Int)) = false := decide_eq_false (by omega)
      rw [e2]
      repeat (first | refine Run.seq ?_ | refine Run.region ?_ | refine Ops.nil ?_ | refine Run.skip ?_ | refine Run.cond_f rfl ?_ | refine Ops.not rfl (by decide) ?_ | refine Ops.pure T rfl (by decide) rfl ?_)
      refine Ops.rangeStr T rfl (by decide) rfl rfl (fun b1 => ?_)
      repeat (first | refine Ops.nil ?_ | refine Run.block ?_)
      refine Run.keep [1, 26] [_, _] rfl ?_
      refine Run.rounds (fun m env L J => ∃ p : Nat, m = s.length - p ∧ p ≤ s.length ∧ decide (r ∈ runesW s p) = inR r s ∧
        env = [(1, .int .i32 r), (26, .pointer (some ⟨b1, 0, none⟩))] ∧ L = [(b1, .stringIter (ba s) p)] ∧ J = I) s.length ⟨0, by omega, by omega, rfl, rfl, rfl, rfl⟩ ?_
      rintro m env L J ⟨p, rfl, hp, hin, rfl, rfl, rfl⟩ ih
      by_cases hlt : p < s.length
      · have hw := runeAt_width s p
        obtain ⟨_, _, hpw, _, _⟩ := runes_step hlt
        rw [runesW_lt hlt, memD] at hin
        repeat (first | refine Run.seq ?_ | refine Run.region ?_)
        refine Ops.nextStr 0 rfl (by decide) rfl rfl hlt ?_
        generalize runeAt s p = rw at *
        obtain ⟨x, w⟩ := rw
        simp only at hw hpw hin
        repeat (first | refine Run.seq ?_ | refine Run.region ?_ | refine Ops.nil ?_ | refine Run.skip ?_ | refine Run.block ?_ | refine Run.cond_t rfl ?_ | refine Ops.eql rfl (by decide) rfl rfl ?_ | refine Ops.pure T rfl (by decide) rfl ?_)
        cases he : decide ((x : Int) = (r : Int)) with
        | true =>
          repeat (first | refine Run.seq ?_ | refine Run.region ?_ | refine Ops.nil ?_ | refine Run.cond_t rfl ?_ | refine Ops.pure T rfl (by decide) rfl ?_)
          refine Run.fin (Run.ret1 (by rw [hCf]; exact func119) results119 rfl (hR _ _ _ ?_))
          have := of_decide_eq_true he
          have e2 : decide ((r : Int) = (x : Int)) = true := decide_eq_true (by omega)
          rw [e2] at hin
          exact ⟨rfl, p, rfl, by rw [← hin]; simp⟩
        | false =>
          have := of_decide_eq_false he
          have e2 : decide ((r : Int) = (x : Int)) = false := decide_eq_false (by omega)
          rw [e2, Bool.false_or] at hin
          repeat (first | refine Run.skip ?_ | refine Run.inBlock ?_ | refine Run.cond_f rfl ?_)
          refine Run.keep [1, 26] [_, _] rfl ?_
          exact ih (s.length - (p + w)) _ _ _ (by omega) ⟨p + w, rfl, by omega, hin, rfl, rfl, rfl⟩
      · rw [runesW_end hlt] at hin
        repeat (first | refine Run.seq ?_ | refine Run.region ?_)
        refine Ops.nextStrEnd 0 rfl (by decide) rfl rfl hlt ?_
        repeat (first | refine Run.seq ?_ | refine Run.region ?_ | refine Ops.nil ?_ | refine Run.exit rfl ?_ | refine Run.cond_f rfl ?_ | refine Ops.pure T rfl (by decide) rfl ?_)
        refine Run.fin (Run.ret1 (by rw [hCf]; exact func119) results119 rfl (hR _ _ _ ?_))
        exact ⟨rfl, -1, rfl, by rw [← hin]; simp⟩
    · have e2 : decide ((55296 : Int) ≤ (r : Int)) = true := decide_eq_true (by omega)
      have e3 : decide ((r : Int) ≤ 57343) = false := decide_eq_false (by rcases hr with h | h <;> omega)
      rw [e2]
      repeat (first | refine Ops.nil ?_ | refine Ops.leq rfl (by decide) rfl rfl ?_ | refine Ops.pure T rfl (by decide) rfl ?_)
      rw [e3]
      repeat (first | refine Run.seq ?_ | refine Run.region ?_ | refine Run.skip ?_ | refine Run.cond_f rfl ?_ | refine Ops.pure T rfl (by decide) rfl ?_)
      refine Ops.rangeStr T rfl (by decide) rfl rfl (fun b1 => ?_)
      repeat (first | refine Ops.nil ?_ | refine Run.block ?_)
      refine Run.keep [1, 26] [_, _] rfl ?_
      refine Run.rounds (fun m env L J => ∃ p : Nat, m = s.length - p ∧ p ≤ s.length ∧ decide (r ∈ runesW s p) = inR r s ∧
        env = [(1, .int .i32 r), (26, .pointer (some ⟨b1, 0, none⟩))] ∧ L = [(b1, .stringIter (ba s) p)] ∧ J = I) s.length ⟨0, by omega, by omega, rfl, rfl, rfl, rfl⟩ ?_
      rintro m env L J ⟨p, rfl, hp, hin, rfl, rfl, rfl⟩ ih
      by_cases hlt : p < s.length
      · have hw := runeAt_width s p
        obtain ⟨_, _, hpw, _, _⟩ := runes_step hlt
        rw [runesW_lt hlt, memD] at hin
        repeat (first | refine Run.seq ?_ | refine Run.region ?_)
        refine Ops.nextStr 0 rfl (by decide) rfl rfl hlt ?_
        generalize runeAt s p = rw at *
        obtain ⟨x, w⟩ := rw
        simp only at hw hpw hin
        repeat (first | refine Run.seq ?_ | refine Run.region ?_ | refine Ops.nil ?_ | refine Run.skip ?_ | refine Run.block ?_ | refine Run.cond_t rfl ?_ | refine Ops.eql rfl (by decide) rfl rfl ?_ | refine Ops.pure T rfl (by decide) rfl ?_)
        cases he : decide ((x : Int) = (r : Int)) with
        | true =>
          repeat (first | refine Run.seq ?_ | refine Run.region ?_ | refine Ops.nil ?_ | refine Run.cond_t rfl ?_ | refine Ops.pure T rfl (by decide) rfl ?_)
          refine Run.fin (Run.ret1 (by rw [hCf]; exact func119) results119 rfl (hR _ _ _ ?_))
          have := of_decide_eq_true he
          have e2 : decide ((r : Int) = (x : Int)) = true := decide_eq_true (by omega)
          rw [e2] at hin
          exact ⟨rfl, p, rfl, by rw [← hin]; simp⟩
        | false =>
          have := of_decide_eq_false he
          have e2 : decide ((r : Int) = (x : Int)) = false := decide_eq_false (by omega)
          rw [e2, Bool.false_or] at hin
          repeat (first | refine Run.skip ?_ | refine Run.inBlock ?_ | refine Run.cond_f rfl ?_)
          refine Run.keep [1, 26] [_, _] rfl ?_
          exact ih (s.length - (p + w)) _ _ _ (by omega) ⟨p + w, rfl, by omega, hin, rfl, rfl, rfl⟩
      · rw [runesW_end hlt] at hin
        repeat (first | refine Run.seq ?_ | refine Run.region ?_)
        refine Ops.nextStrEnd 0 rfl (by decide) rfl rfl hlt ?_
        repeat (first | refine Run.seq ?_ | refine Run.region ?_ | refine Ops.nil ?_ | refine Run.exit rfl ?_ | refine Run.cond_f rfl ?_ | refine Ops.pure T rfl (by decide) rfl ?_)
        refine Run.fin (Run.ret1 (by rw [hCf]; exact func119) results119 rfl (hR _ _ _ ?_))
        exact ⟨rfl, -1, rfl, by rw [← hin]; simp⟩
theorem name_zzContainsRune (I : Imm) (s : Tx) (r : Nat) (hr : okRune r) (hs : s.length ≤ 4620000000000000000) : Pure prog 101 [str s, .int .i32 r] I fun w J => w = .bool (inR r s) := by
  refine Spec.enter 9 [(0, _), (1, _)] func101 rfl ntmps101 (by simp) rfl ?_
  intro C hCf hR hCI
  repeat (first | refine Run.seq ?_ | refine Run.region ?_ | refine Ops.nil ?_ | refine Ops.pure T rfl (by decide) rfl ?_)
  refine Ops.call ((name_zzIndexRune I s r hr hs)) rfl (by decide) call119 rfl ?_
  rintro _ J1 l1 ⟨i, rfl, hi⟩
  repeat (first | refine Ops.nil ?_ | refine Ops.geq rfl (by decide) rfl rfl ?_ | refine Ops.pure T rfl (by decide) rfl ?_)
  refine Run.fin (Run.ret1 (by rw [hCf]; exact func101) results101 rfl (hR _ _ _ ?_))
  exact ⟨rfl, by rw [hi]⟩
set_option maxHeartbeats 1000000 in
theorem name_zzOnly (I : Imm) (s cs : Tx) (hs : s.length ≤ 4620000000000000000) (hc : cs.length ≤ 4620000000000000000) : Pure prog 105 [str cs, str s] I fun w J => w = .bool (allR s cs) := by
  refine Spec.enter 16 [(0, _), (1, _)] func105 rfl ntmps105 (by simp) rfl ?_
  intro C hCf hR hCI
  repeat (first | refine Run.seq ?_ | refine Run.region ?_ | refine Ops.nil ?_ | refine Ops.pure T rfl (by decide) rfl ?_)
  refine Ops.rangeStr T rfl (by decide) rfl rfl (fun b1 => ?_)
  repeat (first | refine Ops.nil ?_ | refine Run.block ?_)
  refine Run.keep [0, 8] [_, _] rfl ?_
  refine Run.rounds (fun m env L J => ∃ p : Nat, m = s.length - p ∧ p ≤ s.length ∧ ((runesW s p).all fun r => inR r cs) = allR s cs ∧
    env = [(0, str cs), (8, .pointer (some ⟨b1, 0, none⟩))] ∧ L = [(b1, .stringIter (ba s) p)]) s.length ⟨0, by omega, by omega, rfl, rfl, rfl⟩ ?_
  rintro m env L J ⟨p, rfl, hp, hall, rfl, rfl⟩ ih
  by_cases hlt : p < s.length
  · have hw := runeAt_width s p
    obtain ⟨_, _, hpw, hok, _⟩ := runes_step hlt
    rw [runesW_lt hlt] at hall
    repeat (first | refine Run.seq ?_ | refine Run.region ?_)
    refine Ops.nextStr 0 rfl (by decide) rfl rfl hlt ?_
    generalize runeAt s p = rw at *
    obtain ⟨r, w⟩ := rw
    simp only at hw hpw hok hall
    repeat (first | refine Run.seq ?_ | refine Run.region ?_ | refine Ops.nil ?_ | refine Run.skip ?_ | refine Run.block ?_ | refine Run.cond_t rfl ?_ | refine Ops.pure T rfl (by decide) rfl ?_)
    refine Ops.call ((name_zzContainsRune J cs r hok hc)) rfl (by decide) call101 rfl ?_
    rintro _ J1 l1 rfl
    cases he : inR r cs with
    | false =>
      repeat (first | refine Run.seq ?_ | refine Run.region ?_ | refine Ops.nil ?_ | refine Run.cond_t rfl ?_ | refine Ops.pure T rfl (by decide) rfl ?_)
      refine Run.fin (Run.ret1 (by rw [hCf]; exact func105) results105 rfl (hR _ _ _ ?_))
      rw [List.all_cons, he] at hall
      exact ⟨rfl, by rw [← hall]; rfl⟩
    | true =>
      rw [List.all_cons, he, Bool.true_and] at hall
      repeat (first | refine Ops.nil ?_ | refine Run.skip ?_ | refine Run.inBlock ?_ | refine Run.cond_f rfl ?_ | refine Ops.pure T rfl (by decide) rfl ?_)
      refine Run.keep [0, 8] [_, _] rfl ?_
      exact ih (s.length - (p + w)) _ _ _ (by omega) ⟨p + w, rfl, by omega, hall, rfl, rfl⟩
  · rw [runesW_end hlt] at hall
    repeat (first | refine Run.seq ?_ | refine Run.region ?_)
    refine Ops.nextStrEnd 0 rfl (by decide) rfl rfl hlt ?_
    repeat (first | refine Run.seq ?_ | refine Run.region ?_ | refine Ops.nil ?_ | refine Run.exit rfl ?_ | refine Run.cond_f rfl ?_ | refine Ops.pure T rfl (by decide) rfl ?_)
    refine Run.fin (Run.ret1 (by rw [hCf]; exact func105) results105 rfl (hR _ _ _ ?_))
    exact ⟨rfl, by rw [← hall]; rfl⟩
set_option maxHeartbeats 2000000 in
theorem name_zzIndexAny (I : Imm) (s cs : Tx) (hs : s.length ≤ 4620000000000000000) (hc : cs.length ≤ 4620000000000000000) : Pure prog 99 [str s, str cs] I fun w J => ∃ i : Int, w = .int .i64 i ∧ decide (0 ≤ i) = ((runesW s 0).any fun r => inR r cs) := by
  refine Spec.enter 24 [(0, _), (1, _)] func99 rfl ntmps99 (by simp) rfl ?_
  intro C hCf hR hCI
  repeat (first | refine Run.seq ?_ | refine Run.region ?_ | refine Ops.nil ?_ | refine Ops.pure T rfl (by decide) rfl ?_)
  refine Ops.rangeStr T rfl (by decide) rfl rfl (fun b1 => ?_)
  repeat (first | refine Ops.nil ?_ | refine Run.block ?_)
  refine Run.keep [1, 10] [_, _] rfl ?_
  refine Run.rounds (fun m env L J => ∃ p : Nat, m = s.length - p ∧ p ≤ s.length ∧ ((runesW s p).any fun r => inR r cs) = ((runesW s 0).any fun r => inR r cs) ∧
    env = [(1, str cs), (10, .pointer (some ⟨b1, 0, none⟩))] ∧ L = [(b1, .stringIter (ba s) p)] ∧ J = I) s.length ⟨0, by omega, by omega, rfl, rfl, rfl, rfl⟩ ?_
  rintro m env L J ⟨p, rfl, hp, hany, rfl, rfl, rfl⟩ ih
  by_cases hlt : p < s.length
  · have hw := runeAt_width s p
    obtain ⟨_, _, hpw, _, _⟩ := runes_step hlt
    rw [runesW_lt hlt, List.any_cons] at hany
    repeat (first | refine Run.seq ?_ | refine Run.region ?_)
    refine Ops.nextStr 0 rfl (by decide) rfl rfl hlt ?_
    generalize runeAt s p = rw at *
    obtain ⟨r, w⟩ := rw
    simp only at hw hpw hany
    repeat (first | refine Run.seq ?_ | refine Run.region ?_ | refine Ops.nil ?_ | refine Run.skip ?_ | refine Run.block ?_ | refine Run.cond_t rfl ?_ | refine Ops.pure T rfl (by decide) rfl ?_)
    refine Ops.rangeStr T rfl (by decide) rfl rfl (fun b2 => ?_)
    repeat (first | refine Ops.nil ?_ | refine Run.block ?_)
    refine Run.keep [1, 10, 5, 6, 16] [_, _, _, _, _] rfl ?_
    refine Run.rounds (fun m env L K => ∃ (q : Nat), m = cs.length - q ∧ q ≤ cs.length ∧ decide (r ∈ runesW cs q) = inR r cs ∧
      env = [(1, str cs), (10, .pointer (some ⟨b1, 0, none⟩)), (5, .int .i64 p), (6, .int .i32 r), (16, .pointer (some ⟨b2, 0, none⟩))] ∧
      L = [(b2, .stringIter (ba cs) q), (b1, .stringIter (ba s) (p + w))] ∧ K = J) cs.length ⟨0, by omega, by omega, rfl, rfl, rfl, rfl⟩ ?_
    rintro m env L K ⟨q, rfl, hq, hin, rfl, rfl, rfl⟩ ih2
    by_cases hqt : q < cs.length
    · have hw2 := runeAt_width cs q
      obtain ⟨_, _, hpw2, _, _⟩ := runes_step hqt
      rw [runesW_lt hqt, memD] at hin
      repeat (first | refine Run.seq ?_ | refine Run.region ?_)
      refine Ops.nextStr 0 rfl (by decide) rfl rfl hqt ?_
      generalize runeAt cs q = rw at *
      obtain ⟨x, w2⟩ := rw
      simp only at hw2 hpw2 hin
      repeat (first | refine Run.seq ?_ | refine Run.region ?_ | refine Ops.nil ?_ | refine Run.skip ?_ | refine Run.block ?_ | refine Run.cond_t rfl ?_ | refine Ops.eql rfl (by decide) rfl rfl ?_ | refine Ops.pure T rfl (by decide) rfl ?_)
      cases he : decide ((r : Int) = (x : Int)) with
      | true =>
        repeat (first | refine Run.seq ?_ | refine Run.region ?_ | refine Ops.nil ?_ | refine Run.cond_t rfl ?_ | refine Ops.pure T rfl (by decide) rfl ?_)
        refine Run.fin (Run.ret1 (by rw [hCf]; exact func99) results99 rfl (hR _ _ _ ?_))
        rw [he] at hin
        refine ⟨rfl, p, rfl, ?_⟩
        rw [← hany, ← hin]; simp
      | false =>
        rw [he, Bool.false_or] at hin
        repeat (first | refine Run.skip ?_ | refine Run.inBlock ?_ | refine Run.cond_f rfl ?_)
        refine Run.keep [1, 10, 5, 6, 16] [_, _, _, _, _] rfl ?_
        exact ih2 (cs.length - (q + w2)) _ _ _ (by omega) ⟨q + w2, rfl, by omega, hin, rfl, rfl, rfl⟩
    · rw [runesW_end hqt] at hin
      have hi : inR r cs = false := by rw [← hin]; simp
      rw [hi, Bool.false_or] at hany
      repeat (first | refine Run.seq ?_ | refine Run.region ?_)
      refine Ops.nextStrEnd 0 rfl (by decide) rfl rfl hqt ?_
      repeat (first | refine Run.seq ?_ | refine Ops.nil ?_ | refine Run.inBlock ?_ | refine Run.exit rfl ?_ | refine Run.cond_f rfl ?_ | refine Ops.pure T rfl (by decide) rfl ?_)
      refine Run.dropL (List.sublist_cons_self _ _) ?_
      refine Run.keep [1, 10] [_, _] rfl ?_
      exact ih (s.length - (p + w)) _ _ _ (by omega) ⟨p + w, rfl, by omega, hany, rfl, rfl, rfl⟩
  · rw [runesW_end hlt] at hany
    repeat (first | refine Run.seq ?_ | refine Run.region ?_)
    refine Ops.nextStrEnd 0 rfl (by decide) rfl rfl hlt ?_
    repeat (first | refine Run.seq ?_ | refine Run.region ?_ | refine Ops.nil ?_ | refine Run.exit rfl ?_ | refine Run.cond_f rfl ?_ | refine Ops.pure T rfl (by decide) rfl ?_)
    refine Run.fin (Run.ret1 (by rw [hCf]; exact func99) results99 rfl (hR _ _ _ ?_))
    exact ⟨rfl, -1, rfl, by rw [← hany]; rfl⟩
theorem name_zzContainsAny (I : Imm) (s cs : Tx) (hs : s.length ≤ 4620000000000000000) (hc : cs.length ≤ 4620000000000000000) : Pure prog 63 [str s, str cs] I fun w J => w = .bool ((runesW s 0).any fun r => inR r cs) := by
  refine Spec.enter 9 [(0, _), (1, _)] func63 rfl ntmps63 (by simp) rfl ?_
  intro C hCf hR hCI
  repeat (first | refine Run.seq ?_ | refine Run.region ?_ | refine Ops.nil ?_ | refine Ops.pure T rfl (by decide) rfl ?_)
  refine Ops.call ((name_zzIndexAny I s cs hs hc)) rfl (by decide) call99 rfl ?_
  rintro _ J1 l1 ⟨i, rfl, hi⟩
  repeat (first | refine Ops.nil ?_ | refine Ops.geq rfl (by decide) rfl rfl ?_ | refine Ops.pure T rfl (by decide) rfl ?_)
  refine Run.fin (Run.ret1 (by rw [hCf]; exact func63) results63 rfl (hR _ _ _ ?_))
  exact ⟨rfl, by rw [hi]⟩
end Go.V
namespace Go.V
open Go.Proofs.Tryz
open Go.RowKit
set_option linter.unusedVariables false
set_option linter.unusedSimpArgs false
set_option maxRecDepth 10000
attribute [local irreducible] Run Ops
theorem ixI_none {c : UInt8} {s : Tx} (h : ix c s = none) : ixI c s = -1 := by simp [ixI, h]
theorem ixI_eq {c : UInt8} {s : Tx} {k : Nat} (h : ix c s = some k) : ixI c s = k := by simp [ixI, h]
theorem any_snocN {f : UInt8 → Bool} {xs : Tx} {i : Nat} (h : i < xs.length) (h0 : (xs.take i).any f = false) (h1 : f (xs.getD i 0) = false) : (xs.take (i + 1)).any f = false := by
  rw [List.take_add_one, List.getElem?_eq_getElem h, List.any_append, h0]
  rw [List.getD_eq_getElem?_getD, List.getElem?_eq_getElem h] at h1
  simpa using h1
theorem any_atN {f : UInt8 → Bool} {xs : Tx} {i : Nat} (h : i < xs.length) (h1 : f (xs.getD i 0) = true) : xs.any f = true := by
  rw [List.getD_eq_getElem?_getD, List.getElem?_eq_getElem h] at h1
  exact List.any_eq_true.2 ⟨_, List.getElem_mem h, h1⟩
theorem b_eq (c d : UInt8) : decide (c = d) = decide ((c.toNat : Int) = (d.toNat : Int)) := by rw [decide_eq_decide]; exact u8_inj.symm
theorem badB_int (c : UInt8) : badB c = (decide ((c.toNat : Int) ≤ 32) || decide ((c.toNat : Int) = 47) || decide ((c.toNat : Int) = 63) || decide ((c.toNat : Int) = 35) || decide ((c.toNat : Int) = 64) || decide ((c.toNat : Int) = 127) || decide ((c.toNat : Int) = 92)) := by
  unfold badB
  have e : decide (c.toNat ≤ 32) = decide ((c.toNat : Int) ≤ 32) := by rw [decide_eq_decide]; omega
  rw [e, b_eq, b_eq, b_eq, b_eq, b_eq, b_eq]
  rfl
set_option maxHeartbeats 1000000 in
theorem spec_HostBad (I : Imm) (s : Tx) (hs : s.length ≤ 4620000000000000000) : Pure prog 45 [str s] I fun w J => w = .bool (hostBad s) := by
  refine Spec.enter 50 [(0, _)] func45 rfl ntmps45 (by simp) rfl ?_
  intro C hCf hR hCI
  repeat (first | refine Run.seq ?_ | refine Run.region ?_ | refine Ops.nil ?_ | refine Run.block ?_ | refine Ops.pure T rfl (by decide) rfl ?_ | refine Ops.lenS T rfl (by decide) rfl rfl ?_)
  refine Run.keep [0, 5, 6] [_, _, _] rfl ?_
  refine Run.rounds (fun m env L J => ∃ i : Nat, m = s.length - i ∧ i ≤ s.length ∧ (s.take i).any badB = false ∧ env = [(0, str s), (5, .int .i64 s.length), (6, .int .i64 i)] ∧ L = [] ∧ J = I) s.length ⟨0, by omega, by omega, rfl, rfl, rfl, rfl⟩ ?_
  rintro m env L J ⟨i, rfl, hi, hany, rfl, rfl, rfl⟩ ih
  repeat (first | refine Run.seq ?_ | refine Run.region ?_ | refine Ops.nil ?_ | refine Ops.lss rfl (by decide) rfl rfl ?_)
  refine Run.cond rfl rfl (fun h => ?_) (fun h => ?_)
  all_goals (try rw [h])
  all_goals (try simp only [decide_eq_true_eq, decide_eq_false_iff_not, Bool.not_eq_true', Bool.not_eq_false', Bool.and_eq_true, Bool.or_eq_true, Bool.and_eq_false_imp, Bool.or_eq_false_iff] at h)
  · have hi' : i < s.length := by omega
    repeat (first | refine Run.seq ?_ | refine Run.region ?_ | refine Ops.nil ?_ | refine Run.skip ?_ | refine Run.block ?_ | refine Ops.leq rfl (by decide) rfl rfl ?_ | refine Ops.pure T rfl (by decide) rfl ?_ | refine Ops.indexStr rfl (by decide) (T.undOk rfl) rfl rfl (by first | omega | (simp only [List.length_cons, List.length_nil] ; omega) | (simp; omega)) (by first | omega | (simp only [List.length_cons, List.length_nil] ; omega) | (simp; omega)) ?_)
    cases h1 : decide (((s.getD (i : Int).toNat 0).toNat : Int) ≤ 32) with
    | true =>
      repeat (first | refine Run.seq ?_ | refine Run.region ?_ | refine Ops.nil ?_ | refine Run.cond_t rfl ?_ | refine Ops.not rfl (by decide) ?_ | refine Ops.pure T rfl (by decide) rfl ?_)
      refine Run.fin (Run.ret1 (by rw [hCf]; exact func45) results45 rfl (hR _ _ _ ?_))
      exact ⟨rfl, by rw [Int.toNat_natCast] at h1; rw [hostBad, any_atN hi' (by rw [badB_int, h1]; simp)]⟩
    | false =>
    repeat (first | refine Ops.eql rfl (by decide) rfl rfl ?_ | refine Ops.pure T rfl (by decide) rfl ?_ | refine Ops.indexStr rfl (by decide) (T.undOk rfl) rfl rfl (by first | omega | (simp only [List.length_cons, List.length_nil] ; omega) | (simp; omega)) (by first | omega | (simp only [List.length_cons, List.length_nil] ; omega) | (simp; omega)) ?_)
    cases h2 : decide (((s.getD (i : Int).toNat 0).toNat : Int) = 47) with
    | true =>
      repeat (first | refine Run.seq ?_ | refine Run.region ?_ | refine Ops.nil ?_ | refine Run.cond_t rfl ?_ | refine Ops.not rfl (by decide) ?_ | refine Ops.pure T rfl (by decide) rfl ?_)
      refine Run.fin (Run.ret1 (by rw [hCf]; exact func45) results45 rfl (hR _ _ _ ?_))
      exact ⟨rfl, by rw [Int.toNat_natCast] at h2; rw [hostBad, any_atN hi' (by rw [badB_int, h2]; simp)]⟩
    | false =>
    repeat (first | refine Ops.eql rfl (by decide) rfl rfl ?_ | refine Ops.pure T rfl (by decide) rfl ?_ | refine Ops.indexStr rfl (by decide) (T.undOk rfl) rfl rfl (by first | omega | (simp only [List.length_cons, List.length_nil] ; omega) | (simp; omega)) (by first | omega | (simp only [List.length_cons, List.length_nil] ; omega) | (simp; omega)) ?_)
    cases h3 : decide (((s.getD (i : Int).toNat 0).toNat : Int) = 63) with
    | true =>
      repeat (first | refine Run.seq ?_ | refine Run.region ?_ | refine Ops.nil ?_ | refine Run.cond_t rfl ?_ | refine Ops.not rfl (by decide) ?_ | refine Ops.pure T rfl (by decide) rfl ?_)
      refine Run.fin (Run.ret1 (by rw [hCf]; exact func45) results45 rfl (hR _ _ _ ?_))
      exact ⟨rfl, by rw [Int.toNat_natCast] at h3; rw [hostBad, any_atN hi' (by rw [badB_int, h3]; simp)]⟩
    | false =>
    repeat (first | refine Ops.eql rfl (by decide) rfl rfl ?_ | refine Ops.pure T rfl (by decide) rfl ?_ | refine Ops.indexStr rfl (by decide) (T.undOk rfl) rfl rfl (by first | omega | (simp only [List.length_cons, List.length_nil] ; omega) | (simp; omega)) (by first | omega | (simp only [List.length_cons, List.length_nil] ; omega) | (simp; omega)) ?_)
    cases h4 : decide (((s.getD (i : Int).toNat 0).toNat : Int) = 35) with
    | true =>
      repeat (first | refine Run.seq ?_ | refine Run.region ?_ | refine Ops.nil ?_ | refine Run.cond_t rfl ?_ | refine Ops.not rfl (by decide) ?_ | refine Ops.pure T rfl (by decide) rfl ?_)
      refine Run.fin (Run.ret1 (by rw [hCf]; exact func45) results45 rfl (hR _ _ _ ?_))
      exact ⟨rfl, by rw [Int.toNat_natCast] at h4; rw [hostBad, any_atN hi' (by rw [badB_int, h4]; simp)]⟩
    | false =>
    repeat (first | refine Ops.eql rfl (by decide) rfl rfl ?_ | refine Ops.pure T rfl (by decide) rfl ?_ | refine Ops.indexStr rfl (by decide) (T.undOk rfl) rfl rfl (by first | omega | (simp only [List.length_cons, List.length_nil] ; omega) | (simp; omega)) (by first | omega | (simp only [List.length_cons, List.length_nil] ; omega) | (simp; omega)) ?_)
    cases h5 : decide (((s.getD (i : Int).toNat 0).toNat : Int) = 64) with
    | true =>
      repeat (first | refine Run.seq ?_ | refine Run.region ?_ | refine Ops.nil ?_ | refine Run.cond_t rfl ?_ | refine Ops.not rfl (by decide) ?_ | refine Ops.pure T rfl (by decide) rfl ?_)
      refine Run.fin (Run.ret1 (by rw [hCf]; exact func45) results45 rfl (hR _ _ _ ?_))
      exact ⟨rfl, by rw [Int.toNat_natCast] at h5; rw [hostBad, any_atN hi' (by rw [badB_int, h5]; simp)]⟩
    | false =>
    repeat (first | refine Ops.eql rfl (by decide) rfl rfl ?_ | refine Ops.pure T rfl (by decide) rfl ?_ | refine Ops.indexStr rfl (by decide) (T.undOk rfl) rfl rfl (by first | omega | (simp only [List.length_cons, List.length_nil] ; omega) | (simp; omega)) (by first | omega | (simp only [List.length_cons, List.length_nil] ; omega) | (simp; omega)) ?_)
    cases h6 : decide (((s.getD (i : Int).toNat 0).toNat : Int) = 127) with
    | true =>
      repeat (first | refine Run.seq ?_ | refine Run.region ?_ | refine Ops.nil ?_ | refine Run.cond_t rfl ?_ | refine Ops.not rfl (by decide) ?_ | refine Ops.pure T rfl (by decide) rfl ?_)
      refine Run.fin (Run.ret1 (by rw [hCf]; exact func45) results45 rfl (hR _ _ _ ?_))
      exact ⟨rfl, by rw [Int.toNat_natCast] at h6; rw [hostBad, any_atN hi' (by rw [badB_int, h6]; simp)]⟩
    | false =>
    repeat (first | refine Ops.nil ?_ | refine Ops.eql rfl (by decide) rfl rfl ?_ | refine Ops.pure T rfl (by decide) rfl ?_ | refine Ops.indexStr rfl (by decide) (T.undOk rfl) rfl rfl (by first | omega | (simp only [List.length_cons, List.length_nil] ; omega) | (simp; omega)) (by first | omega | (simp only [List.length_cons, List.length_nil] ; omega) | (simp; omega)) ?_)
    cases h7 : decide (((s.getD (i : Int).toNat 0).toNat : Int) = 92) with
    | true =>
      repeat (first | refine Run.seq ?_ | refine Run.region ?_ | refine Ops.nil ?_ | refine Run.cond_t rfl ?_ | refine Ops.pure T rfl (by decide) rfl ?_)
      refine Run.fin (Run.ret1 (by rw [hCf]; exact func45) results45 rfl (hR _ _ _ ?_))
      exact ⟨rfl, by rw [Int.toNat_natCast] at h7; rw [hostBad, any_atN hi' (by rw [badB_int, h7]; simp)]⟩
    | false =>
    repeat (first | refine Run.region ?_ | refine Ops.nil ?_ | refine Run.skip ?_ | refine Run.inBlock ?_ | refine Run.cond_f rfl ?_ | refine Ops.add rfl (by decide) rfl rfl (wI (by first | omega | (simp only [List.length_cons, List.length_nil] ; omega) | (simp; omega)) (by first | omega | (simp only [List.length_cons, List.length_nil] ; omega) | (simp; omega))) ?_ | refine Ops.pure T rfl (by decide) rfl ?_)
    refine Run.keep [0, 5, 6] [_, _, _] rfl ?_
    refine ih (s.length - (i + 1)) _ _ _ (by omega) ⟨i + 1, rfl, by omega, any_snocN hi' hany ?_, rfl, rfl, rfl⟩
    rw [Int.toNat_natCast] at h1 h2 h3 h4 h5 h6 h7
    rw [badB_int, h1, h2, h3, h4, h5, h6, h7]; rfl
  · have : i = s.length := by omega
    subst this
    rw [List.take_length] at hany
    repeat (first | refine Run.seq ?_ | refine Run.region ?_ | refine Ops.nil ?_ | refine Run.exit rfl ?_ | refine Ops.pure T rfl (by decide) rfl ?_)
    refine Run.fin (Run.ret1 (by rw [hCf]; exact func45) results45 rfl (hR _ _ _ ?_))
    exact ⟨rfl, by rw [hostBad, hany]⟩
theorem spec_pathGood (I : Imm) (s : Tx) (hs : s.length ≤ 4620000000000000000) : Pure prog 48 [str s] I fun w J => w = .bool (pathGood s) := by
  refine Spec.enter 5 [(0, _)] func48 rfl ntmps48 (by simp) rfl ?_
  intro C hCf hR hCI
  repeat (first | refine Run.seq ?_ | refine Run.region ?_ | refine Ops.nil ?_ | refine Ops.pure T rfl (by decide) rfl ?_)
  refine Ops.call ((spec_within I s (smallT ++ [47]) 1 255 hs (by decide))) rfl (by decide) call53 rfl ?_
  rintro _ J l rfl
  repeat (first | refine Ops.nil ?_ | refine Ops.pure T rfl (by decide) rfl ?_)
  refine Run.fin (Run.ret1 (by rw [hCf]; exact func48) results48 rfl (hR _ _ _ ?_))
  exact ⟨rfl, congrArg Value.bool (within_eq ascii_sp)⟩
theorem spec_tagGood (I : Imm) (s : Tx) (hs : s.length ≤ 4620000000000000000) : Pure prog 50 [str s] I fun w J => w = .bool (tagGood s) := by
  refine Spec.enter 5 [(0, _)] func50 rfl ntmps50 (by simp) rfl ?_
  intro C hCf hR hCI
  repeat (first | refine Run.seq ?_ | refine Run.region ?_ | refine Ops.nil ?_ | refine Ops.pure T rfl (by decide) rfl ?_)
  refine Ops.call ((spec_within I s (smallT ++ capT) 1 128 hs (by decide))) rfl (by decide) call53 rfl ?_
  rintro _ J l rfl
  repeat (first | refine Ops.nil ?_ | refine Ops.pure T rfl (by decide) rfl ?_)
  refine Run.fin (Run.ret1 (by rw [hCf]; exact func50) results50 rfl (hR _ _ _ ?_))
  exact ⟨rfl, congrArg Value.bool (within_eq ascii_st)⟩
theorem spec_digestGood (I : Imm) (s : Tx) (hs : s.length ≤ 4620000000000000000) : Pure prog 51 [str s] I fun w J => w = .bool (digGood s) := by
  refine Spec.enter 16 [(0, _)] func51 rfl ntmps51 (by simp) rfl ?_
  intro C hCf hR hCI
  repeat (first | refine Run.seq ?_ | refine Run.region ?_ | refine Ops.nil ?_ | refine Ops.eql rfl (by decide) rfl rfl ?_ | refine Ops.pure T rfl (by decide) rfl ?_ | refine Ops.lenS T rfl (by decide) rfl rfl ?_)
  cases h : decide ((s.length : Int) = 71) with
  | false =>
    repeat (first | refine Ops.nil ?_ | refine Ops.not rfl (by decide) ?_ | refine Ops.pure T rfl (by decide) rfl ?_)
    refine Run.fin (Run.ret1 (by rw [hCf]; exact func51) results51 rfl (hR _ _ _ ?_))
    have h' := of_decide_eq_false h
    exact ⟨rfl, by rw [digGood, decide_eq_false (show ¬ s.length = 71 by omega)]; rfl⟩
  | true =>
    have h' := of_decide_eq_true h
    repeat (first | refine Ops.eqlStr rfl (by decide) rfl rfl ?_ | refine Ops.pure T rfl (by decide) rfl ?_ | refine Ops.sliceStrHi rfl (by decide) (T.undOk rfl) rfl rfl (by first | omega | (simp only [List.length_cons, List.length_nil] ; omega) | (simp; omega)) (by first | omega | (simp only [List.length_cons, List.length_nil] ; omega) | (simp; omega)) ?_)
    have e : decide (s.length = 71) = true := decide_eq_true (by omega)
    have e7 : (7 : Int).toNat = 7 := rfl
    rw [e7]
    cases h2 : decide (s.take 7 = [115, 104, 97, 50, 53, 54, 58]) with
    | false =>
      repeat (first | refine Ops.nil ?_ | refine Ops.not rfl (by decide) ?_ | refine Ops.pure T rfl (by decide) rfl ?_)
      refine Run.fin (Run.ret1 (by rw [hCf]; exact func51) results51 rfl (hR _ _ _ ?_))
      exact ⟨rfl, by rw [digGood, e, h2]; rfl⟩
    | true =>
      repeat (first | refine Ops.pure T rfl (by decide) rfl ?_ | refine Ops.sliceStrLo rfl (by decide) (T.undOk rfl) rfl rfl (by first | omega | (simp only [List.length_cons, List.length_nil] ; omega) | (simp; omega)) (by first | omega | (simp only [List.length_cons, List.length_nil] ; omega) | (simp; omega)) ?_)
      refine Ops.call ((spec_within I (s.drop 7) hexT 64 64 (by simp; omega) (by decide))) rfl (by decide) call53 rfl ?_
      rintro _ J l rfl
      repeat (first | refine Ops.nil ?_ | refine Ops.pure T rfl (by decide) rfl ?_)
      refine Run.fin (Run.ret1 (by rw [hCf]; exact func51) results51 rfl (hR _ _ _ ?_))
      refine ⟨rfl, ?_⟩
      rw [digGood, e, h2, ← within_eq ascii_hex]
      rfl
set_option maxHeartbeats 1000000 in
theorem spec_HostPlain (I : Imm) (s : Tx) (hs : s.length ≤ 4620000000000000000) : Pure prog 16 [str s] I fun w J => w = .bool (hostPlain s) := by
  refine Spec.enter 24 [(0, _)] func16 rfl ntmps16 (by simp) rfl ?_
  intro C hCf hR hCI
  repeat (first | refine Run.seq ?_ | refine Run.region ?_ | refine Ops.nil ?_ | refine Ops.pure T rfl (by decide) rfl ?_)
  refine Ops.call ((spec_firstOf s 58 I hs)) rfl (by decide) call47 rfl ?_
  rintro _ J1 l1 rfl
  cases hk : ix 58 s with
  | none =>
    rw [ixI_none hk]
    repeat (first | refine Run.seq ?_ | refine Run.region ?_ | refine Ops.nil ?_ | refine Run.skip ?_ | refine Run.cond_f rfl ?_ | refine Ops.geq rfl (by decide) rfl rfl ?_ | refine Ops.pure T rfl (by decide) rfl ?_)
    refine Ops.call ((spec_within J1 s (smallT ++ capT) 0 300 hs (by decide))) rfl (by decide) call53 rfl ?_
    rintro _ J3 l3 rfl
    have ew : (allR s (smallT ++ capT) && (decide (0 ≤ (runesW s 0).length) && decide ((runesW s 0).length ≤ 300))) = sWithin s (smallT ++ capT) 0 300 := within_eq ascii_st
    rw [ew]
    cases hw : sWithin s (smallT ++ capT) 0 300 with
    | false =>
      repeat (first | refine Ops.nil ?_ | refine Ops.not rfl (by decide) ?_ | refine Ops.pure T rfl (by decide) rfl ?_)
      refine Run.fin (Run.ret1 (by rw [hCf]; exact func16) results16 rfl (hR _ _ _ ?_))
      refine ⟨rfl, ?_⟩
      simp only [hostPlain, hk, hp, hw]
      simp
    | true =>
      repeat (first | refine Ops.pure T rfl (by decide) rfl ?_)
      refine Ops.call ((spec_firstOf s 95 J3 hs)) rfl (by decide) call47 rfl ?_
      rintro _ J4 l4 rfl
      repeat (first | refine Ops.nil ?_ | refine Ops.lss rfl (by decide) rfl rfl ?_ | refine Ops.pure T rfl (by decide) rfl ?_)
      refine Run.fin (Run.ret1 (by rw [hCf]; exact func16) results16 rfl (hR _ _ _ ?_))
      refine ⟨rfl, ?_⟩
      simp only [hostPlain, hk, hp, hw, ixI_has']
      simp
  | some k =>
    rw [ixI_eq hk]
    have hlt := ix_lt hk
    repeat (first | refine Run.seq ?_ | refine Run.region ?_ | refine Ops.nil ?_ | refine Run.cond_t rfl ?_ | refine Ops.add rfl (by decide) rfl rfl (wI (by first | omega | (simp only [List.length_cons, List.length_nil] ; omega) | (simp; omega)) (by first | omega | (simp only [List.length_cons, List.length_nil] ; omega) | (simp; omega))) ?_ | refine Ops.geq rfl (by decide) rfl rfl ?_ | refine Ops.pure T rfl (by decide) rfl ?_ | refine Ops.sliceStrLo rfl (by decide) (T.undOk rfl) rfl rfl (by first | omega | (simp only [List.length_cons, List.length_nil] ; omega) | (simp; omega)) (by first | omega | (simp only [List.length_cons, List.length_nil] ; omega) | (simp; omega)) ?_)
    rw [decide_eq_true (show (0 : Int) ≤ (k : Int) by omega)]
    skip
    have e1 : ((k : Int) + 1).toNat = k + 1 := by omega
    rw [e1]
    refine Ops.call ((spec_within J1 (s.drop (k + 1)) digT 1 5 (by simp; omega) (by decide))) rfl (by decide) call53 rfl ?_
    rintro _ J2 l2 rfl
    have ew : (allR (s.drop (k + 1)) digT && (decide (1 ≤ (runesW (s.drop (k + 1)) 0).length) && decide ((runesW (s.drop (k + 1)) 0).length ≤ 5))) = sWithin (s.drop (k + 1)) digT 1 5 := within_eq ascii_dig
    rw [ew]
    cases hw0 : sWithin (s.drop (k + 1)) digT 1 5 with
    | false =>
      repeat (first | refine Run.seq ?_ | refine Run.region ?_ | refine Ops.nil ?_ | refine Run.cond_t rfl ?_ | refine Ops.pure T rfl (by decide) rfl ?_)
      refine Run.fin (Run.ret1 (by rw [hCf]; exact func16) results16 rfl (hR _ _ _ ?_))
      exact ⟨rfl, by simp only [hostPlain, hk, hw0]; rfl⟩
    | true =>
      repeat (first | refine Run.seq ?_ | refine Run.region ?_ | refine Ops.nil ?_ | refine Run.skip ?_ | refine Run.cond_f rfl ?_ | refine Ops.pure T rfl (by decide) rfl ?_ | refine Ops.sliceStrHi rfl (by decide) (T.undOk rfl) rfl rfl (by first | omega | (simp only [List.length_cons, List.length_nil] ; omega) | (simp; omega)) (by first | omega | (simp only [List.length_cons, List.length_nil] ; omega) | (simp; omega)) ?_)
      have e2 : ((k : Int)).toNat = k := by omega
      rw [e2]
      refine Ops.call ((spec_within J2 (s.take k) (smallT ++ capT) 0 300 (by simp; omega) (by decide))) rfl (by decide) call53 rfl ?_
      rintro _ J3 l3 rfl
      have ew : (allR (s.take k) (smallT ++ capT) && (decide (0 ≤ (runesW (s.take k) 0).length) && decide ((runesW (s.take k) 0).length ≤ 300))) = sWithin (s.take k) (smallT ++ capT) 0 300 := within_eq ascii_st
      rw [ew]
      cases hw : sWithin (s.take k) (smallT ++ capT) 0 300 with
      | false =>
        repeat (first | refine Ops.nil ?_ | refine Ops.not rfl (by decide) ?_ | refine Ops.pure T rfl (by decide) rfl ?_)
        refine Run.fin (Run.ret1 (by rw [hCf]; exact func16) results16 rfl (hR _ _ _ ?_))
        refine ⟨rfl, ?_⟩
        simp only [hostPlain, hk, hp, hw]
        simp [hw0]
      | true =>
        repeat (first | refine Ops.pure T rfl (by decide) rfl ?_)
        refine Ops.call ((spec_firstOf (s.take k) 95 J3 (by simp; omega))) rfl (by decide) call47 rfl ?_
        rintro _ J4 l4 rfl
        repeat (first | refine Ops.nil ?_ | refine Ops.lss rfl (by decide) rfl rfl ?_ | refine Ops.pure T rfl (by decide) rfl ?_)
        refine Run.fin (Run.ret1 (by rw [hCf]; exact func16) results16 rfl (hR _ _ _ ?_))
        refine ⟨rfl, ?_⟩
        simp only [hostPlain, hk, hp, hw, ixI_has']
        simp [hw0]
theorem spec_hosted (I : Imm) (s : Tx) (hs : s.length ≤ 4620000000000000000) : Pure prog 17 [str s] I fun w J => w = .bool (hosted s) := by
  refine Spec.enter 15 [(0, _)] func17 rfl ntmps17 (by simp) rfl ?_
  intro C hCf hR hCI
  repeat (first | refine Run.seq ?_ | refine Run.region ?_ | refine Ops.nil ?_ | refine Ops.pure T rfl (by decide) rfl ?_)
  refine Ops.call ((spec_firstOf s 46 I hs)) rfl (by decide) call47 rfl ?_
  rintro _ J1 l1 rfl
  repeat (first | refine Ops.geq rfl (by decide) rfl rfl ?_ | refine Ops.pure T rfl (by decide) rfl ?_)
  rw [ixI_has]
  cases h1 : hasB 46 s with
  | true =>
    repeat (first | refine Ops.nil ?_ | refine Ops.not rfl (by decide) ?_ | refine Ops.pure T rfl (by decide) rfl ?_)
    refine Run.fin (Run.ret1 (by rw [hCf]; exact func17) results17 rfl (hR _ _ _ ?_))
    exact ⟨rfl, by simp [hosted, h1]⟩
  | false =>
    repeat (first | refine Ops.pure T rfl (by decide) rfl ?_)
    refine Ops.call ((spec_firstOf s 58 J1 hs)) rfl (by decide) call47 rfl ?_
    rintro _ J2 l2 rfl
    repeat (first | refine Ops.geq rfl (by decide) rfl rfl ?_ | refine Ops.pure T rfl (by decide) rfl ?_)
    rw [ixI_has]
    cases h2 : hasB 58 s with
    | true =>
      repeat (first | refine Ops.nil ?_ | refine Ops.not rfl (by decide) ?_ | refine Ops.pure T rfl (by decide) rfl ?_)
      refine Run.fin (Run.ret1 (by rw [hCf]; exact func17) results17 rfl (hR _ _ _ ?_))
      exact ⟨rfl, by simp [hosted, h2]⟩
    | false =>
      repeat (first | refine Ops.nil ?_ | refine Ops.eqlStr rfl (by decide) rfl rfl ?_ | refine Ops.pure T rfl (by decide) rfl ?_)
      refine Run.fin (Run.ret1 (by rw [hCf]; exact func17) results17 rfl (hR _ _ _ ?_))
      exact ⟨rfl, by simp only [hosted, h1, h2]; rfl⟩
theorem spec_HostNamed (I : Imm) (s : Tx) (hs : s.length ≤ 4620000000000000000) : Pure prog 6 [str s] I fun w J => w = .bool (hostNamed s) := by
  refine Spec.enter 9 [(0, _)] func6 rfl ntmps6 (by simp) rfl ?_
  intro C hCf hR hCI
  repeat (first | refine Run.seq ?_ | refine Run.region ?_ | refine Ops.nil ?_ | refine Ops.pure T rfl (by decide) rfl ?_)
  refine Ops.call ((spec_HostPlain I s hs)) rfl (by decide) call16 rfl ?_
  rintro _ J1 l1 rfl
  cases h1 : hostPlain s with
  | false =>
    repeat (first | refine Ops.nil ?_ | refine Ops.not rfl (by decide) ?_ | refine Ops.pure T rfl (by decide) rfl ?_)
    refine Run.fin (Run.ret1 (by rw [hCf]; exact func6) results6 rfl (hR _ _ _ ?_))
    exact ⟨rfl, by simp [hostNamed, h1]⟩
  | true =>
    repeat (first | refine Ops.pure T rfl (by decide) rfl ?_)
    refine Ops.call ((spec_hosted J1 s hs)) rfl (by decide) call17 rfl ?_
    rintro _ J2 l2 rfl
    repeat (first | refine Ops.nil ?_ | refine Ops.pure T rfl (by decide) rfl ?_)
    refine Run.fin (Run.ret1 (by rw [hCf]; exact func6) results6 rfl (hR _ _ _ ?_))
    exact ⟨rfl, by simp [hostNamed, h1]⟩
def NOpt.cs (o : NOpt) : List Value := [.bool o.strict, .bool o.ins, str o.reg, str o.tag]
theorem spec_hub (I : Imm) (o : NOpt) : Pure prog 46 [.agg o.cs.toArray] I fun w J => w = str (hub o.reg) := by
  refine Spec.enter 8 [(0, _)] func46 rfl ntmps46 (by simp) rfl ?_
  intro C hCf hR hCI
  repeat (first | refine Run.seq ?_ | refine Run.region ?_)
  refine Ops.box rfl (by decide) rfl rfl (fun b => ?_)
  repeat (first | refine Run.seq ?_ | refine Run.region ?_ | refine Ops.nil ?_ | refine Ops.neqStr rfl (by decide) rfl rfl ?_ | refine Ops.pure T rfl (by decide) rfl ?_ | refine Ops.load 0 rfl (by decide) rfl rfl (T.aggOk rfl) rfl ?_)
  cases h : decide (o.reg = []) with
  | true =>
    repeat (first | refine Run.seq ?_ | refine Run.region ?_ | refine Ops.nil ?_ | refine Run.skip ?_ | refine Run.cond_f rfl ?_ | refine Ops.pure T rfl (by decide) rfl ?_)
    refine Run.fin (Run.ret1 (by rw [hCf]; exact func46) results46 rfl (hR _ _ _ ?_))
    exact ⟨rfl, by rw [hub, if_pos (of_decide_eq_true h)]; rfl⟩
  | false =>
    repeat (first | refine Run.seq ?_ | refine Run.region ?_ | refine Ops.nil ?_ | refine Run.cond_t rfl ?_ | refine Ops.pure T rfl (by decide) rfl ?_ | refine Ops.load 0 rfl (by decide) rfl rfl (T.aggOk rfl) rfl ?_)
    refine Run.fin (Run.ret1 (by rw [hCf]; exact func46) results46 rfl (hR _ _ _ ?_))
    exact ⟨rfl, by rw [hub, if_neg (of_decide_eq_false h)]⟩
set_option maxHeartbeats 1000000 in
theorem spec_LooseScheme (I : Imm) (s : Tx) (hs : s.length ≤ 4620000000000000000) : Pure prog 44 [str s] I fun w J => w = .bool (loose s) := by
  refine Spec.enter 29 [(0, _)] func44 rfl ntmps44 (by simp) rfl ?_
  intro C hCf hR hCI
  repeat (first | refine Run.seq ?_ | refine Run.region ?_ | refine Ops.nil ?_ | refine Ops.pure T rfl (by decide) rfl ?_)
  refine Ops.call ((spec_firstOf s 58 I hs)) rfl (by decide) call47 rfl ?_
  rintro _ J1 l1 rfl
  cases hk : ix 58 s with
  | none =>
    rw [ixI_none hk]
    have ho : hostOf s = s := by simp [hostOf, hk]
    repeat (first | refine Run.seq ?_ | refine Run.region ?_ | refine Ops.nil ?_ | refine Run.skip ?_ | refine Run.cond_f rfl ?_ | refine Ops.eqlStr rfl (by decide) rfl rfl ?_ | refine Ops.geq rfl (by decide) rfl rfl ?_ | refine Ops.pure T rfl (by decide) rfl ?_ | refine Ops.lenS T rfl (by decide) rfl rfl ?_)
    cases h1 : decide (s = [108, 111, 99, 97, 108, 104, 111, 115, 116]) with
    | true =>
      repeat (first | refine Ops.nil ?_ | refine Ops.not rfl (by decide) ?_ | refine Ops.notU rfl (by decide) ?_ | refine Ops.pure T rfl (by decide) rfl ?_)
      refine Run.fin (Run.ret1 (by rw [hCf]; exact func44) results44 rfl (hR _ _ _ ?_))
      have h1' : decide (s = localhostT) = true := h1
      exact ⟨rfl, by simp [loose, h1']⟩
    | false =>
      have h1' : decide (s = localhostT) = false := h1
      repeat (first | refine Ops.geq rfl (by decide) rfl rfl ?_ | refine Ops.pure T rfl (by decide) rfl ?_)
      cases h2 : decide ((6 : Int) ≤ (s.length : Int)) with
      | false =>
        have h2' := of_decide_eq_false h2
        repeat (first | refine Ops.nil ?_ | refine Ops.not rfl (by decide) ?_ | refine Ops.pure T rfl (by decide) rfl ?_)
        refine Run.fin (Run.ret1 (by rw [hCf]; exact func44) results44 rfl (hR _ _ _ ?_))
        refine ⟨rfl, ?_⟩
        rw [loose, h1', ho, endsT, decide_eq_false (by simp only [List.length_cons, List.length_nil]; omega)]
        rfl
      | true =>
        have h2' := of_decide_eq_true h2
        repeat (first | refine Ops.nil ?_ | refine Ops.eqlStr rfl (by decide) rfl rfl ?_ | refine Ops.sub rfl (by decide) rfl rfl (wI (by first | omega | (simp only [List.length_cons, List.length_nil] ; omega) | (simp; omega)) (by first | omega | (simp only [List.length_cons, List.length_nil] ; omega) | (simp; omega))) ?_ | refine Ops.pure T rfl (by decide) rfl ?_ | refine Ops.sliceStrLo rfl (by decide) (T.undOk rfl) rfl rfl (by first | omega | (simp only [List.length_cons, List.length_nil] ; omega) | (simp; omega)) (by first | omega | (simp only [List.length_cons, List.length_nil] ; omega) | (simp; omega)) ?_)
        refine Run.fin (Run.ret1 (by rw [hCf]; exact func44) results44 rfl (hR _ _ _ ?_))
        refine ⟨rfl, ?_⟩
        rw [loose, h1', ho, endsT, decide_eq_true (by simp only [List.length_cons, List.length_nil]; omega), show ((s.length : Int) - 6).toNat = s.length - 6 by omega]
        rfl
  | some k =>
    rw [ixI_eq hk]
    have hlt := ix_lt hk
    have ho : hostOf s = s.take k := by simp [hostOf, hk]
    repeat (first | refine Run.seq ?_ | refine Run.region ?_ | refine Ops.nil ?_ | refine Run.cond_t rfl ?_ | refine Ops.eqlStr rfl (by decide) rfl rfl ?_ | refine Ops.geq rfl (by decide) rfl rfl ?_ | refine Ops.pure T rfl (by decide) rfl ?_ | refine Ops.lenS T rfl (by decide) rfl rfl ?_ | refine Ops.sliceStrHi rfl (by decide) (T.undOk rfl) rfl rfl (by first | omega | (simp only [List.length_cons, List.length_nil] ; omega) | (simp; omega)) (by first | omega | (simp only [List.length_cons, List.length_nil] ; omega) | (simp; omega)) ?_)
    rw [decide_eq_true (show (0 : Int) ≤ (k : Int) by omega)]
    skip
    have e2 : ((k : Int)).toNat = k := by omega
    rw [e2]
    have hl : (s.take k).length ≤ 4620000000000000000 := by simp; omega
    skip
    cases h1 : decide (s = [108, 111, 99, 97, 108, 104, 111, 115, 116]) with
    | true =>
      repeat (first | refine Ops.nil ?_ | refine Ops.not rfl (by decide) ?_ | refine Ops.notU rfl (by decide) ?_ | refine Ops.pure T rfl (by decide) rfl ?_)
      refine Run.fin (Run.ret1 (by rw [hCf]; exact func44) results44 rfl (hR _ _ _ ?_))
      have h1' : decide (s = localhostT) = true := h1
      exact ⟨rfl, by simp [loose, h1']⟩
    | false =>
      have h1' : decide (s = localhostT) = false := h1
      repeat (first | refine Ops.geq rfl (by decide) rfl rfl ?_ | refine Ops.pure T rfl (by decide) rfl ?_)
      cases h2 : decide ((6 : Int) ≤ ((s.take k).length : Int)) with
      | false =>
        have h2' := of_decide_eq_false h2
        repeat (first | refine Ops.nil ?_ | refine Ops.not rfl (by decide) ?_ | refine Ops.pure T rfl (by decide) rfl ?_)
        refine Run.fin (Run.ret1 (by rw [hCf]; exact func44) results44 rfl (hR _ _ _ ?_))
        refine ⟨rfl, ?_⟩
        rw [loose, h1', ho, endsT, decide_eq_false (by simp only [List.length_cons, List.length_nil]; omega)]
        rfl
      | true =>
        have h2' := of_decide_eq_true h2
        repeat (first | refine Ops.nil ?_ | refine Ops.eqlStr rfl (by decide) rfl rfl ?_ | refine Ops.sub rfl (by decide) rfl rfl (wI (by first | omega | (simp only [List.length_cons, List.length_nil] ; omega) | (simp; omega)) (by first | omega | (simp only [List.length_cons, List.length_nil] ; omega) | (simp; omega))) ?_ | refine Ops.pure T rfl (by decide) rfl ?_ | refine Ops.sliceStrLo rfl (by decide) (T.undOk rfl) rfl rfl (by first | omega | (simp only [List.length_cons, List.length_nil] ; omega) | (simp; omega)) (by first | omega | (simp only [List.length_cons, List.length_nil] ; omega) | (simp; omega)) ?_)
        refine Run.fin (Run.ret1 (by rw [hCf]; exact func44) results44 rfl (hR _ _ _ ?_))
        refine ⟨rfl, ?_⟩
        rw [loose, h1', ho, endsT, decide_eq_true (by simp only [List.length_cons, List.length_nil]; omega), show (((s.take k).length : Int) - 6).toNat = (s.take k).length - 6 by omega]
        rfl
end Go.V
namespace Go.V
open Go.Proofs.Tryz
open Go.RowKit
set_option linter.unusedVariables false
set_option linter.unusedSimpArgs false
set_option maxRecDepth 10000
attribute [local irreducible] Run Ops
set_option maxHeartbeats 1000000 in
theorem name_zzPort (I : Imm) (s : Tx) (hs : s.length ≤ 4620000000000000000) : Pure prog 129 [str s] I fun w J => w = str (portF s) := by
  refine Spec.enter 44 [(0, _)] func129 rfl ntmps129 (by simp) rfl ?_
  intro C hCf hR hCI
  repeat (first | refine Run.seq ?_ | refine Run.region ?_ | refine Ops.nil ?_ | refine Run.block ?_ | refine Ops.pure T rfl (by decide) rfl ?_)
  refine Run.keep [0, 3] [_, _] rfl ?_
  refine Run.rounds (fun m env L J => ∃ i : Nat, m = 5 - i ∧ i ≤ 5 ∧ portGo s (5 - i) = portF s ∧ env = [(0, str s), (3, .int .i64 ((i : Int) + 1))] ∧ L = [] ∧ J = I) 5 ⟨0, rfl, by omega, rfl, rfl, rfl, rfl⟩ ?_
  rintro m env L J ⟨i, rfl, hi, hgo, rfl, rfl, rfl⟩ ih
  repeat (first | refine Run.seq ?_ | refine Run.region ?_ | refine Ops.leq rfl (by decide) rfl rfl ?_ | refine Ops.pure T rfl (by decide) rfl ?_)
  cases h5 : decide ((i : Int) + 1 ≤ 5) with
  | false =>
    obtain rfl : i = 5 := by have := of_decide_eq_false h5; omega
    repeat (first | refine Run.seq ?_ | refine Run.region ?_ | refine Ops.nil ?_ | refine Run.exit rfl ?_ | refine Run.cond_f rfl ?_ | refine Ops.not rfl (by decide) ?_ | refine Ops.pure T rfl (by decide) rfl ?_)
    refine Run.fin (Run.ret1 (by rw [hCf]; exact func129) results129 rfl (hR _ _ _ ?_))
    exact ⟨rfl, by rw [← hgo]; rfl⟩
  | true =>
    have h5' := of_decide_eq_true h5
    have e : 5 - i = (4 - i) + 1 := by omega
    have en : 5 - (4 - i) = i + 1 := by omega
    rw [e] at hgo
    simp only [portGo, en] at hgo
    repeat (first | refine Ops.nil ?_ | refine Ops.lss rfl (by decide) rfl rfl ?_ | refine Ops.pure T rfl (by decide) rfl ?_ | refine Ops.lenS T rfl (by decide) rfl rfl ?_)
    cases hl : decide ((i : Int) + 1 < (s.length : Int)) with
    | false =>
      have := of_decide_eq_false hl
      rw [if_neg (by omega)] at hgo
      repeat (first | refine Run.seq ?_ | refine Run.region ?_ | refine Ops.nil ?_ | refine Run.exit rfl ?_ | refine Run.cond_f rfl ?_ | refine Ops.pure T rfl (by decide) rfl ?_)
      refine Run.fin (Run.ret1 (by rw [hCf]; exact func129) results129 rfl (hR _ _ _ ?_))
      exact ⟨rfl, congrArg str hgo⟩
    | true =>
      have hl' := of_decide_eq_true hl
      rw [if_pos (by omega)] at hgo
      have e1 : ((s.length : Int) - ((i : Int) + 1)).toNat = s.length - (i + 1) := by omega
      have e2 : ((s.length : Int) - ((i : Int) + 1) - 1).toNat = s.length - (i + 1) - 1 := by omega
      repeat (first | refine Run.seq ?_ | refine Run.region ?_ | refine Ops.nil ?_ | refine Run.skip ?_ | refine Run.block ?_ | refine Run.cond_t rfl ?_ | refine Ops.lss rfl (by decide) rfl rfl ?_ | refine Ops.sub rfl (by decide) rfl rfl (wI (by first | omega | (simp only [List.length_cons, List.length_nil] ; omega) | (simp; omega)) (by first | omega | (simp only [List.length_cons, List.length_nil] ; omega) | (simp; omega))) ?_ | refine Ops.pure T rfl (by decide) rfl ?_ | refine Ops.lenS T rfl (by decide) rfl rfl ?_ | refine Ops.indexStr rfl (by decide) (T.undOk rfl) rfl rfl (by first | omega | (simp only [List.length_cons, List.length_nil] ; omega) | (simp; omega)) (by first | omega | (simp only [List.length_cons, List.length_nil] ; omega) | (simp; omega)) ?_)
      rw [e1]
      generalize hc : s.getD (s.length - (i + 1)) 0 = c at *
      cases hd1 : decide ((c.toNat : Int) < 48) with
      | true =>
        have := of_decide_eq_true hd1
        rw [if_pos (by omega)] at hgo
        repeat (first | refine Run.seq ?_ | refine Run.region ?_ | refine Ops.nil ?_ | refine Run.cond_t rfl ?_ | refine Ops.not rfl (by decide) ?_ | refine Ops.pure T rfl (by decide) rfl ?_)
        refine Run.fin (Run.ret1 (by rw [hCf]; exact func129) results129 rfl (hR _ _ _ ?_))
        exact ⟨rfl, congrArg str hgo⟩
      | false =>
        have hd1' := of_decide_eq_false hd1
        repeat (first | refine Ops.nil ?_ | refine Ops.gtr rfl (by decide) rfl rfl ?_ | refine Ops.pure T rfl (by decide) rfl ?_)
        cases hd2 : decide ((57 : Int) < (c.toNat : Int)) with
        | true =>
          have := of_decide_eq_true hd2
          rw [if_pos (by omega)] at hgo
          repeat (first | refine Run.seq ?_ | refine Run.region ?_ | refine Ops.nil ?_ | refine Run.cond_t rfl ?_ | refine Ops.pure T rfl (by decide) rfl ?_)
          refine Run.fin (Run.ret1 (by rw [hCf]; exact func129) results129 rfl (hR _ _ _ ?_))
          exact ⟨rfl, congrArg str hgo⟩
        | false =>
          have hd2' := of_decide_eq_false hd2
          rw [if_neg (by omega)] at hgo
          repeat (first | refine Run.seq ?_ | refine Run.region ?_ | refine Ops.nil ?_ | refine Run.skip ?_ | refine Run.cond_f rfl ?_ | refine Ops.eql rfl (by decide) rfl rfl ?_ | refine Ops.sub rfl (by decide) rfl rfl (wI (by first | omega | (simp only [List.length_cons, List.length_nil] ; omega) | (simp; omega)) (by first | omega | (simp only [List.length_cons, List.length_nil] ; omega) | (simp; omega))) ?_ | refine Ops.pure T rfl (by decide) rfl ?_ | refine Ops.lenS T rfl (by decide) rfl rfl ?_ | refine Ops.indexStr rfl (by decide) (T.undOk rfl) rfl rfl (by first | omega | (simp only [List.length_cons, List.length_nil] ; omega) | (simp; omega)) (by first | omega | (simp only [List.length_cons, List.length_nil] ; omega) | (simp; omega)) ?_)
          rw [e2]
          generalize hc2 : s.getD (s.length - (i + 1) - 1) 0 = c2 at *
          cases h58 : decide ((c2.toNat : Int) = 58) with
          | true =>
            rw [if_pos (u8_inj.1 (of_decide_eq_true h58))] at hgo
            repeat (first | refine Run.seq ?_ | refine Run.region ?_ | refine Ops.nil ?_ | refine Run.cond_t rfl ?_ | refine Ops.sub rfl (by decide) rfl rfl (wI (by first | omega | (simp only [List.length_cons, List.length_nil] ; omega) | (simp; omega)) (by first | omega | (simp only [List.length_cons, List.length_nil] ; omega) | (simp; omega))) ?_ | refine Ops.pure T rfl (by decide) rfl ?_ | refine Ops.lenS T rfl (by decide) rfl rfl ?_ | refine Ops.sliceStrHi rfl (by decide) (T.undOk rfl) rfl rfl (by first | omega | (simp only [List.length_cons, List.length_nil] ; omega) | (simp; omega)) (by first | omega | (simp only [List.length_cons, List.length_nil] ; omega) | (simp; omega)) ?_)
            refine Run.fin (Run.ret1 (by rw [hCf]; exact func129) results129 rfl (hR _ _ _ ?_))
            exact ⟨rfl, by rw [← hgo, e2]⟩
          | false =>
            rw [if_neg (fun h => of_decide_eq_false h58 (u8_inj.2 h))] at hgo
            repeat (first | refine Run.region ?_ | refine Ops.nil ?_ | refine Run.skip ?_ | refine Run.inBlock ?_ | refine Run.cond_f rfl ?_ | refine Ops.add rfl (by decide) rfl rfl (wI (by first | omega | (simp only [List.length_cons, List.length_nil] ; omega) | (simp; omega)) (by first | omega | (simp only [List.length_cons, List.length_nil] ; omega) | (simp; omega))) ?_ | refine Ops.pure T rfl (by decide) rfl ?_)
            refine Run.keep [0, 3] [_, _] rfl ?_
            refine ih (5 - (i + 1)) _ _ _ (by omega) ⟨i + 1, rfl, by omega, ?_, ?_, rfl, rfl⟩
            · rw [show 5 - (i + 1) = 4 - i by omega]; exact hgo
            · simp
theorem portGo_len (s : Tx) : ∀ k, (portGo s k).length ≤ s.length
  | 0 => Nat.le_refl _
  | k + 1 => by
    simp only [portGo]
    split
    · split
      · exact Nat.le_refl _
      · split
        · simp; omega
        · exact portGo_len s k
    · exact Nat.le_refl _
theorem name_zzLocal (I : Imm) (s : Tx) (hs : s.length ≤ 4620000000000000000) : Pure prog 109 [str s] I fun w J => w = .bool (endsT [46, 108, 111, 99, 97, 108, 104, 111, 115, 116] (portF s)) := by
  refine Spec.enter 6 [(0, _)] func109 rfl ntmps109 (by simp) rfl ?_
  intro C hCf hR hCI
  repeat (first | refine Run.seq ?_ | refine Run.region ?_ | refine Ops.nil ?_ | refine Ops.pure T rfl (by decide) rfl ?_)
  refine Ops.call ((name_zzPort I s hs)) rfl (by decide) call129 rfl ?_
  rintro _ J1 l1 rfl
  refine Ops.call ((strings_HasSuffix (portF s) [46, 108, 111, 99, 97, 108, 104, 111, 115, 116] J1 (Nat.le_trans (portGo_len s 5) hs) (by decide))) rfl (by decide) call128 rfl ?_
  rintro _ J2 l2 rfl
  repeat (first | refine Ops.nil ?_ | refine Ops.pure T rfl (by decide) rfl ?_)
  refine Run.fin (Run.ret1 (by rw [hCf]; exact func109) results109 rfl (hR _ _ _ ?_))
  exact ⟨rfl, rfl⟩
theorem name_zzLoopback (I : Imm) (s : Tx) (hs : s.length ≤ 4620000000000000000) : Pure prog 110 [str s] I fun w J => w = .bool (decide (portF s = [49, 50, 55, 46, 48, 46, 48, 46, 49])) := by
  refine Spec.enter 6 [(0, _)] func110 rfl ntmps110 (by simp) rfl ?_
  intro C hCf hR hCI
  repeat (first | refine Run.seq ?_ | refine Run.region ?_ | refine Ops.nil ?_ | refine Ops.pure T rfl (by decide) rfl ?_)
  refine Ops.call ((name_zzPort I s hs)) rfl (by decide) call129 rfl ?_
  rintro _ J1 l1 rfl
  repeat (first | refine Ops.nil ?_ | refine Ops.eqlStr rfl (by decide) rfl rfl ?_ | refine Ops.pure T rfl (by decide) rfl ?_)
  refine Run.fin (Run.ret1 (by rw [hCf]; exact func110) results110 rfl (hR _ _ _ ?_))
  exact ⟨rfl, rfl⟩
theorem name_zzLoopback6 (I : Imm) (s : Tx) (hs : s.length ≤ 4620000000000000000) : Pure prog 111 [str s] I fun w J => w = .bool (decide (s = [58, 58, 49]) || decide (portF s = [91, 58, 58, 49, 93])) := by
  refine Spec.enter 10 [(0, _)] func111 rfl ntmps111 (by simp) rfl ?_
  intro C hCf hR hCI
  repeat (first | refine Run.seq ?_ | refine Run.region ?_ | refine Ops.nil ?_ | refine Ops.eqlStr rfl (by decide) rfl rfl ?_ | refine Ops.pure T rfl (by decide) rfl ?_)
  cases h : decide (s = [58, 58, 49]) with
  | true =>
    repeat (first | refine Ops.nil ?_ | refine Ops.not rfl (by decide) ?_ | refine Ops.pure T rfl (by decide) rfl ?_)
    refine Run.fin (Run.ret1 (by rw [hCf]; exact func111) results111 rfl (hR _ _ _ ?_))
    exact ⟨rfl, by simp only [h, Bool.true_or, Bool.false_or]⟩
  | false =>
    repeat (first | refine Ops.pure T rfl (by decide) rfl ?_)
    refine Ops.call ((name_zzPort I s hs)) rfl (by decide) call129 rfl ?_
    rintro _ J1 l1 rfl
    repeat (first | refine Ops.nil ?_ | refine Ops.eqlStr rfl (by decide) rfl rfl ?_ | refine Ops.pure T rfl (by decide) rfl ?_)
    refine Run.fin (Run.ret1 (by rw [hCf]; exact func111) results111 rfl (hR _ _ _ ?_))
    exact ⟨rfl, by simp only [h, Bool.true_or, Bool.false_or]⟩
set_option maxHeartbeats 1000000 in
theorem name_zzSplit (s : List UInt8) (c : UInt8) (I : Imm) (hs : s.length ≤ 1099511627776) :
    Spec prog 67 [str s, str [c]] I [] fun v J M => Gr tStr J 9 v (spl c s) M := by
  refine Spec.enter 58 [(0, _), (1, _)] func67 rfl ntmps67 (by simp) rfl ?_
  intro C hCf hR hCI
  repeat (first | refine Run.seq ?_ | refine Run.region ?_ | refine Ops.nil ?_ | refine Run.skip ?_ | refine Run.block ?_ | refine Run.cond_f rfl ?_ | refine Ops.eql rfl (by decide) rfl rfl ?_ | refine Ops.pure T rfl (by decide) rfl ?_ | refine Ops.lenS T rfl (by decide) rfl rfl ?_)
  refine Run.keep [0, 1, 5] [_, _, _] rfl ?_
  refine Run.rounds (fun m env L J => ∃ r xs v M, m = r.length ∧ xs.length + r.length ≤ s.length ∧ xs ++ spl c r = spl c s ∧ Gr tStr J 9 v xs M ∧ env = [(0, str r), (1, str [c]), (5, v)] ∧ L = M) s.length ⟨s, [], _, [], rfl, by simp, rfl, Gr.nil _ _ _, rfl, rfl⟩ ?_
  rintro m env L J ⟨r, xs, v, M, rfl, hlen, hspl, hG, rfl, rfl⟩ ih
  repeat (first | refine Run.seq ?_ | refine Run.region ?_ | refine Run.block ?_ | refine Ops.pure T rfl (by decide) rfl ?_)
  refine Ops.call ((name_zzIndex r c J (by omega))) rfl (by decide) call98 rfl ?_
  rintro _ J1 hle rfl
  replace hG := hG.mono hle
  repeat (first | refine Run.seq ?_ | refine Run.region ?_ | refine Ops.nil ?_ | refine Ops.lss rfl (by decide) rfl rfl ?_ | refine Ops.pure T rfl (by decide) rfl ?_)
  refine Run.cond rfl rfl (fun h => ?_) (fun h => ?_)
  all_goals (try rw [h])
  all_goals (try simp only [decide_eq_true_eq, decide_eq_false_iff_not, Bool.not_eq_true', Bool.not_eq_false', Bool.and_eq_true, Bool.or_eq_true, Bool.and_eq_false_imp, Bool.or_eq_false_iff] at h)
  · have hn := ixI_neg.1 h
    repeat (first | refine Run.seq ?_ | refine Run.region ?_ | refine Ops.pure T rfl (by decide) rfl ?_)
    refine Ops.lit T rfl rfl rfl (by decide) rfl (by decide) (by decide) rfl rfl rfl rfl rfl (fun b => ?_)
    refine Ops.appOne (N := []) el92 hG rfl rfl (by decide) rfl rfl rfl rfl (by first | omega | (simp only [List.length_cons, List.length_nil] ; omega) | (simp; omega)) (by first | omega | (simp only [List.length_cons, List.length_nil] ; omega) | (simp; omega)) ?_
    rintro v2 M2 hG2
    repeat (first | refine Ops.nil ?_ | refine Ops.pure T rfl (by decide) rfl ?_)
    refine Run.ret1 (by rw [hCf]; exact func67) results67 rfl (hR _ _ _ ?_)
    rw [spl_none hn] at hspl
    rw [hspl] at hG2; exact hG2
  · obtain ⟨k, hk, hkI⟩ := ixI_some h
    have hlt := ix_lt hk
    rw [hkI]
    repeat (first | refine Run.seq ?_ | refine Run.region ?_ | refine Run.skip ?_ | refine Ops.pure T rfl (by decide) rfl ?_ | refine Ops.sliceStrHi rfl (by decide) (T.undOk rfl) rfl rfl (by first | omega | (simp only [List.length_cons, List.length_nil] ; omega) | (simp; omega)) (by first | omega | (simp only [List.length_cons, List.length_nil] ; omega) | (simp; omega)) ?_)
    refine Ops.lit T rfl rfl rfl (by decide) rfl (by decide) (by decide) rfl rfl rfl rfl rfl (fun b => ?_)
    refine Ops.appOne (N := []) el92 hG rfl rfl (by decide) rfl rfl rfl rfl (by first | omega | (simp only [List.length_cons, List.length_nil] ; omega) | (simp; omega)) (by first | omega | (simp only [List.length_cons, List.length_nil] ; omega) | (simp; omega)) ?_
    rintro v2 M2 hG2
    repeat (first | refine Run.region ?_ | refine Ops.nil ?_ | refine Run.inBlock ?_ | refine Ops.add rfl (by decide) rfl rfl (wI (by first | omega | (simp only [List.length_cons, List.length_nil] ; omega) | (simp; omega)) (by first | omega | (simp only [List.length_cons, List.length_nil] ; omega) | (simp; omega))) ?_ | refine Ops.pure T rfl (by decide) rfl ?_ | refine Ops.lenS T rfl (by decide) rfl rfl ?_ | refine Ops.sliceStrLo rfl (by decide) (T.undOk rfl) rfl rfl (by first | omega | (simp only [List.length_cons, List.length_nil] ; omega) | (simp; omega)) (by first | omega | (simp only [List.length_cons, List.length_nil] ; omega) | (simp; omega)) ?_)
    refine Run.keep [0, 1, 5] [_, _, _] rfl ?_
    refine ih (r.drop (k + 1)).length _ _ _ (by simp; omega) ⟨r.drop (k + 1), _, v2, M2, rfl, ?_, ?_, hG2, rfl, rfl⟩
    · simp; omega
    · rw [spl_some hk] at hspl; simp at hspl ⊢; exact hspl
end Go.V
