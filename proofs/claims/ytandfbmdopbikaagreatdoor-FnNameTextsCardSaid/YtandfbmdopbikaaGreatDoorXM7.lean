import Derived.Test.YtandfbmdopbikaaGreatDoorXM6
namespace Go.V
open Go.Proofs.Tryz
open Go.RowKit
set_option linter.unusedVariables false
set_option linter.unusedSimpArgs false
set_option maxRecDepth 10000
attribute [local irreducible] Run Ops
def u8n (n : Nat) : Value := .int .u8 (n : Int)
theorem w8 {x : Int} (h0 : 0 ≤ x) (h1 : x ≤ 255) : IntKind.u8.wrap x = x := by
  simp only [IntKind.wrap, IntKind.bits, IntKind.signed]
  simp
  omega
theorem spl_memlenN (c : UInt8) : ∀ (s : Tx) (x : Tx), x ∈ spl c s → x.length ≤ s.length
  | [], x, h => by simp [spl] at h; subst h; simp
  | y :: r, x, h => by
    simp only [spl] at h
    split at h
    · rcases List.mem_cons.1 h with rfl | h
      · simp
      · have := spl_memlenN c r x h; simp; omega
    · split at h
      · simp at h; subst h; simp
      · rename_i z zs hz
        rcases List.mem_cons.1 h with rfl | h
        · have := spl_memlenN c r z (by rw [hz]; exact List.mem_cons_self); simp; omega
        · have := spl_memlenN c r x (by rw [hz]; exact List.mem_cons_of_mem _ h); simp; omega
theorem octs_none {p : Tx} : ∀ {ps : List Tx}, p ∈ ps → oct p = none → octs ps = none
  | [], h, _ => by cases h
  | q :: r, h, hn => by
    simp only [octs]
    rcases List.mem_cons.1 h with rfl | h
    · rw [hn]
    · rw [octs_none h hn]
      cases oct q <;> rfl
theorem octs_snoc {p : Tx} {n : Nat} (hp : oct p = some n) : ∀ {ps : List Tx} {l : List Nat}, octs ps = some l → octs (ps ++ [p]) = some (l ++ [n])
  | [], l, h => by
    simp only [octs] at h
    cases h
    simp [octs, hp]
  | q :: r, l, h => by
    simp only [octs] at h
    cases hq : oct q with
    | none => rw [hq] at h; cases h
    | some m =>
      rw [hq] at h
      simp only at h
      cases hr : octs r with
      | none => rw [hr] at h; cases h
      | some l' =>
        rw [hr] at h
        cases h
        simp [octs, hq, octs_snoc hp hr]
theorem octGo_snoc {p : Tx} {k n : Nat} {c : UInt8} (hk : k < p.length) (hc : p.getD k 0 = c) (hd : ¬ (c.toNat < 48 ∨ 57 < c.toNat)) (h : octGo (p.take k) 0 = some n) : octGo (p.take (k + 1)) 0 = some (n * 10 + (c.toNat - 48)) := by
  rw [List.take_add_one, octGo_app, h]
  rw [List.getD_eq_getElem?_getD, List.getElem?_eq_getElem hk] at hc
  rw [List.getElem?_eq_getElem hk]
  simp only [Option.getD_some] at hc
  subst hc
  simp [octGo, hd]
theorem octGo_bad {p : Tx} {k : Nat} {c : UInt8} (hk : k < p.length) (hc : p.getD k 0 = c) (hd : c.toNat < 48 ∨ 57 < c.toNat) : oct p = none := by
  rw [List.getD_eq_getElem?_getD, List.getElem?_eq_getElem hk] at hc
  have e : p = p.take k ++ c :: p.drop (k + 1) := by
    simp only [Option.getD_some] at hc
    subst hc
    rw [← List.drop_eq_getElem_cons hk, List.take_append_drop]
  rw [e]
  exact oct_bad hd
theorem ip4_none {s p : Tx} (h : p ∈ spl 46 s) (hn : oct p = none) : ip4 s = none := by
  unfold ip4
  split
  · exact octs_none h hn
  · rfl
set_option maxHeartbeats 4000000 in
theorem name_zzIPv4 (I : Imm) (s : Tx) (hs : s.length ≤ 1099511627776) : Pure prog 127 [str s] I fun w J => ∃ l : List Nat, l.length = 4 ∧ w = .tuple #[.agg (l.map u8n).toArray, .bool (ip4 s).isSome] ∧ (∀ l', ip4 s = some l' → l' = l) := by
  refine Spec.enter 74 [(0, _)] func127 rfl ntmps127 (by simp) rfl ?_
  intro C hCf hR hCI
  repeat (first | refine Run.seq ?_ | refine Run.region ?_)
  refine Ops.alloc rfl (by decide) (T.zeroOk rfl) rfl (fun b => ?_)
  repeat (first | refine Run.seq ?_ | refine Run.region ?_ | refine Ops.nil ?_ | refine Ops.pure T rfl (by decide) rfl ?_)
  refine Ops.callN ((name_zzSplit s 46 I hs)) rfl (by decide) call67 rfl ?_
  rintro v J0 M l0 hG
  refine Ops.keepG (N := [_]) hG rfl fun J l1 hS => ?_
  clear hG l0 l1
  obtain ⟨A, c, e⟩ := hS.isSl
  subst e
  repeat (first | refine Run.seq ?_ | refine Run.region ?_ | refine Ops.nil ?_ | refine Ops.neq rfl (by decide) rfl rfl ?_ | refine Ops.pure T rfl (by decide) rfl ?_)
  cases h4 : decide (((spl 46 s).length : Int) = 4) with
  | false =>
    have h4' := of_decide_eq_false h4
    have hn : ip4 s = none := by unfold ip4; rw [if_neg (by omega)]
    obtain ⟨a0, a1, a2, a3, ha⟩ : ∃ a0 a1 a2 a3 : Nat, a0 = 0 ∧ a1 = 0 ∧ a2 = 0 ∧ a3 = 0 := ⟨0, 0, 0, 0, rfl, rfl, rfl, rfl⟩
    obtain ⟨rfl, rfl, rfl, rfl⟩ := ha
    repeat (first | refine Run.seq ?_ | refine Run.region ?_ | refine Ops.nil ?_ | refine Run.cond_t rfl ?_ | refine Ops.pure T rfl (by decide) rfl ?_ | refine Ops.loadN 0 rfl (by decide) rfl rfl (T.aggOk rfl) (T.sizeOk rfl) rfl rfl ?_ | refine Ops.store 0 rfl rfl rfl rfl rfl (T.sizeOk rfl) rfl (Nat.le_of_ble_eq_true rfl) rfl rfl ?_)
    refine Run.retCT T 0 (by rw [hCf]; exact func127) results127 rfl rfl rfl rfl rfl rfl rfl (hR _ _ _ ?_)
    refine ⟨rfl, [0, 0, 0, 0], rfl, ?_, ?_⟩
    · rw [hn]; rfl
    · rw [hn]; intro _ h; cases h
  | true =>
  have h4' : (spl 46 s).length = 4 := by have := of_decide_eq_true h4; omega
  have hml : ∀ x ∈ spl 46 s, x.length ≤ 1099511627776 := by
    intro x hx
    have := spl_memlenN 46 s x hx
    omega
  repeat (first | refine Run.seq ?_ | refine Run.region ?_ | refine Ops.nil ?_ | refine Run.skip ?_ | refine Run.block ?_ | refine Run.cond_f rfl ?_ | refine Ops.pure T rfl (by decide) rfl ?_)
  refine Run.keep [2, 15, 16, 17] [_, _, _, _] rfl ?_
  refine Run.rounds (fun m env L K => ∃ (i : Nat) (l : Nat × Nat × Nat × Nat), m = 4 - i ∧ i ≤ 4 ∧ octs ((spl 46 s).take i) = some (([l.1, l.2.1, l.2.2.1, l.2.2.2] : List Nat).take i) ∧
    env = [(2, .pointer (some ⟨b, 0, none⟩)), (15, .slice A (spl 46 s).length c), (16, .int .i64 (spl 46 s).length), (17, .int .i64 i)] ∧
    L = [(b, blk [u8n l.1, u8n l.2.1, u8n l.2.2.1, u8n l.2.2.2] 150)] ∧ K = J) 4 ⟨0, (0, 0, 0, 0), rfl, by omega, rfl, rfl, rfl, rfl⟩ ?_
  rintro m env L J ⟨i, ⟨a0, a1, a2, a3⟩, rfl, hi, hoc, rfl, rfl, rfl⟩ ih
  simp only at hoc
  repeat (first | refine Run.seq ?_ | refine Run.region ?_ | refine Ops.nil ?_ | refine Ops.lss rfl (by decide) rfl rfl ?_)
  refine Run.cond rfl rfl (fun h => ?_) (fun h => ?_)
  all_goals (try rw [h])
  all_goals (try simp only [decide_eq_true_eq, decide_eq_false_iff_not, Bool.not_eq_true', Bool.not_eq_false', Bool.and_eq_true, Bool.or_eq_true, Bool.and_eq_false_imp, Bool.or_eq_false_iff] at h)
  · skip
    repeat (first | refine Run.seq ?_ | refine Run.region ?_ | refine Run.skip ?_ | refine Run.block ?_ | refine Ops.pure T rfl (by decide) rfl ?_)
    refine Ops.indexSl hS rfl (by decide) rfl rfl (T.undOk rfl) (T.sizeOk rfl) (by first | omega | (simp only [List.length_cons, List.length_nil] ; omega) | (simp; omega)) (by first | omega | (simp only [List.length_cons, List.length_nil] ; omega) | (simp; omega)) ?_
    rintro b_ off_ x cs_ hx hr_ hA_
    obtain rfl : cs_ = [_] := hr_
    refine Ops.loadI rfl (by decide) rfl hA_ (T.aggOk rfl) ?_
    rw [Int.toNat_natCast] at hx
    have hxl := hml x (List.mem_of_getElem? hx)
    have hxm := List.mem_of_getElem? hx
    repeat (first | refine Run.seq ?_ | refine Run.region ?_ | refine Ops.nil ?_ | refine Ops.eqlStr rfl (by decide) rfl rfl ?_ | refine Ops.pure T rfl (by decide) rfl ?_)
    cases c1 : decide (x = []) with
    | true =>
      have hn : ip4 s = none := ip4_none hxm (by unfold oct; rw [if_pos (.inl (of_decide_eq_true c1))])
      repeat (first | refine Run.seq ?_ | refine Run.region ?_ | refine Ops.nil ?_ | refine Run.cond_t rfl ?_ | refine Ops.not rfl (by decide) ?_ | refine Ops.notU rfl (by decide) ?_ | refine Ops.pure T rfl (by decide) rfl ?_ | refine Ops.loadN 0 rfl (by decide) rfl rfl (T.aggOk rfl) (T.sizeOk rfl) rfl rfl ?_ | refine Ops.store 0 rfl rfl rfl rfl rfl (T.sizeOk rfl) rfl (Nat.le_of_ble_eq_true rfl) rfl rfl ?_)
      refine Run.retCT T 0 (by rw [hCf]; exact func127) results127 rfl rfl rfl rfl rfl rfl rfl (hR _ _ _ ?_)
      refine ⟨rfl, [a0, a1, a2, a3], rfl, ?_, ?_⟩
      · rw [hn]; rfl
      · rw [hn]; intro _ h; cases h
    | false =>
    repeat (first | refine Ops.gtr rfl (by decide) rfl rfl ?_ | refine Ops.pure T rfl (by decide) rfl ?_ | refine Ops.lenS T rfl (by decide) rfl rfl ?_)
    cases c2 : decide ((3 : Int) < (x.length : Int)) with
    | true =>
      have hn : ip4 s = none := ip4_none hxm (oct_long (by have := of_decide_eq_true c2; omega))
      repeat (first | refine Run.seq ?_ | refine Run.region ?_ | refine Ops.nil ?_ | refine Run.cond_t rfl ?_ | refine Ops.not rfl (by decide) ?_ | refine Ops.notU rfl (by decide) ?_ | refine Ops.pure T rfl (by decide) rfl ?_ | refine Ops.loadN 0 rfl (by decide) rfl rfl (T.aggOk rfl) (T.sizeOk rfl) rfl rfl ?_ | refine Ops.store 0 rfl rfl rfl rfl rfl (T.sizeOk rfl) rfl (Nat.le_of_ble_eq_true rfl) rfl rfl ?_)
      refine Run.retCT T 0 (by rw [hCf]; exact func127) results127 rfl rfl rfl rfl rfl rfl rfl (hR _ _ _ ?_)
      refine ⟨rfl, [a0, a1, a2, a3], rfl, ?_, ?_⟩
      · rw [hn]; rfl
      · rw [hn]; intro _ h; cases h
    | false =>
    have c2' := of_decide_eq_false c2
    have c1' := of_decide_eq_false c1
    repeat (first | refine Ops.gtr rfl (by decide) rfl rfl ?_ | refine Ops.pure T rfl (by decide) rfl ?_ | refine Ops.lenS T rfl (by decide) rfl rfl ?_)
    cases c3 : decide ((1 : Int) < (x.length : Int)) with
    | true =>
      have c3' := of_decide_eq_true c3
      repeat (first | refine Ops.nil ?_ | refine Ops.eql rfl (by decide) rfl rfl ?_ | refine Ops.pure T rfl (by decide) rfl ?_ | refine Ops.indexStr rfl (by decide) (T.undOk rfl) rfl rfl (by first | omega | (simp only [List.length_cons, List.length_nil] ; omega) | (simp; omega)) (by first | omega | (simp only [List.length_cons, List.length_nil] ; omega) | (simp; omega)) ?_)
      cases c4 : decide (((x.getD (0 : Int).toNat 0).toNat : Int) = 48) with
      | true =>
        have hn : ip4 s = none := ip4_none hxm (oct_lead (by omega) (u8_inj.1 (of_decide_eq_true c4)))
        repeat (first | refine Run.seq ?_ | refine Run.region ?_ | refine Ops.nil ?_ | refine Run.cond_t rfl ?_ | refine Ops.pure T rfl (by decide) rfl ?_ | refine Ops.loadN 0 rfl (by decide) rfl rfl (T.aggOk rfl) (T.sizeOk rfl) rfl rfl ?_ | refine Ops.store 0 rfl rfl rfl rfl rfl (T.sizeOk rfl) rfl (Nat.le_of_ble_eq_true rfl) rfl rfl ?_)
        refine Run.retCT T 0 (by rw [hCf]; exact func127) results127 rfl rfl rfl rfl rfl rfl rfl (hR _ _ _ ?_)
        refine ⟨rfl, [a0, a1, a2, a3], rfl, ?_, ?_⟩
        · rw [hn]; rfl
        · rw [hn]; intro _ h; cases h
      | false =>
        have hld : ¬ (1 < x.length ∧ x.getD 0 0 = 48) := fun hh => of_decide_eq_false c4 (u8_inj.2 hh.2)
        repeat (first | refine Run.seq ?_ | refine Run.region ?_ | refine Ops.nil ?_ | refine Run.skip ?_ | refine Run.block ?_ | refine Run.cond_f rfl ?_ | refine Ops.pure T rfl (by decide) rfl ?_ | refine Ops.lenS T rfl (by decide) rfl rfl ?_)
        refine Run.keep [2, 15, 16, 17, 5, 6, 7, 41, 42] [_, _, _, _, _, _, _, _, _] rfl ?_
        refine Run.rounds (fun m env L K => ∃ (k n : Nat), m = x.length - k ∧ k ≤ x.length ∧ octGo (x.take k) 0 = some n ∧ n < 10 ^ k ∧
          env = [(2, .pointer (some ⟨b, 0, none⟩)), (15, .slice A (spl 46 s).length c), (16, .int .i64 (spl 46 s).length), (17, .int .i64 i), (5, .int .i64 i), (6, str x), (7, .int .i64 n), (41, .int .i64 x.length), (42, .int .i64 k)] ∧
          L = [(b, blk [u8n a0, u8n a1, u8n a2, u8n a3] 150)] ∧ K = J) x.length ⟨0, 0, rfl, by omega, rfl, by decide, rfl, rfl, rfl⟩ ?_
        rintro m env L J ⟨k, n, rfl, hk, hgo, hn10, rfl, rfl, rfl⟩ ih2
        have hk3 : k ≤ 3 := by omega
        have hn3 : n < 1000 := Nat.lt_of_lt_of_le hn10 (Nat.pow_le_pow_right (by decide) hk3 : 10 ^ k ≤ 10 ^ 3)
        repeat (first | refine Run.seq ?_ | refine Run.region ?_ | refine Ops.nil ?_ | refine Ops.lss rfl (by decide) rfl rfl ?_)
        refine Run.cond rfl rfl (fun hkl => ?_) (fun hkl => ?_)
        all_goals (try rw [hkl])
        all_goals (try simp only [decide_eq_true_eq, decide_eq_false_iff_not, Bool.not_eq_true', Bool.not_eq_false', Bool.and_eq_true, Bool.or_eq_true, Bool.and_eq_false_imp, Bool.or_eq_false_iff] at hkl)
        · have hkx : k < x.length := by omega
          repeat (first | refine Run.seq ?_ | refine Run.region ?_ | refine Ops.nil ?_ | refine Run.skip ?_ | refine Run.block ?_ | refine Ops.lss rfl (by decide) rfl rfl ?_ | refine Ops.pure T rfl (by decide) rfl ?_ | refine Ops.indexStr rfl (by decide) (T.undOk rfl) rfl rfl (by first | omega | (simp only [List.length_cons, List.length_nil] ; omega) | (simp; omega)) (by first | omega | (simp only [List.length_cons, List.length_nil] ; omega) | (simp; omega)) ?_)
          have et : ((k : Int)).toNat = k := by omega
          rw [et]
          generalize hc : x.getD k 0 = ch at *
          cases d1 : decide ((ch.toNat : Int) < 48) with
          | true =>
            have hn : ip4 s = none := ip4_none hxm (octGo_bad hkx hc (by have := of_decide_eq_true d1; omega))
            repeat (first | refine Run.seq ?_ | refine Run.region ?_ | refine Ops.nil ?_ | refine Run.cond_t rfl ?_ | refine Ops.not rfl (by decide) ?_ | refine Ops.pure T rfl (by decide) rfl ?_ | refine Ops.loadN 0 rfl (by decide) rfl rfl (T.aggOk rfl) (T.sizeOk rfl) rfl rfl ?_ | refine Ops.store 0 rfl rfl rfl rfl rfl (T.sizeOk rfl) rfl (Nat.le_of_ble_eq_true rfl) rfl rfl ?_)
            refine Run.retCT T 0 (by rw [hCf]; exact func127) results127 rfl rfl rfl rfl rfl rfl rfl (hR _ _ _ ?_)
            refine ⟨rfl, [a0, a1, a2, a3], rfl, ?_, ?_⟩
            · rw [hn]; rfl
            · rw [hn]; intro _ h; cases h
          | false =>
          have d1' := of_decide_eq_false d1
          repeat (first | refine Ops.nil ?_ | refine Ops.gtr rfl (by decide) rfl rfl ?_ | refine Ops.pure T rfl (by decide) rfl ?_ | refine Ops.indexStr rfl (by decide) (T.undOk rfl) rfl rfl (by first | omega | (simp only [List.length_cons, List.length_nil] ; omega) | (simp; omega)) (by first | omega | (simp only [List.length_cons, List.length_nil] ; omega) | (simp; omega)) ?_)
          rw [et, hc]
          cases d2 : decide ((57 : Int) < (ch.toNat : Int)) with
          | true =>
            have hn : ip4 s = none := ip4_none hxm (octGo_bad hkx hc (by have := of_decide_eq_true d2; omega))
            repeat (first | refine Run.seq ?_ | refine Run.region ?_ | refine Ops.nil ?_ | refine Run.cond_t rfl ?_ | refine Ops.pure T rfl (by decide) rfl ?_ | refine Ops.loadN 0 rfl (by decide) rfl rfl (T.aggOk rfl) (T.sizeOk rfl) rfl rfl ?_ | refine Ops.store 0 rfl rfl rfl rfl rfl (T.sizeOk rfl) rfl (Nat.le_of_ble_eq_true rfl) rfl rfl ?_)
            refine Run.retCT T 0 (by rw [hCf]; exact func127) results127 rfl rfl rfl rfl rfl rfl rfl (hR _ _ _ ?_)
            refine ⟨rfl, [a0, a1, a2, a3], rfl, ?_, ?_⟩
            · rw [hn]; rfl
            · rw [hn]; intro _ h; cases h
          | false =>
          have d2' := of_decide_eq_false d2
          repeat (first | refine Run.region ?_ | refine Run.skip ?_ | refine Run.cond_f rfl ?_ | refine Ops.pure T rfl (by decide) rfl ?_)
          refine Ops.mul rfl (by decide) rfl rfl (wI (by omega) (by omega)) ?_
          repeat (first | refine Ops.pure T rfl (by decide) rfl ?_ | refine Ops.indexStr rfl (by decide) (T.undOk rfl) rfl rfl (by first | omega | (simp only [List.length_cons, List.length_nil] ; omega) | (simp; omega)) (by first | omega | (simp only [List.length_cons, List.length_nil] ; omega) | (simp; omega)) ?_)
          rw [et, hc]
          refine Ops.sub rfl (by decide) rfl rfl (w8 (by omega) (by omega)) ?_
          refine Ops.convInt rfl (by decide) (T.undOk rfl) (T.undOk rfl) rfl (wI (by omega) (by omega)) ?_
          repeat (first | refine Run.region ?_ | refine Ops.nil ?_ | refine Run.inBlock ?_ | refine Ops.add rfl (by decide) rfl rfl (wI (by first | omega | (simp only [List.length_cons, List.length_nil] ; omega) | (simp; omega)) (by first | omega | (simp only [List.length_cons, List.length_nil] ; omega) | (simp; omega))) ?_ | refine Ops.pure T rfl (by decide) rfl ?_)
          refine Run.keep [2, 15, 16, 17, 5, 6, 7, 41, 42] [_, _, _, _, _, _, _, _, _] rfl ?_
          have hdg : ¬ (ch.toNat < 48 ∨ 57 < ch.toNat) := by omega
          refine ih2 (x.length - (k + 1)) _ _ _ (by omega) ⟨k + 1, n * 10 + (ch.toNat - 48), rfl, by omega, octGo_snoc hkx hc hdg hgo, by rw [Nat.pow_succ]; omega, ?_, rfl, rfl⟩
          have e7 : (n : Int) * 10 + ((ch.toNat : Int) - 48) = ((n * 10 + (ch.toNat - 48) : Nat) : Int) := by omega
          rw [e7]
          rfl
        · obtain rfl : k = x.length := by omega
          rw [List.take_length] at hgo
          repeat (first | refine Run.seq ?_ | refine Run.region ?_ | refine Ops.nil ?_ | refine Run.exit rfl ?_ | refine Ops.gtr rfl (by decide) rfl rfl ?_ | refine Ops.pure T rfl (by decide) rfl ?_)
          cases d3 : decide ((255 : Int) < (n : Int)) with
          | true =>
            have hn : ip4 s = none := ip4_none hxm (by unfold oct; rw [if_neg (by rintro (h | h | h); exact c1' h; omega; exact hld h), hgo]; simp only; rw [if_pos (by have := of_decide_eq_true d3; omega)])
            repeat (first | refine Run.seq ?_ | refine Run.region ?_ | refine Ops.nil ?_ | refine Run.cond_t rfl ?_ | refine Ops.pure T rfl (by decide) rfl ?_ | refine Ops.loadN 0 rfl (by decide) rfl rfl (T.aggOk rfl) (T.sizeOk rfl) rfl rfl ?_ | refine Ops.store 0 rfl rfl rfl rfl rfl (T.sizeOk rfl) rfl (Nat.le_of_ble_eq_true rfl) rfl rfl ?_)
            refine Run.retCT T 0 (by rw [hCf]; exact func127) results127 rfl rfl rfl rfl rfl rfl rfl (hR _ _ _ ?_)
            refine ⟨rfl, [a0, a1, a2, a3], rfl, ?_, ?_⟩
            · rw [hn]; rfl
            · rw [hn]; intro _ h; cases h
          | false =>
          have d3' := of_decide_eq_false d3
          have hoct : oct x = some n := by unfold oct; rw [if_neg (by rintro (h | h | h); exact c1' h; omega; exact hld h), hgo]; simp only; rw [if_neg (by omega)]
          repeat (first | refine Run.region ?_ | refine Run.skip ?_ | refine Run.cond_f rfl ?_ | refine Ops.pure T rfl (by decide) rfl ?_)
          refine Ops.convInt rfl (by decide) (T.undOk rfl) (T.undOk rfl) rfl (w8 (by omega) (by omega)) ?_
          have hi4 : i = 0 ∨ i = 1 ∨ i = 2 ∨ i = 3 := by omega
          rcases hi4 with rfl | rfl | rfl | rfl
          · refine Ops.indexArr T rfl (by decide) rfl rfl rfl rfl (by decide) (by decide) ?_
            repeat (first | refine Run.region ?_ | refine Ops.nil ?_ | refine Run.inBlock ?_ | refine Ops.add rfl (by decide) rfl rfl (wI (by first | omega | (simp only [List.length_cons, List.length_nil] ; omega) | (simp; omega)) (by first | omega | (simp only [List.length_cons, List.length_nil] ; omega) | (simp; omega))) ?_ | refine Ops.pure T rfl (by decide) rfl ?_ | refine Ops.store 0 rfl rfl rfl rfl rfl (T.sizeOk rfl) rfl (Nat.le_of_ble_eq_true rfl) rfl rfl ?_)
            refine Run.keep [2, 15, 16, 17] [_, _, _, _] rfl ?_
            refine ih (4 - ((0 : Nat) + 1)) _ _ _ (by omega) ⟨0 + 1, (n, a1, a2, a3), rfl, by omega, ?_, rfl, rfl, rfl⟩
            rw [List.take_add_one, hx]
            exact octs_snoc hoct hoc
          · refine Ops.indexArr T rfl (by decide) rfl rfl rfl rfl (by decide) (by decide) ?_
            repeat (first | refine Run.region ?_ | refine Ops.nil ?_ | refine Run.inBlock ?_ | refine Ops.add rfl (by decide) rfl rfl (wI (by first | omega | (simp only [List.length_cons, List.length_nil] ; omega) | (simp; omega)) (by first | omega | (simp only [List.length_cons, List.length_nil] ; omega) | (simp; omega))) ?_ | refine Ops.pure T rfl (by decide) rfl ?_ | refine Ops.store 0 rfl rfl rfl rfl rfl (T.sizeOk rfl) rfl (Nat.le_of_ble_eq_true rfl) rfl rfl ?_)
            refine Run.keep [2, 15, 16, 17] [_, _, _, _] rfl ?_
            refine ih (4 - ((1 : Nat) + 1)) _ _ _ (by omega) ⟨1 + 1, (a0, n, a2, a3), rfl, by omega, ?_, rfl, rfl, rfl⟩
            rw [List.take_add_one, hx]
            exact octs_snoc hoct hoc
          · refine Ops.indexArr T rfl (by decide) rfl rfl rfl rfl (by decide) (by decide) ?_
            repeat (first | refine Run.region ?_ | refine Ops.nil ?_ | refine Run.inBlock ?_ | refine Ops.add rfl (by decide) rfl rfl (wI (by first | omega | (simp only [List.length_cons, List.length_nil] ; omega) | (simp; omega)) (by first | omega | (simp only [List.length_cons, List.length_nil] ; omega) | (simp; omega))) ?_ | refine Ops.pure T rfl (by decide) rfl ?_ | refine Ops.store 0 rfl rfl rfl rfl rfl (T.sizeOk rfl) rfl (Nat.le_of_ble_eq_true rfl) rfl rfl ?_)
            refine Run.keep [2, 15, 16, 17] [_, _, _, _] rfl ?_
            refine ih (4 - ((2 : Nat) + 1)) _ _ _ (by omega) ⟨2 + 1, (a0, a1, n, a3), rfl, by omega, ?_, rfl, rfl, rfl⟩
            rw [List.take_add_one, hx]
            exact octs_snoc hoct hoc
          · refine Ops.indexArr T rfl (by decide) rfl rfl rfl rfl (by decide) (by decide) ?_
            repeat (first | refine Run.region ?_ | refine Ops.nil ?_ | refine Run.inBlock ?_ | refine Ops.add rfl (by decide) rfl rfl (wI (by first | omega | (simp only [List.length_cons, List.length_nil] ; omega) | (simp; omega)) (by first | omega | (simp only [List.length_cons, List.length_nil] ; omega) | (simp; omega))) ?_ | refine Ops.pure T rfl (by decide) rfl ?_ | refine Ops.store 0 rfl rfl rfl rfl rfl (T.sizeOk rfl) rfl (Nat.le_of_ble_eq_true rfl) rfl rfl ?_)
            refine Run.keep [2, 15, 16, 17] [_, _, _, _] rfl ?_
            refine ih (4 - ((3 : Nat) + 1)) _ _ _ (by omega) ⟨3 + 1, (a0, a1, a2, n), rfl, by omega, ?_, rfl, rfl, rfl⟩
            rw [List.take_add_one, hx]
            exact octs_snoc hoct hoc
    | false =>
      have hld : ¬ (1 < x.length ∧ x.getD 0 0 = 48) := fun hh => of_decide_eq_false c3 (by omega)
      repeat (first | refine Run.seq ?_ | refine Run.region ?_ | refine Ops.nil ?_ | refine Run.skip ?_ | refine Run.block ?_ | refine Run.cond_f rfl ?_ | refine Ops.not rfl (by decide) ?_ | refine Ops.pure T rfl (by decide) rfl ?_ | refine Ops.lenS T rfl (by decide) rfl rfl ?_)
      refine Run.keep [2, 15, 16, 17, 5, 6, 7, 41, 42] [_, _, _, _, _, _, _, _, _] rfl ?_
      refine Run.rounds (fun m env L K => ∃ (k n : Nat), m = x.length - k ∧ k ≤ x.length ∧ octGo (x.take k) 0 = some n ∧ n < 10 ^ k ∧
        env = [(2, .pointer (some ⟨b, 0, none⟩)), (15, .slice A (spl 46 s).length c), (16, .int .i64 (spl 46 s).length), (17, .int .i64 i), (5, .int .i64 i), (6, str x), (7, .int .i64 n), (41, .int .i64 x.length), (42, .int .i64 k)] ∧
        L = [(b, blk [u8n a0, u8n a1, u8n a2, u8n a3] 150)] ∧ K = J) x.length ⟨0, 0, rfl, by omega, rfl, by decide, rfl, rfl, rfl⟩ ?_
      rintro m env L J ⟨k, n, rfl, hk, hgo, hn10, rfl, rfl, rfl⟩ ih2
      have hk3 : k ≤ 3 := by omega
      have hn3 : n < 1000 := Nat.lt_of_lt_of_le hn10 (Nat.pow_le_pow_right (by decide) hk3 : 10 ^ k ≤ 10 ^ 3)
      repeat (first | refine Run.seq ?_ | refine Run.region ?_ | refine Ops.nil ?_ | refine Ops.lss rfl (by decide) rfl rfl ?_)
      refine Run.cond rfl rfl (fun hkl => ?_) (fun hkl => ?_)
      all_goals (try rw [hkl])
      all_goals (try simp only [decide_eq_true_eq, decide_eq_false_iff_not, Bool.not_eq_true', Bool.not_eq_false', Bool.and_eq_true, Bool.or_eq_true, Bool.and_eq_false_imp, Bool.or_eq_false_iff] at hkl)
      · have hkx : k < x.length := by omega
        repeat (first | refine Run.seq ?_ | refine Run.region ?_ | refine Ops.nil ?_ | refine Run.skip ?_ | refine Run.block ?_ | refine Ops.lss rfl (by decide) rfl rfl ?_ | refine Ops.pure T rfl (by decide) rfl ?_ | refine Ops.indexStr rfl (by decide) (T.undOk rfl) rfl rfl (by first | omega | (simp only [List.length_cons, List.length_nil] ; omega) | (simp; omega)) (by first | omega | (simp only [List.length_cons, List.length_nil] ; omega) | (simp; omega)) ?_)
        have et : ((k : Int)).toNat = k := by omega
        rw [et]
        generalize hc : x.getD k 0 = ch at *
        cases d1 : decide ((ch.toNat : Int) < 48) with
        | true =>
          have hn : ip4 s = none := ip4_none hxm (octGo_bad hkx hc (by have := of_decide_eq_true d1; omega))
          repeat (first | refine Run.seq ?_ | refine Run.region ?_ | refine Ops.nil ?_ | refine Run.cond_t rfl ?_ | refine Ops.not rfl (by decide) ?_ | refine Ops.pure T rfl (by decide) rfl ?_ | refine Ops.loadN 0 rfl (by decide) rfl rfl (T.aggOk rfl) (T.sizeOk rfl) rfl rfl ?_ | refine Ops.store 0 rfl rfl rfl rfl rfl (T.sizeOk rfl) rfl (Nat.le_of_ble_eq_true rfl) rfl rfl ?_)
          refine Run.retCT T 0 (by rw [hCf]; exact func127) results127 rfl rfl rfl rfl rfl rfl rfl (hR _ _ _ ?_)
          refine ⟨rfl, [a0, a1, a2, a3], rfl, ?_, ?_⟩
          · rw [hn]; rfl
          · rw [hn]; intro _ h; cases h
        | false =>
        have d1' := of_decide_eq_false d1
        repeat (first | refine Ops.nil ?_ | refine Ops.gtr rfl (by decide) rfl rfl ?_ | refine Ops.pure T rfl (by decide) rfl ?_ | refine Ops.indexStr rfl (by decide) (T.undOk rfl) rfl rfl (by first | omega | (simp only [List.length_cons, List.length_nil] ; omega) | (simp; omega)) (by first | omega | (simp only [List.length_cons, List.length_nil] ; omega) | (simp; omega)) ?_)
        rw [et, hc]
        cases d2 : decide ((57 : Int) < (ch.toNat : Int)) with
        | true =>
          have hn : ip4 s = none := ip4_none hxm (octGo_bad hkx hc (by have := of_decide_eq_true d2; omega))
          repeat (first | refine Run.seq ?_ | refine Run.region ?_ | refine Ops.nil ?_ | refine Run.cond_t rfl ?_ | refine Ops.pure T rfl (by decide) rfl ?_ | refine Ops.loadN 0 rfl (by decide) rfl rfl (T.aggOk rfl) (T.sizeOk rfl) rfl rfl ?_ | refine Ops.store 0 rfl rfl rfl rfl rfl (T.sizeOk rfl) rfl (Nat.le_of_ble_eq_true rfl) rfl rfl ?_)
          refine Run.retCT T 0 (by rw [hCf]; exact func127) results127 rfl rfl rfl rfl rfl rfl rfl (hR _ _ _ ?_)
          refine ⟨rfl, [a0, a1, a2, a3], rfl, ?_, ?_⟩
          · rw [hn]; rfl
          · rw [hn]; intro _ h; cases h
        | false =>
        have d2' := of_decide_eq_false d2
        repeat (first | refine Run.region ?_ | refine Run.skip ?_ | refine Run.cond_f rfl ?_ | refine Ops.pure T rfl (by decide) rfl ?_)
        refine Ops.mul rfl (by decide) rfl rfl (wI (by omega) (by omega)) ?_
        repeat (first | refine Ops.pure T rfl (by decide) rfl ?_ | refine Ops.indexStr rfl (by decide) (T.undOk rfl) rfl rfl (by first | omega | (simp only [List.length_cons, List.length_nil] ; omega) | (simp; omega)) (by first | omega | (simp only [List.length_cons, List.length_nil] ; omega) | (simp; omega)) ?_)
        rw [et, hc]
        refine Ops.sub rfl (by decide) rfl rfl (w8 (by omega) (by omega)) ?_
        refine Ops.convInt rfl (by decide) (T.undOk rfl) (T.undOk rfl) rfl (wI (by omega) (by omega)) ?_
        repeat (first | refine Run.region ?_ | refine Ops.nil ?_ | refine Run.inBlock ?_ | refine Ops.add rfl (by decide) rfl rfl (wI (by first | omega | (simp only [List.length_cons, List.length_nil] ; omega) | (simp; omega)) (by first | omega | (simp only [List.length_cons, List.length_nil] ; omega) | (simp; omega))) ?_ | refine Ops.pure T rfl (by decide) rfl ?_)
        refine Run.keep [2, 15, 16, 17, 5, 6, 7, 41, 42] [_, _, _, _, _, _, _, _, _] rfl ?_
        have hdg : ¬ (ch.toNat < 48 ∨ 57 < ch.toNat) := by omega
        refine ih2 (x.length - (k + 1)) _ _ _ (by omega) ⟨k + 1, n * 10 + (ch.toNat - 48), rfl, by omega, octGo_snoc hkx hc hdg hgo, by rw [Nat.pow_succ]; omega, ?_, rfl, rfl⟩
        have e7 : (n : Int) * 10 + ((ch.toNat : Int) - 48) = ((n * 10 + (ch.toNat - 48) : Nat) : Int) := by omega
        rw [e7]
        rfl
      · obtain rfl : k = x.length := by omega
        rw [List.take_length] at hgo
        repeat (first | refine Run.seq ?_ | refine Run.region ?_ | refine Ops.nil ?_ | refine Run.exit rfl ?_ | refine Ops.gtr rfl (by decide) rfl rfl ?_ | refine Ops.pure T rfl (by decide) rfl ?_)
        cases d3 : decide ((255 : Int) < (n : Int)) with
        | true =>
          have hn : ip4 s = none := ip4_none hxm (by unfold oct; rw [if_neg (by rintro (h | h | h); exact c1' h; omega; exact hld h), hgo]; simp only; rw [if_pos (by have := of_decide_eq_true d3; omega)])
          repeat (first | refine Run.seq ?_ | refine Run.region ?_ | refine Ops.nil ?_ | refine Run.cond_t rfl ?_ | refine Ops.pure T rfl (by decide) rfl ?_ | refine Ops.loadN 0 rfl (by decide) rfl rfl (T.aggOk rfl) (T.sizeOk rfl) rfl rfl ?_ | refine Ops.store 0 rfl rfl rfl rfl rfl (T.sizeOk rfl) rfl (Nat.le_of_ble_eq_true rfl) rfl rfl ?_)
          refine Run.retCT T 0 (by rw [hCf]; exact func127) results127 rfl rfl rfl rfl rfl rfl rfl (hR _ _ _ ?_)
          refine ⟨rfl, [a0, a1, a2, a3], rfl, ?_, ?_⟩
          · rw [hn]; rfl
          · rw [hn]; intro _ h; cases h
        | false =>
        have d3' := of_decide_eq_false d3
        have hoct : oct x = some n := by unfold oct; rw [if_neg (by rintro (h | h | h); exact c1' h; omega; exact hld h), hgo]; simp only; rw [if_neg (by omega)]
        repeat (first | refine Run.region ?_ | refine Run.skip ?_ | refine Run.cond_f rfl ?_ | refine Ops.pure T rfl (by decide) rfl ?_)
        refine Ops.convInt rfl (by decide) (T.undOk rfl) (T.undOk rfl) rfl (w8 (by omega) (by omega)) ?_
        have hi4 : i = 0 ∨ i = 1 ∨ i = 2 ∨ i = 3 := by omega
        rcases hi4 with rfl | rfl | rfl | rfl
        · refine Ops.indexArr T rfl (by decide) rfl rfl rfl rfl (by decide) (by decide) ?_
          repeat (first | refine Run.region ?_ | refine Ops.nil ?_ | refine Run.inBlock ?_ | refine Ops.add rfl (by decide) rfl rfl (wI (by first | omega | (simp only [List.length_cons, List.length_nil] ; omega) | (simp; omega)) (by first | omega | (simp only [List.length_cons, List.length_nil] ; omega) | (simp; omega))) ?_ | refine Ops.pure T rfl (by decide) rfl ?_ | refine Ops.store 0 rfl rfl rfl rfl rfl (T.sizeOk rfl) rfl (Nat.le_of_ble_eq_true rfl) rfl rfl ?_)
          refine Run.keep [2, 15, 16, 17] [_, _, _, _] rfl ?_
          refine ih (4 - ((0 : Nat) + 1)) _ _ _ (by omega) ⟨0 + 1, (n, a1, a2, a3), rfl, by omega, ?_, rfl, rfl, rfl⟩
          rw [List.take_add_one, hx]
          exact octs_snoc hoct hoc
        · refine Ops.indexArr T rfl (by decide) rfl rfl rfl rfl (by decide) (by decide) ?_
          repeat (first | refine Run.region ?_ | refine Ops.nil ?_ | refine Run.inBlock ?_ | refine Ops.add rfl (by decide) rfl rfl (wI (by first | omega | (simp only [List.length_cons, List.length_nil] ; omega) | (simp; omega)) (by first | omega | (simp only [List.length_cons, List.length_nil] ; omega) | (simp; omega))) ?_ | refine Ops.pure T rfl (by decide) rfl ?_ | refine Ops.store 0 rfl rfl rfl rfl rfl (T.sizeOk rfl) rfl (Nat.le_of_ble_eq_true rfl) rfl rfl ?_)
          refine Run.keep [2, 15, 16, 17] [_, _, _, _] rfl ?_
          refine ih (4 - ((1 : Nat) + 1)) _ _ _ (by omega) ⟨1 + 1, (a0, n, a2, a3), rfl, by omega, ?_, rfl, rfl, rfl⟩
          rw [List.take_add_one, hx]
          exact octs_snoc hoct hoc
        · refine Ops.indexArr T rfl (by decide) rfl rfl rfl rfl (by decide) (by decide) ?_
          repeat (first | refine Run.region ?_ | refine Ops.nil ?_ | refine Run.inBlock ?_ | refine Ops.add rfl (by decide) rfl rfl (wI (by first | omega | (simp only [List.length_cons, List.length_nil] ; omega) | (simp; omega)) (by first | omega | (simp only [List.length_cons, List.length_nil] ; omega) | (simp; omega))) ?_ | refine Ops.pure T rfl (by decide) rfl ?_ | refine Ops.store 0 rfl rfl rfl rfl rfl (T.sizeOk rfl) rfl (Nat.le_of_ble_eq_true rfl) rfl rfl ?_)
          refine Run.keep [2, 15, 16, 17] [_, _, _, _] rfl ?_
          refine ih (4 - ((2 : Nat) + 1)) _ _ _ (by omega) ⟨2 + 1, (a0, a1, n, a3), rfl, by omega, ?_, rfl, rfl, rfl⟩
          rw [List.take_add_one, hx]
          exact octs_snoc hoct hoc
        · refine Ops.indexArr T rfl (by decide) rfl rfl rfl rfl (by decide) (by decide) ?_
          repeat (first | refine Run.region ?_ | refine Ops.nil ?_ | refine Run.inBlock ?_ | refine Ops.add rfl (by decide) rfl rfl (wI (by first | omega | (simp only [List.length_cons, List.length_nil] ; omega) | (simp; omega)) (by first | omega | (simp only [List.length_cons, List.length_nil] ; omega) | (simp; omega))) ?_ | refine Ops.pure T rfl (by decide) rfl ?_ | refine Ops.store 0 rfl rfl rfl rfl rfl (T.sizeOk rfl) rfl (Nat.le_of_ble_eq_true rfl) rfl rfl ?_)
          refine Run.keep [2, 15, 16, 17] [_, _, _, _] rfl ?_
          refine ih (4 - ((3 : Nat) + 1)) _ _ _ (by omega) ⟨3 + 1, (a0, a1, a2, n), rfl, by omega, ?_, rfl, rfl, rfl⟩
          rw [List.take_add_one, hx]
          exact octs_snoc hoct hoc
  · obtain rfl : i = 4 := by omega
    have hi4 : ip4 s = some [a0, a1, a2, a3] := by
      unfold ip4
      rw [if_pos h4']
      rw [List.take_of_length_le (by omega)] at hoc
      exact hoc
    repeat (first | refine Run.seq ?_ | refine Run.region ?_ | refine Ops.nil ?_ | refine Run.exit rfl ?_ | refine Ops.pure T rfl (by decide) rfl ?_ | refine Ops.loadN 0 rfl (by decide) rfl rfl (T.aggOk rfl) (T.sizeOk rfl) rfl rfl ?_ | refine Ops.store 0 rfl rfl rfl rfl rfl (T.sizeOk rfl) rfl (Nat.le_of_ble_eq_true rfl) rfl rfl ?_)
    refine Run.retCT T 0 (by rw [hCf]; exact func127) results127 rfl rfl rfl rfl rfl rfl rfl (hR _ _ _ ?_)
    refine ⟨rfl, [a0, a1, a2, a3], rfl, ?_, ?_⟩
    · rw [hi4]; rfl
    · rw [hi4]; intro _ h; cases h; rfl
end Go.V
namespace Go.V
open Go.Proofs.Tryz
open Go.RowKit
set_option linter.unusedVariables false
set_option linter.unusedSimpArgs false
set_option maxRecDepth 10000
attribute [local irreducible] Run Ops
theorem Registry_RegistryStr (I : Imm) (ins : Bool) (r : Tx) : Pure prog 76 [.agg [.bool ins, str r].toArray] I fun w J => w = str r := by
  refine Spec.enter 5 [(0, _)] func76 rfl ntmps76 (by simp) rfl ?_
  intro C hCf hR hCI
  repeat (first | refine Run.seq ?_ | refine Run.region ?_)
  refine Ops.box rfl (by decide) rfl rfl (fun b => ?_)
  repeat (first | refine Run.seq ?_ | refine Run.region ?_ | refine Ops.nil ?_ | refine Ops.pure T rfl (by decide) rfl ?_ | refine Ops.load 0 rfl (by decide) rfl rfl (T.aggOk rfl) rfl ?_)
  refine Run.fin (Run.ret1 (by rw [hCf]; exact func76) results76 rfl (hR _ _ _ ?_))
  exact ⟨rfl, rfl⟩
theorem Registry_Name (I : Imm) (ins : Bool) (r : Tx) : Pure prog 77 [.agg [.bool ins, str r].toArray] I fun w J => w = str r := by
  refine Spec.enter 5 [(0, _)] func77 rfl ntmps77 (by simp) rfl ?_
  intro C hCf hR hCI
  repeat (first | refine Run.seq ?_ | refine Run.region ?_)
  refine Ops.box rfl (by decide) rfl rfl (fun b => ?_)
  repeat (first | refine Run.seq ?_ | refine Run.region ?_ | refine Ops.nil ?_ | refine Ops.pure T rfl (by decide) rfl ?_ | refine Ops.loadN 0 rfl (by decide) rfl rfl (T.aggOk rfl) (T.sizeOk rfl) rfl rfl ?_)
  refine Ops.call ((Registry_RegistryStr I ins r)) rfl (by decide) call76 rfl ?_
  rintro _ J1 l1 rfl
  repeat (first | refine Ops.nil ?_ | refine Ops.pure T rfl (by decide) rfl ?_)
  refine Run.fin (Run.ret1 (by rw [hCf]; exact func77) results77 rfl (hR _ _ _ ?_))
  exact ⟨rfl, rfl⟩
theorem Registry_String (I : Imm) (ins : Bool) (r : Tx) : Pure prog 60 [.agg [.bool ins, str r].toArray] I fun w J => w = str r := by
  refine Spec.enter 5 [(0, _)] func60 rfl ntmps60 (by simp) rfl ?_
  intro C hCf hR hCI
  repeat (first | refine Run.seq ?_ | refine Run.region ?_)
  refine Ops.box rfl (by decide) rfl rfl (fun b => ?_)
  repeat (first | refine Run.seq ?_ | refine Run.region ?_ | refine Ops.nil ?_ | refine Ops.pure T rfl (by decide) rfl ?_ | refine Ops.loadN 0 rfl (by decide) rfl rfl (T.aggOk rfl) (T.sizeOk rfl) rfl rfl ?_)
  refine Ops.call ((Registry_Name I ins r)) rfl (by decide) call77 rfl ?_
  rintro _ J1 l1 rfl
  repeat (first | refine Ops.nil ?_ | refine Ops.pure T rfl (by decide) rfl ?_)
  refine Run.fin (Run.ret1 (by rw [hCf]; exact func60) results60 rfl (hR _ _ _ ?_))
  exact ⟨rfl, rfl⟩
theorem Registry_Scope (I : Imm) (ins : Bool) (r a : Tx) : Pure prog 79 [.agg [.bool ins, str r].toArray, str a] I fun w J => w = str [114, 101, 103, 105, 115, 116, 114, 121, 58, 99, 97, 116, 97, 108, 111, 103, 58, 42] := by
  refine Spec.enter 5 [(0, _), (1, _)] func79 rfl ntmps79 (by simp) rfl ?_
  intro C hCf hR hCI
  repeat (first | refine Run.seq ?_ | refine Run.region ?_)
  refine Ops.box rfl (by decide) rfl rfl (fun b => ?_)
  repeat (first | refine Run.seq ?_ | refine Run.region ?_ | refine Ops.nil ?_ | refine Ops.pure T rfl (by decide) rfl ?_)
  refine Run.fin (Run.ret1 (by rw [hCf]; exact func79) results79 rfl (hR _ _ _ ?_))
  exact ⟨rfl, rfl⟩
theorem nat_dec (a : Nat) (n : Nat) : decide ((a : Int) = (n : Int)) = decide (a = n) := by rw [decide_eq_decide]; omega
theorem pv (a0 a1 a2 a3 : Nat) : privO' (some [a0, a1, a2, a3]) = (decide ((a0 : Int) = 10) || (decide ((a0 : Int) = 172) && decide (((a1 / 16 : Nat) : Int) = 1)) || (decide ((a0 : Int) = 192) && decide ((a1 : Int) = 168))) := by
  show (decide (a0 = 10) || (decide (a0 = 172) && decide (a1 / 16 = 1)) || (decide (a0 = 192) && decide (a1 = 168))) = _
  rw [← nat_dec a0 10, ← nat_dec a0 172, ← nat_dec (a1 / 16) 1, ← nat_dec a0 192, ← nat_dec a1 168]
  rfl
theorem shr4 (n : Nat) : (n : Int).fdiv (2 ^ (min (4 : Int).toNat IntKind.u8.bits)) = ((n / 16 : Nat) : Int) := by
  have e : (2 ^ (min (4 : Int).toNat IntKind.u8.bits) : Int) = 16 := by decide
  rw [e, Int.fdiv_eq_ediv_of_nonneg _ (by decide)]
  omega
set_option maxHeartbeats 2000000 in
theorem Registry_isRFC1918 (I : Imm) (ins : Bool) (r : Tx) (hr : r.length ≤ 1099511627776) : Pure prog 108 [.agg [.bool ins, str r].toArray] I fun w J => w = .bool (privO' (ip4 ((spl 58 r).headD []))) := by
  refine Spec.enter 42 [(0, _)] func108 rfl ntmps108 (by simp) rfl ?_
  intro C hCf hR hCI
  repeat (first | refine Run.seq ?_ | refine Run.region ?_)
  refine Ops.box rfl (by decide) rfl rfl (fun b => ?_)
  repeat (first | refine Run.seq ?_ | refine Run.region ?_ | refine Ops.nil ?_ | refine Ops.pure T rfl (by decide) rfl ?_ | refine Ops.loadN 0 rfl (by decide) rfl rfl (T.aggOk rfl) (T.sizeOk rfl) rfl rfl ?_)
  refine Ops.call ((Registry_Name I ins r)) rfl (by decide) call77 rfl ?_
  rintro _ J1 l1 rfl
  refine Ops.callN ((name_zzSplit r 58 J1 hr)) rfl (by decide) call67 rfl ?_
  rintro v J2 M l2 hG
  refine Ops.keepG (N := [_]) hG rfl fun J3 l3 hS => ?_
  obtain ⟨A, c, e⟩ := hS.isSl
  subst e
  cases hsp : spl 58 r with
  | nil => exact absurd hsp (spl_pos 58 r)
  | cons h0 t0 =>
  have hl0 : h0.length ≤ 1099511627776 := by
    have := spl_memlenN 58 r h0 (by rw [hsp]; exact List.mem_cons_self)
    omega
  rw [hsp] at hS
  refine Ops.indexSl hS rfl (by decide) rfl rfl (T.undOk rfl) (T.sizeOk rfl) (by decide) (by simp) ?_
  rintro b_ off_ x cs_ hx hr_ hA_
  obtain rfl : h0 = x := by simpa using hx
  obtain rfl : cs_ = [_] := hr_
  refine Ops.loadI rfl (by decide) rfl hA_ (T.aggOk rfl) ?_
  repeat (first | refine Run.seq ?_ | refine Run.region ?_ | refine Ops.nil ?_ | refine Ops.pure T rfl (by decide) rfl ?_)
  refine Ops.call ((name_zzIPv4 J3 h0 hl0)) rfl (by decide) call127 rfl ?_
  rintro _ J4 l4 ⟨l, hlen, rfl, hl⟩
  repeat (first | refine Ops.pure T rfl (by decide) rfl ?_)
  obtain ⟨a0, a1, a2, a3, rfl⟩ : ∃ a0 a1 a2 a3, l = [a0, a1, a2, a3] := by
    match l, hlen with
    | [a0, a1, a2, a3], _ => exact ⟨a0, a1, a2, a3, rfl⟩
  refine Ops.alloc rfl (by decide) (T.zeroOk rfl) rfl (fun b2 => ?_)
  repeat (first | refine Run.seq ?_ | refine Run.region ?_ | refine Ops.nil ?_ | refine Ops.pure T rfl (by decide) rfl ?_ | refine Ops.store 0 rfl rfl rfl rfl rfl (T.sizeOk rfl) rfl (Nat.le_of_ble_eq_true rfl) rfl rfl ?_)
  cases hi : ip4 h0 with
  | none =>
    repeat (first | refine Run.seq ?_ | refine Run.region ?_ | refine Ops.nil ?_ | refine Run.cond_t rfl ?_ | refine Ops.pure T rfl (by decide) rfl ?_)
    refine Run.fin (Run.ret1 (by rw [hCf]; exact func108) results108 rfl (hR _ _ _ ?_))
    exact ⟨rfl, by simp only [hsp, List.headD_cons, hi]; rfl⟩
  | some l' =>
    obtain rfl := hl l' hi
    repeat (first | refine Run.seq ?_ | refine Run.region ?_ | refine Run.skip ?_ | refine Run.cond_f rfl ?_)
    refine Ops.indexArr T rfl (by decide) rfl rfl rfl rfl (by decide) (by decide) ?_
    repeat (first | refine Ops.eql rfl (by decide) rfl rfl ?_ | refine Ops.pure T rfl (by decide) rfl ?_ | refine Ops.load 0 rfl (by decide) rfl rfl (T.aggOk rfl) rfl ?_)
    cases h1 : decide ((a0 : Int) = 10) with
    | true =>
      repeat (first | refine Ops.nil ?_ | refine Ops.not rfl (by decide) ?_ | refine Ops.notU rfl (by decide) ?_ | refine Ops.pure T rfl (by decide) rfl ?_)
      refine Run.fin (Run.ret1 (by rw [hCf]; exact func108) results108 rfl (hR _ _ _ ?_))
      refine ⟨rfl, ?_⟩
      simp only [hsp, List.headD_cons, hi, pv, h1]
      rfl
    | false =>
      skip
      refine Ops.indexArr T rfl (by decide) rfl rfl rfl rfl (by decide) (by decide) ?_
      repeat (first | refine Ops.eql rfl (by decide) rfl rfl ?_ | refine Ops.pure T rfl (by decide) rfl ?_ | refine Ops.load 0 rfl (by decide) rfl rfl (T.aggOk rfl) rfl ?_)
      cases h2 : decide ((a0 : Int) = 172) with
      | false =>
        repeat (first | refine Ops.not rfl (by decide) ?_ | refine Ops.pure T rfl (by decide) rfl ?_)
        refine Ops.indexArr T rfl (by decide) rfl rfl rfl rfl (by decide) (by decide) ?_
        repeat (first | refine Ops.eql rfl (by decide) rfl rfl ?_ | refine Ops.pure T rfl (by decide) rfl ?_ | refine Ops.load 0 rfl (by decide) rfl rfl (T.aggOk rfl) rfl ?_)
        cases h4 : decide ((a0 : Int) = 192) with
        | false =>
          repeat (first | refine Ops.nil ?_ | refine Ops.not rfl (by decide) ?_ | refine Ops.pure T rfl (by decide) rfl ?_)
          refine Run.fin (Run.ret1 (by rw [hCf]; exact func108) results108 rfl (hR _ _ _ ?_))
          refine ⟨rfl, ?_⟩
          simp only [hsp, List.headD_cons, hi, pv, h1, h2, h4]
          rfl
        | true =>
          skip
          refine Ops.indexArr T rfl (by decide) rfl rfl rfl rfl (by decide) (by decide) ?_
          repeat (first | refine Ops.nil ?_ | refine Ops.eql rfl (by decide) rfl rfl ?_ | refine Ops.pure T rfl (by decide) rfl ?_ | refine Ops.load 0 rfl (by decide) rfl rfl (T.aggOk rfl) rfl ?_)
          cases h5 : decide ((a1 : Int) = 168) with
          | false =>
            skip
            refine Run.fin (Run.ret1 (by rw [hCf]; exact func108) results108 rfl (hR _ _ _ ?_))
            refine ⟨rfl, ?_⟩
            simp only [hsp, List.headD_cons, hi, pv, h1, h2, h4, h5]
            rfl
          | true =>
            skip
            refine Run.fin (Run.ret1 (by rw [hCf]; exact func108) results108 rfl (hR _ _ _ ?_))
            refine ⟨rfl, ?_⟩
            simp only [hsp, List.headD_cons, hi, pv, h1, h2, h4, h5]
            rfl
      | true =>
        skip
        refine Ops.indexArr T rfl (by decide) rfl rfl rfl rfl (by decide) (by decide) ?_
        repeat (first | refine Ops.load 0 rfl (by decide) rfl rfl (T.aggOk rfl) rfl ?_)
        refine Ops.shr rfl (by decide) rfl rfl (by decide) (shr4 a1) ?_
        repeat (first | refine Ops.eql rfl (by decide) rfl rfl ?_ | refine Ops.pure T rfl (by decide) rfl ?_)
        cases h3 : decide (((a1 / 16 : Nat) : Int) = 1) with
        | true =>
          repeat (first | refine Ops.nil ?_ | refine Ops.not rfl (by decide) ?_ | refine Ops.notU rfl (by decide) ?_ | refine Ops.pure T rfl (by decide) rfl ?_)
          refine Run.fin (Run.ret1 (by rw [hCf]; exact func108) results108 rfl (hR _ _ _ ?_))
          refine ⟨rfl, ?_⟩
          simp only [hsp, List.headD_cons, hi, pv, h1, h2, h3]
          rfl
        | false =>
          skip
          refine Ops.indexArr T rfl (by decide) rfl rfl rfl rfl (by decide) (by decide) ?_
          repeat (first | refine Ops.eql rfl (by decide) rfl rfl ?_ | refine Ops.pure T rfl (by decide) rfl ?_ | refine Ops.load 0 rfl (by decide) rfl rfl (T.aggOk rfl) rfl ?_)
          cases h4 : decide ((a0 : Int) = 192) with
          | false =>
            repeat (first | refine Ops.nil ?_ | refine Ops.not rfl (by decide) ?_ | refine Ops.pure T rfl (by decide) rfl ?_)
            refine Run.fin (Run.ret1 (by rw [hCf]; exact func108) results108 rfl (hR _ _ _ ?_))
            refine ⟨rfl, ?_⟩
            simp only [hsp, List.headD_cons, hi, pv, h1, h2, h3, h4]
            rfl
          | true =>
            skip
            refine Ops.indexArr T rfl (by decide) rfl rfl rfl rfl (by decide) (by decide) ?_
            repeat (first | refine Ops.nil ?_ | refine Ops.eql rfl (by decide) rfl rfl ?_ | refine Ops.pure T rfl (by decide) rfl ?_ | refine Ops.load 0 rfl (by decide) rfl rfl (T.aggOk rfl) rfl ?_)
            cases h5 : decide ((a1 : Int) = 168) with
            | false =>
              skip
              refine Run.fin (Run.ret1 (by rw [hCf]; exact func108) results108 rfl (hR _ _ _ ?_))
              refine ⟨rfl, ?_⟩
              simp only [hsp, List.headD_cons, hi, pv, h1, h2, h3, h4, h5]
              rfl
            | true =>
              skip
              refine Run.fin (Run.ret1 (by rw [hCf]; exact func108) results108 rfl (hR _ _ _ ?_))
              refine ⟨rfl, ?_⟩
              simp only [hsp, List.headD_cons, hi, pv, h1, h2, h3, h4, h5]
              rfl
set_option maxHeartbeats 1000000 in
theorem Registry_Scheme (I : Imm) (ins : Bool) (r : Tx) (hr : r.length ≤ 1099511627776) : Pure prog 78 [.agg [.bool ins, str r].toArray] I fun w J => w = str (schemeT (ins || pHttp r)) := by
  refine Spec.enter 19 [(0, _)] func78 rfl ntmps78 (by simp) rfl ?_
  intro C hCf hR hCI
  repeat (first | refine Run.seq ?_ | refine Run.region ?_)
  refine Ops.box rfl (by decide) rfl rfl (fun b => ?_)
  repeat (first | refine Run.seq ?_ | refine Run.region ?_ | refine Ops.nil ?_ | refine Ops.pure T rfl (by decide) rfl ?_ | refine Ops.load 0 rfl (by decide) rfl rfl (T.aggOk rfl) rfl ?_)
  cases ins with
  | true =>
    repeat (first | refine Run.seq ?_ | refine Run.region ?_ | refine Ops.nil ?_ | refine Run.cond_t rfl ?_ | refine Ops.pure T rfl (by decide) rfl ?_)
    refine Run.fin (Run.ret1 (by rw [hCf]; exact func78) results78 rfl (hR _ _ _ ?_))
    exact ⟨rfl, rfl⟩
  | false =>
  repeat (first | refine Run.seq ?_ | refine Run.region ?_ | refine Run.skip ?_ | refine Run.cond_f rfl ?_ | refine Ops.loadN 0 rfl (by decide) rfl rfl (T.aggOk rfl) (T.sizeOk rfl) rfl rfl ?_)
  refine Ops.call ((Registry_isRFC1918 I false r hr)) rfl (by decide) call108 rfl ?_
  rintro _ J1 l1 rfl
  repeat (first | refine Ops.nil ?_)
  cases h1 : privO' (ip4 ((spl 58 r).headD [])) with
  | true =>
    repeat (first | refine Run.seq ?_ | refine Run.region ?_ | refine Ops.nil ?_ | refine Run.cond_t rfl ?_ | refine Ops.pure T rfl (by decide) rfl ?_)
    refine Run.fin (Run.ret1 (by rw [hCf]; exact func78) results78 rfl (hR _ _ _ ?_))
    exact ⟨rfl, by simp only [pHttp, h1]; rfl⟩
  | false =>
  repeat (first | refine Run.seq ?_ | refine Run.region ?_ | refine Run.skip ?_ | refine Run.cond_f rfl ?_ | refine Ops.loadN 0 rfl (by decide) rfl rfl (T.aggOk rfl) (T.sizeOk rfl) rfl rfl ?_)
  refine Ops.call ((Registry_Name J1 false r)) rfl (by decide) call77 rfl ?_
  rintro _ J2 l2 rfl
  refine Ops.call ((strings_HasPrefix r [108, 111, 99, 97, 108, 104, 111, 115, 116, 58] J2 (by omega) (by decide))) rfl (by decide) call90 rfl ?_
  rintro _ J3 l3 rfl
  repeat (first | refine Ops.nil ?_)
  cases h2 : starts [108, 111, 99, 97, 108, 104, 111, 115, 116, 58] r with
  | true =>
    repeat (first | refine Run.seq ?_ | refine Run.region ?_ | refine Ops.nil ?_ | refine Run.cond_t rfl ?_ | refine Ops.pure T rfl (by decide) rfl ?_)
    refine Run.fin (Run.ret1 (by rw [hCf]; exact func78) results78 rfl (hR _ _ _ ?_))
    exact ⟨rfl, by simp only [pHttp, h1, h2]; rfl⟩
  | false =>
  repeat (first | refine Run.seq ?_ | refine Run.region ?_ | refine Run.skip ?_ | refine Run.cond_f rfl ?_ | refine Ops.loadN 0 rfl (by decide) rfl rfl (T.aggOk rfl) (T.sizeOk rfl) rfl rfl ?_)
  refine Ops.call ((Registry_Name J3 false r)) rfl (by decide) call77 rfl ?_
  rintro _ J4 l4 rfl
  refine Ops.call ((name_zzLocal J4 r (by omega))) rfl (by decide) call109 rfl ?_
  rintro _ J5 l5 rfl
  repeat (first | refine Ops.nil ?_)
  cases h3 : endsT [46, 108, 111, 99, 97, 108, 104, 111, 115, 116] (portF r) with
  | true =>
    repeat (first | refine Run.seq ?_ | refine Run.region ?_ | refine Ops.nil ?_ | refine Run.cond_t rfl ?_ | refine Ops.pure T rfl (by decide) rfl ?_)
    refine Run.fin (Run.ret1 (by rw [hCf]; exact func78) results78 rfl (hR _ _ _ ?_))
    exact ⟨rfl, by simp only [pHttp, h1, h2, h3]; rfl⟩
  | false =>
  repeat (first | refine Run.seq ?_ | refine Run.region ?_ | refine Run.skip ?_ | refine Run.cond_f rfl ?_ | refine Ops.loadN 0 rfl (by decide) rfl rfl (T.aggOk rfl) (T.sizeOk rfl) rfl rfl ?_)
  refine Ops.call ((Registry_Name J5 false r)) rfl (by decide) call77 rfl ?_
  rintro _ J6 l6 rfl
  refine Ops.call ((name_zzLoopback J6 r (by omega))) rfl (by decide) call110 rfl ?_
  rintro _ J7 l7 rfl
  repeat (first | refine Ops.nil ?_)
  cases h4 : decide (portF r = [49, 50, 55, 46, 48, 46, 48, 46, 49]) with
  | true =>
    repeat (first | refine Run.seq ?_ | refine Run.region ?_ | refine Ops.nil ?_ | refine Run.cond_t rfl ?_ | refine Ops.pure T rfl (by decide) rfl ?_)
    refine Run.fin (Run.ret1 (by rw [hCf]; exact func78) results78 rfl (hR _ _ _ ?_))
    exact ⟨rfl, by simp only [pHttp, h1, h2, h3, h4]; rfl⟩
  | false =>
  repeat (first | refine Run.seq ?_ | refine Run.region ?_ | refine Run.skip ?_ | refine Run.cond_f rfl ?_ | refine Ops.loadN 0 rfl (by decide) rfl rfl (T.aggOk rfl) (T.sizeOk rfl) rfl rfl ?_)
  refine Ops.call ((Registry_Name J7 false r)) rfl (by decide) call77 rfl ?_
  rintro _ J8 l8 rfl
  refine Ops.call ((name_zzLoopback6 J8 r (by omega))) rfl (by decide) call111 rfl ?_
  rintro _ J9 l9 rfl
  repeat (first | refine Ops.nil ?_)
  cases h5 : (decide (r = [58, 58, 49]) || decide (portF r = [91, 58, 58, 49, 93])) with
  | true =>
    repeat (first | refine Run.seq ?_ | refine Run.region ?_ | refine Ops.nil ?_ | refine Run.cond_t rfl ?_ | refine Ops.pure T rfl (by decide) rfl ?_)
    refine Run.fin (Run.ret1 (by rw [hCf]; exact func78) results78 rfl (hR _ _ _ ?_))
    exact ⟨rfl, by simp only [pHttp, h1, h2, h3, h4, h5]; rfl⟩
  | false =>
    repeat (first | refine Run.seq ?_ | refine Run.region ?_ | refine Ops.nil ?_ | refine Run.skip ?_ | refine Run.cond_f rfl ?_ | refine Ops.pure T rfl (by decide) rfl ?_)
    refine Run.fin (Run.ret1 (by rw [hCf]; exact func78) results78 rfl (hR _ _ _ ?_))
    exact ⟨rfl, by simp only [pHttp, h1, h2, h3, h4, h5]; rfl⟩
theorem name_zzDigits (I : Imm) (s : Tx) (hs : s.length ≤ 1099511627776) : Pure prog 115 [str s] I fun w J => ∃ r, w = .bool r ∧ (∀ d, s = 58 :: d → allIn digT d = true → r = true) := by
  refine Spec.enter 15 [(0, _)] func115 rfl ntmps115 (by simp) rfl ?_
  intro C hCf hR hCI
  repeat (first | refine Run.seq ?_ | refine Run.region ?_ | refine Ops.nil ?_ | refine Ops.eqlStr rfl (by decide) rfl rfl ?_ | refine Ops.pure T rfl (by decide) rfl ?_)
  cases h1 : decide (s = []) with
  | true =>
    repeat (first | refine Ops.nil ?_ | refine Ops.not rfl (by decide) ?_ | refine Ops.notU rfl (by decide) ?_ | refine Ops.pure T rfl (by decide) rfl ?_)
    refine Run.fin (Run.ret1 (by rw [hCf]; exact func115) results115 rfl (hR _ _ _ ?_))
    exact ⟨rfl, true, rfl, fun _ _ _ => rfl⟩
  | false =>
    have h1' := of_decide_eq_false h1
    have hp : 0 < s.length := List.length_pos_iff.2 h1'
    repeat (first | refine Ops.eql rfl (by decide) rfl rfl ?_ | refine Ops.pure T rfl (by decide) rfl ?_ | refine Ops.indexStr rfl (by decide) (T.undOk rfl) rfl rfl (by first | omega | (simp only [List.length_cons, List.length_nil] ; omega) | (simp; omega)) (by first | omega | (simp only [List.length_cons, List.length_nil] ; omega) | (simp; omega)) ?_)
    cases h2 : decide (((s.getD (0 : Int).toNat 0).toNat : Int) = 58) with
    | false =>
      repeat (first | refine Ops.nil ?_ | refine Ops.not rfl (by decide) ?_ | refine Ops.pure T rfl (by decide) rfl ?_)
      refine Run.fin (Run.ret1 (by rw [hCf]; exact func115) results115 rfl (hR _ _ _ ?_))
      refine ⟨rfl, false, rfl, fun d hd _ => ?_⟩
      subst hd
      exact absurd rfl (of_decide_eq_false h2)
    | true =>
      repeat (first | refine Ops.pure T rfl (by decide) rfl ?_ | refine Ops.sliceStrLo rfl (by decide) (T.undOk rfl) rfl rfl (by first | omega | (simp only [List.length_cons, List.length_nil] ; omega) | (simp; omega)) (by first | omega | (simp only [List.length_cons, List.length_nil] ; omega) | (simp; omega)) ?_)
      refine Ops.call ((name_zzOnly I (s.drop 1) digT (by simp; omega) (by decide))) rfl (by decide) call105 rfl ?_
      rintro _ J1 l1 rfl
      repeat (first | refine Ops.nil ?_ | refine Ops.pure T rfl (by decide) rfl ?_)
      refine Run.fin (Run.ret1 (by rw [hCf]; exact func115) results115 rfl (hR _ _ _ ?_))
      refine ⟨rfl, _, rfl, fun d hd ha => ?_⟩
      subst hd
      have := runes_all (s := d) ascii_dig d.length 0 (by omega)
      rw [List.drop_zero, ha] at this
      exact this
end Go.V
namespace Go.V
open Go.Proofs.Tryz
open Go.RowKit
set_option linter.unusedVariables false
set_option linter.unusedSimpArgs false
set_option maxRecDepth 10000
attribute [local irreducible] Run Ops
set_option maxHeartbeats 8000000 in
theorem name_zzIPv6 (I : Imm) (s : Tx) (hs : s.length ≤ 1099511627776) : Pure prog 116 [str s] I fun w J => ∃ r, w = .bool r := by
  refine Spec.enter 131 [(0, _)] func116 rfl ntmps116 (by simp) rfl ?_
  intro C hCf hR hCI
  repeat (first | refine Run.seq ?_ | refine Run.region ?_ | refine Ops.nil ?_ | refine Ops.pure T rfl (by decide) rfl ?_)
  refine Ops.call ((name_zzContains s 58 I (by omega))) rfl (by decide) call68 rfl ?_
  rintro _ J1 l1 rfl
  cases h0 : hasB 58 s with
  | false =>
    repeat (first | refine Run.seq ?_ | refine Run.region ?_ | refine Ops.nil ?_ | refine Run.cond_t rfl ?_ | refine Ops.pure T rfl (by decide) rfl ?_)
    refine Run.fin (Run.ret1 (by rw [hCf]; exact func116) results116 rfl (hR _ _ _ ?_))
    exact ⟨rfl, _, rfl⟩
  | true =>
  repeat (first | refine Run.seq ?_ | refine Run.region ?_ | refine Ops.nil ?_ | refine Run.skip ?_ | refine Run.cond_f rfl ?_ | refine Ops.pure T rfl (by decide) rfl ?_)
  refine Ops.call ((strings_HasPrefix s [58, 58] J1 (by omega) (by decide))) rfl (by decide) call90 rfl ?_
  rintro _ J2 l2 rfl
  repeat (first | refine Ops.nil ?_)
  refine Run.merge (fun env' L' I' => ∃ (r : Tx) (g : Int), env' = [(0, str r), (3, .int .i64 g)] ∧ r.length ≤ 1099511627776 ∧ -1 ≤ g ∧ g ≤ 16 ∧ L' = []) rfl ?_ ?_ ?_
  · intro h1 k' fin
    have hl : 2 ≤ s.length := by
      simp only [starts, Bool.and_eq_true, decide_eq_true_eq] at h1
      exact h1.1
    repeat (first | refine Run.seq ?_ | refine Run.region ?_ | refine Ops.nil ?_ | refine Ops.eqlStr rfl (by decide) rfl rfl ?_ | refine Ops.pure T rfl (by decide) rfl ?_ | refine Ops.sliceStrLo rfl (by decide) (T.undOk rfl) rfl rfl (by first | omega | (simp only [List.length_cons, List.length_nil] ; omega) | (simp; omega)) (by first | omega | (simp only [List.length_cons, List.length_nil] ; omega) | (simp; omega)) ?_)
    have e2 : (2 : Int).toNat = 2 := rfl
    rw [e2]
    cases hz : decide (s.drop 2 = []) with
    | true =>
      repeat (first | refine Run.seq ?_ | refine Run.region ?_ | refine Ops.nil ?_ | refine Run.cond_t rfl ?_ | refine Ops.pure T rfl (by decide) rfl ?_)
      refine Run.fin (Run.ret1 (by rw [hCf]; exact func116) results116 rfl (hR _ _ _ ?_))
      exact ⟨rfl, _, rfl⟩
    | false =>
      repeat (first | refine Run.skip ?_ | refine Run.cond_f rfl ?_)
      refine Run.keep [0, 3] [_, _] rfl ?_
      exact fin _ _ _ ⟨s.drop 2, 0, rfl, by simp; omega, by decide, by decide, rfl⟩
  · intro h1 k' fin
    repeat (first | refine Run.skip ?_)
    refine Run.keep [0, 3] [_, _] rfl ?_
    exact fin _ _ _ ⟨s, -1, rfl, hs, by decide, by decide, rfl⟩
  rintro env L J ⟨r, g, rfl, hr, hg1, hg2, rfl⟩
  repeat (first | refine Run.seq ?_ | refine Run.region ?_ | refine Ops.nil ?_ | refine Run.block ?_ | refine Ops.pure T rfl (by decide) rfl ?_)
  refine Run.keep [0, 3, 4] [_, _, _] rfl ?_
  refine Run.rounds (fun m env L J => ∃ (r : Tx) (g : Int) (i : Nat), m = 18 - i ∧ i ≤ 18 ∧ r.length ≤ 1099511627776 ∧ -1 ≤ g ∧ g ≤ 18 ∧ env = [(0, str r), (3, .int .i64 g), (4, .int .i64 i)] ∧ L = []) 18 ⟨r, g, 0, rfl, by omega, hr, hg1, by omega, rfl, rfl⟩ ?_
  clear hr hg1 hg2
  rintro m env L J ⟨r, g, i, rfl, hi, hr, hg1, hg2, rfl, rfl⟩ ih
  repeat (first | refine Run.seq ?_ | refine Run.region ?_ | refine Ops.nil ?_ | refine Ops.lss rfl (by decide) rfl rfl ?_ | refine Ops.pure T rfl (by decide) rfl ?_)
  refine Run.cond rfl rfl (fun h16 => ?_) (fun h16 => ?_)
  all_goals (try rw [h16])
  all_goals (try simp only [decide_eq_true_eq, decide_eq_false_iff_not, Bool.not_eq_true', Bool.not_eq_false', Bool.and_eq_true, Bool.or_eq_true, Bool.and_eq_false_imp, Bool.or_eq_false_iff] at h16)
  · skip
    repeat (first | refine Run.seq ?_ | refine Run.region ?_ | refine Ops.nil ?_ | refine Run.skip ?_ | refine Run.block ?_ | refine Ops.pure T rfl (by decide) rfl ?_)
    refine Run.keep [0, 3, 4, 5] [_, _, _, _] rfl ?_
    refine Run.rounds (fun m env L K => ∃ (n : Nat), m = 5 - n ∧ n ≤ 4 ∧ n ≤ r.length ∧ env = [(0, str r), (3, .int .i64 g), (4, .int .i64 i), (5, .int .i64 n)] ∧ L = [] ∧ K = J) 5 ⟨0, rfl, by omega, by omega, rfl, rfl, rfl⟩ ?_
    rintro m env L J ⟨n, rfl, hn4, hnr, rfl, rfl, rfl⟩ ih2
    refine Run.seq ?_
    refine Run.seq ?_
    refine Run.piece (fun env' L' I' => ∃ c : Bool, env' = [(0, str r), (3, .int .i64 g), (4, .int .i64 i), (5, .int .i64 n), (58, .bool c)] ∧ (c = true → n < r.length) ∧ L' = [] ∧ I' = J) ?_ ?_
    · intro k' fin
      repeat (first | refine Run.region ?_ | refine Ops.lss rfl (by decide) rfl rfl ?_ | refine Ops.pure T rfl (by decide) rfl ?_ | refine Ops.lenS T rfl (by decide) rfl rfl ?_)
      cases c0 : decide ((n : Int) < (r.length : Int)) with
      | false =>
        repeat (first | refine Ops.nil ?_ | refine Ops.not rfl (by decide) ?_ | refine Ops.notU rfl (by decide) ?_ | refine Ops.pure T rfl (by decide) rfl ?_)
        refine Run.keep [0, 3, 4, 5, 58] [_, _, _, _, _] rfl ?_
        exact fin _ _ _ ⟨_, rfl, (fun h => by cases h), rfl, rfl⟩
      | true =>
      have c0' := of_decide_eq_true c0
      repeat (first | refine Ops.geq rfl (by decide) rfl rfl ?_ | refine Ops.pure T rfl (by decide) rfl ?_ | refine Ops.indexStr rfl (by decide) (T.undOk rfl) rfl rfl (by first | omega | (simp only [List.length_cons, List.length_nil] ; omega) | (simp; omega)) (by first | omega | (simp only [List.length_cons, List.length_nil] ; omega) | (simp; omega)) ?_)
      cases h1 : decide ((48 : Int) ≤ ((r.getD (n : Int).toNat 0).toNat : Int)) with
      | false =>
        repeat (first | refine Ops.not rfl (by decide) ?_ | refine Ops.geq rfl (by decide) rfl rfl ?_ | refine Ops.pure T rfl (by decide) rfl ?_ | refine Ops.indexStr rfl (by decide) (T.undOk rfl) rfl rfl (by first | omega | (simp only [List.length_cons, List.length_nil] ; omega) | (simp; omega)) (by first | omega | (simp only [List.length_cons, List.length_nil] ; omega) | (simp; omega)) ?_)
        cases h3 : decide ((97 : Int) ≤ ((r.getD (n : Int).toNat 0).toNat : Int)) with
        | false =>
          repeat (first | refine Ops.not rfl (by decide) ?_ | refine Ops.geq rfl (by decide) rfl rfl ?_ | refine Ops.pure T rfl (by decide) rfl ?_ | refine Ops.indexStr rfl (by decide) (T.undOk rfl) rfl rfl (by first | omega | (simp only [List.length_cons, List.length_nil] ; omega) | (simp; omega)) (by first | omega | (simp only [List.length_cons, List.length_nil] ; omega) | (simp; omega)) ?_)
          cases h5 : decide ((65 : Int) ≤ ((r.getD (n : Int).toNat 0).toNat : Int)) with
          | true =>
            repeat (first | refine Ops.nil ?_ | refine Ops.leq rfl (by decide) rfl rfl ?_ | refine Ops.pure T rfl (by decide) rfl ?_ | refine Ops.indexStr rfl (by decide) (T.undOk rfl) rfl rfl (by first | omega | (simp only [List.length_cons, List.length_nil] ; omega) | (simp; omega)) (by first | omega | (simp only [List.length_cons, List.length_nil] ; omega) | (simp; omega)) ?_)
            refine Run.keep [0, 3, 4, 5, 58] [_, _, _, _, _] rfl ?_
            exact fin _ _ _ ⟨_, rfl, (fun _ => by have := of_decide_eq_true c0; omega), rfl, rfl⟩
          | false =>
            repeat (first | refine Ops.nil ?_ | refine Ops.not rfl (by decide) ?_ | refine Ops.pure T rfl (by decide) rfl ?_)
            refine Run.keep [0, 3, 4, 5, 58] [_, _, _, _, _] rfl ?_
            exact fin _ _ _ ⟨_, rfl, (fun _ => by have := of_decide_eq_true c0; omega), rfl, rfl⟩
        | true =>
          repeat (first | refine Ops.leq rfl (by decide) rfl rfl ?_ | refine Ops.pure T rfl (by decide) rfl ?_ | refine Ops.indexStr rfl (by decide) (T.undOk rfl) rfl rfl (by first | omega | (simp only [List.length_cons, List.length_nil] ; omega) | (simp; omega)) (by first | omega | (simp only [List.length_cons, List.length_nil] ; omega) | (simp; omega)) ?_)
          cases h4 : decide (((r.getD (n : Int).toNat 0).toNat : Int) ≤ 102) with
          | true =>
            repeat (first | refine Ops.nil ?_ | refine Ops.not rfl (by decide) ?_ | refine Ops.notU rfl (by decide) ?_ | refine Ops.pure T rfl (by decide) rfl ?_)
            refine Run.keep [0, 3, 4, 5, 58] [_, _, _, _, _] rfl ?_
            exact fin _ _ _ ⟨_, rfl, (fun _ => by have := of_decide_eq_true c0; omega), rfl, rfl⟩
          | false =>
            repeat (first | refine Ops.geq rfl (by decide) rfl rfl ?_ | refine Ops.pure T rfl (by decide) rfl ?_ | refine Ops.indexStr rfl (by decide) (T.undOk rfl) rfl rfl (by first | omega | (simp only [List.length_cons, List.length_nil] ; omega) | (simp; omega)) (by first | omega | (simp only [List.length_cons, List.length_nil] ; omega) | (simp; omega)) ?_)
            cases h5 : decide ((65 : Int) ≤ ((r.getD (n : Int).toNat 0).toNat : Int)) with
            | true =>
              repeat (first | refine Ops.nil ?_ | refine Ops.leq rfl (by decide) rfl rfl ?_ | refine Ops.pure T rfl (by decide) rfl ?_ | refine Ops.indexStr rfl (by decide) (T.undOk rfl) rfl rfl (by first | omega | (simp only [List.length_cons, List.length_nil] ; omega) | (simp; omega)) (by first | omega | (simp only [List.length_cons, List.length_nil] ; omega) | (simp; omega)) ?_)
              refine Run.keep [0, 3, 4, 5, 58] [_, _, _, _, _] rfl ?_
              exact fin _ _ _ ⟨_, rfl, (fun _ => by have := of_decide_eq_true c0; omega), rfl, rfl⟩
            | false =>
              repeat (first | refine Ops.nil ?_ | refine Ops.not rfl (by decide) ?_ | refine Ops.pure T rfl (by decide) rfl ?_)
              refine Run.keep [0, 3, 4, 5, 58] [_, _, _, _, _] rfl ?_
              exact fin _ _ _ ⟨_, rfl, (fun _ => by have := of_decide_eq_true c0; omega), rfl, rfl⟩
      | true =>
        repeat (first | refine Ops.leq rfl (by decide) rfl rfl ?_ | refine Ops.pure T rfl (by decide) rfl ?_ | refine Ops.indexStr rfl (by decide) (T.undOk rfl) rfl rfl (by first | omega | (simp only [List.length_cons, List.length_nil] ; omega) | (simp; omega)) (by first | omega | (simp only [List.length_cons, List.length_nil] ; omega) | (simp; omega)) ?_)
        cases h2 : decide (((r.getD (n : Int).toNat 0).toNat : Int) ≤ 57) with
        | true =>
          repeat (first | refine Ops.nil ?_ | refine Ops.not rfl (by decide) ?_ | refine Ops.notU rfl (by decide) ?_ | refine Ops.pure T rfl (by decide) rfl ?_)
          refine Run.keep [0, 3, 4, 5, 58] [_, _, _, _, _] rfl ?_
          exact fin _ _ _ ⟨_, rfl, (fun _ => by omega), rfl, rfl⟩
        | false =>
          repeat (first | refine Ops.geq rfl (by decide) rfl rfl ?_ | refine Ops.pure T rfl (by decide) rfl ?_ | refine Ops.indexStr rfl (by decide) (T.undOk rfl) rfl rfl (by first | omega | (simp only [List.length_cons, List.length_nil] ; omega) | (simp; omega)) (by first | omega | (simp only [List.length_cons, List.length_nil] ; omega) | (simp; omega)) ?_)
          cases h3 : decide ((97 : Int) ≤ ((r.getD (n : Int).toNat 0).toNat : Int)) with
          | false =>
            repeat (first | refine Ops.not rfl (by decide) ?_ | refine Ops.geq rfl (by decide) rfl rfl ?_ | refine Ops.pure T rfl (by decide) rfl ?_ | refine Ops.indexStr rfl (by decide) (T.undOk rfl) rfl rfl (by first | omega | (simp only [List.length_cons, List.length_nil] ; omega) | (simp; omega)) (by first | omega | (simp only [List.length_cons, List.length_nil] ; omega) | (simp; omega)) ?_)
            cases h5 : decide ((65 : Int) ≤ ((r.getD (n : Int).toNat 0).toNat : Int)) with
            | true =>
              repeat (first | refine Ops.nil ?_ | refine Ops.leq rfl (by decide) rfl rfl ?_ | refine Ops.pure T rfl (by decide) rfl ?_ | refine Ops.indexStr rfl (by decide) (T.undOk rfl) rfl rfl (by first | omega | (simp only [List.length_cons, List.length_nil] ; omega) | (simp; omega)) (by first | omega | (simp only [List.length_cons, List.length_nil] ; omega) | (simp; omega)) ?_)
              refine Run.keep [0, 3, 4, 5, 58] [_, _, _, _, _] rfl ?_
              exact fin _ _ _ ⟨_, rfl, (fun _ => by have := of_decide_eq_true c0; omega), rfl, rfl⟩
            | false =>
              repeat (first | refine Ops.nil ?_ | refine Ops.not rfl (by decide) ?_ | refine Ops.pure T rfl (by decide) rfl ?_)
              refine Run.keep [0, 3, 4, 5, 58] [_, _, _, _, _] rfl ?_
              exact fin _ _ _ ⟨_, rfl, (fun _ => by have := of_decide_eq_true c0; omega), rfl, rfl⟩
          | true =>
            repeat (first | refine Ops.leq rfl (by decide) rfl rfl ?_ | refine Ops.pure T rfl (by decide) rfl ?_ | refine Ops.indexStr rfl (by decide) (T.undOk rfl) rfl rfl (by first | omega | (simp only [List.length_cons, List.length_nil] ; omega) | (simp; omega)) (by first | omega | (simp only [List.length_cons, List.length_nil] ; omega) | (simp; omega)) ?_)
            cases h4 : decide (((r.getD (n : Int).toNat 0).toNat : Int) ≤ 102) with
            | true =>
              repeat (first | refine Ops.nil ?_ | refine Ops.not rfl (by decide) ?_ | refine Ops.notU rfl (by decide) ?_ | refine Ops.pure T rfl (by decide) rfl ?_)
              refine Run.keep [0, 3, 4, 5, 58] [_, _, _, _, _] rfl ?_
              exact fin _ _ _ ⟨_, rfl, (fun _ => by have := of_decide_eq_true c0; omega), rfl, rfl⟩
            | false =>
              repeat (first | refine Ops.geq rfl (by decide) rfl rfl ?_ | refine Ops.pure T rfl (by decide) rfl ?_ | refine Ops.indexStr rfl (by decide) (T.undOk rfl) rfl rfl (by first | omega | (simp only [List.length_cons, List.length_nil] ; omega) | (simp; omega)) (by first | omega | (simp only [List.length_cons, List.length_nil] ; omega) | (simp; omega)) ?_)
              cases h5 : decide ((65 : Int) ≤ ((r.getD (n : Int).toNat 0).toNat : Int)) with
              | true =>
                repeat (first | refine Ops.nil ?_ | refine Ops.leq rfl (by decide) rfl rfl ?_ | refine Ops.pure T rfl (by decide) rfl ?_ | refine Ops.indexStr rfl (by decide) (T.undOk rfl) rfl rfl (by first | omega | (simp only [List.length_cons, List.length_nil] ; omega) | (simp; omega)) (by first | omega | (simp only [List.length_cons, List.length_nil] ; omega) | (simp; omega)) ?_)
                refine Run.keep [0, 3, 4, 5, 58] [_, _, _, _, _] rfl ?_
                exact fin _ _ _ ⟨_, rfl, (fun _ => by have := of_decide_eq_true c0; omega), rfl, rfl⟩
              | false =>
                repeat (first | refine Ops.nil ?_ | refine Ops.not rfl (by decide) ?_ | refine Ops.pure T rfl (by decide) rfl ?_)
                refine Run.keep [0, 3, 4, 5, 58] [_, _, _, _, _] rfl ?_
                exact fin _ _ _ ⟨_, rfl, (fun _ => by have := of_decide_eq_true c0; omega), rfl, rfl⟩
    rintro env L J ⟨c, rfl, hc, rfl, rfl⟩
    cases c with
    | true =>
      have hnr' := hc rfl
      repeat (first | refine Run.seq ?_ | refine Run.region ?_ | refine Ops.nil ?_ | refine Run.skip ?_ | refine Run.block ?_ | refine Run.cond_t rfl ?_ | refine Ops.add rfl (by decide) rfl rfl (wI (by first | omega | (simp only [List.length_cons, List.length_nil] ; omega) | (simp; omega)) (by first | omega | (simp only [List.length_cons, List.length_nil] ; omega) | (simp; omega))) ?_ | refine Ops.gtr rfl (by decide) rfl rfl ?_ | refine Ops.pure T rfl (by decide) rfl ?_)
      cases h4 : decide ((4 : Int) < (n : Int) + 1) with
      | true =>
        repeat (first | refine Run.seq ?_ | refine Run.region ?_ | refine Ops.nil ?_ | refine Run.cond_t rfl ?_ | refine Ops.pure T rfl (by decide) rfl ?_)
        refine Run.fin (Run.ret1 (by rw [hCf]; exact func116) results116 rfl (hR _ _ _ ?_))
        exact ⟨rfl, _, rfl⟩
      | false =>
        repeat (first | refine Run.skip ?_ | refine Run.inBlock ?_ | refine Run.cond_f rfl ?_)
        refine Run.keep [0, 3, 4, 5] [_, _, _, _] rfl ?_
        exact ih2 (5 - (n + 1)) _ _ _ (by omega) ⟨n + 1, rfl, by have := of_decide_eq_false h4; omega, by omega, rfl, rfl, rfl⟩
    | false =>
    repeat (first | refine Run.seq ?_ | refine Run.region ?_ | refine Ops.nil ?_ | refine Run.exit rfl ?_ | refine Run.cond_f rfl ?_ | refine Ops.eql rfl (by decide) rfl rfl ?_ | refine Ops.pure T rfl (by decide) rfl ?_)
    cases hn0 : decide ((n : Int) = 0) with
    | true =>
      repeat (first | refine Run.seq ?_ | refine Run.region ?_ | refine Ops.nil ?_ | refine Run.cond_t rfl ?_ | refine Ops.pure T rfl (by decide) rfl ?_)
      refine Run.fin (Run.ret1 (by rw [hCf]; exact func116) results116 rfl (hR _ _ _ ?_))
      exact ⟨rfl, _, rfl⟩
    | false =>
    repeat (first | refine Run.seq ?_ | refine Run.region ?_ | refine Run.skip ?_ | refine Run.cond_f rfl ?_ | refine Ops.lss rfl (by decide) rfl rfl ?_ | refine Ops.pure T rfl (by decide) rfl ?_ | refine Ops.lenS T rfl (by decide) rfl rfl ?_)
    cases hnl : decide ((n : Int) < (r.length : Int)) with
    | false =>
      repeat (first | refine Run.seq ?_ | refine Run.region ?_ | refine Ops.nil ?_ | refine Run.skip ?_ | refine Run.cond_f rfl ?_ | refine Ops.not rfl (by decide) ?_ | refine Ops.add rfl (by decide) rfl rfl (wI (by first | omega | (simp only [List.length_cons, List.length_nil] ; omega) | (simp; omega)) (by first | omega | (simp only [List.length_cons, List.length_nil] ; omega) | (simp; omega))) ?_ | refine Ops.eqlStr rfl (by decide) rfl rfl ?_ | refine Ops.pure T rfl (by decide) rfl ?_ | refine Ops.sliceStrLo rfl (by decide) (T.undOk rfl) rfl rfl (by first | omega | (simp only [List.length_cons, List.length_nil] ; omega) | (simp; omega)) (by first | omega | (simp only [List.length_cons, List.length_nil] ; omega) | (simp; omega)) ?_)
      have etn : ((n : Int)).toNat = n := by omega
      rw [etn]
      cases hz : decide (r.drop n = []) with
      | true =>
        repeat (first | refine Run.seq ?_ | refine Run.region ?_ | refine Run.exit rfl ?_ | refine Run.cond_t rfl ?_ | refine Ops.eqlStr rfl (by decide) rfl rfl ?_ | refine Ops.pure T rfl (by decide) rfl ?_)
        rw [hz]
        repeat (first | refine Ops.nil ?_ | refine Ops.eqlB T rfl (by decide) rfl rfl rfl ?_ | refine Ops.geq rfl (by decide) rfl rfl ?_ | refine Ops.lss rfl (by decide) rfl rfl ?_ | refine Ops.pure T rfl (by decide) rfl ?_)
        refine Run.fin (Run.ret1 (by rw [hCf]; exact func116) results116 rfl (hR _ _ _ ?_))
        exact ⟨rfl, _, rfl⟩
      | false =>
      have hz' : 0 < (r.drop n).length := List.length_pos_iff.2 (of_decide_eq_false hz)
      have hdl : (r.drop n).length ≤ 1099511627776 := by simp; omega
      generalize r.drop n = q at *
      repeat (first | refine Run.seq ?_ | refine Run.region ?_ | refine Run.skip ?_ | refine Run.cond_f rfl ?_ | refine Ops.neq rfl (by decide) rfl rfl ?_ | refine Ops.pure T rfl (by decide) rfl ?_ | refine Ops.indexStr rfl (by decide) (T.undOk rfl) rfl rfl (by first | omega | (simp only [List.length_cons, List.length_nil] ; omega) | (simp; omega)) (by first | omega | (simp only [List.length_cons, List.length_nil] ; omega) | (simp; omega)) ?_)
      cases hc1 : decide (((q.getD (0 : Int).toNat 0).toNat : Int) = 58) with
      | false =>
        repeat (first | refine Run.seq ?_ | refine Run.region ?_ | refine Ops.nil ?_ | refine Run.cond_t rfl ?_ | refine Ops.not rfl (by decide) ?_ | refine Ops.pure T rfl (by decide) rfl ?_)
        refine Run.fin (Run.ret1 (by rw [hCf]; exact func116) results116 rfl (hR _ _ _ ?_))
        exact ⟨rfl, _, rfl⟩
      | true =>
      repeat (first | refine Ops.nil ?_ | refine Ops.eql rfl (by decide) rfl rfl ?_ | refine Ops.pure T rfl (by decide) rfl ?_ | refine Ops.lenS T rfl (by decide) rfl rfl ?_)
      cases hc2 : decide ((q.length : Int) = 1) with
      | true =>
        repeat (first | refine Run.seq ?_ | refine Run.region ?_ | refine Ops.nil ?_ | refine Run.cond_t rfl ?_ | refine Ops.pure T rfl (by decide) rfl ?_)
        refine Run.fin (Run.ret1 (by rw [hCf]; exact func116) results116 rfl (hR _ _ _ ?_))
        exact ⟨rfl, _, rfl⟩
      | false =>
      have hc2' := of_decide_eq_false hc2
      repeat (first | refine Run.seq ?_ | refine Run.region ?_ | refine Ops.nil ?_ | refine Run.skip ?_ | refine Run.cond_f rfl ?_ | refine Ops.eql rfl (by decide) rfl rfl ?_ | refine Ops.pure T rfl (by decide) rfl ?_ | refine Ops.sliceStrLo rfl (by decide) (T.undOk rfl) rfl rfl (by first | omega | (simp only [List.length_cons, List.length_nil] ; omega) | (simp; omega)) (by first | omega | (simp only [List.length_cons, List.length_nil] ; omega) | (simp; omega)) ?_ | refine Ops.indexStr rfl (by decide) (T.undOk rfl) rfl rfl (by first | omega | (simp only [List.length_cons, List.length_nil] ; omega) | (simp; omega)) (by first | omega | (simp only [List.length_cons, List.length_nil] ; omega) | (simp; omega)) ?_)
      have e1 : (1 : Int).toNat = 1 := rfl
      rw [e1]
      have hql : (q.drop 1).length = q.length - 1 := by simp
      generalize q.drop 1 = p at *
      have hp0 : 0 < p.length := by omega
      have hpl : p.length ≤ 1099511627776 := by omega
      skip
      cases hc3 : decide (((p.getD (0 : Int).toNat 0).toNat : Int) = 58) with
      | false =>
        repeat (first | refine Run.skip ?_ | refine Run.inBlock ?_ | refine Run.cond_f rfl ?_)
        refine Run.keep [0, 3, 4] [_, _, _] rfl ?_
        exact ih (18 - (i + 2)) _ _ _ (by omega) ⟨p, g, i + 2, rfl, by omega, hpl, hg1, hg2, rfl, rfl⟩
      | true =>
      repeat (first | refine Run.seq ?_ | refine Run.region ?_ | refine Ops.nil ?_ | refine Run.cond_t rfl ?_ | refine Ops.geq rfl (by decide) rfl rfl ?_ | refine Ops.pure T rfl (by decide) rfl ?_)
      cases hc4 : decide ((0 : Int) ≤ g) with
      | true =>
        repeat (first | refine Run.seq ?_ | refine Run.region ?_ | refine Ops.nil ?_ | refine Run.cond_t rfl ?_ | refine Ops.pure T rfl (by decide) rfl ?_)
        refine Run.fin (Run.ret1 (by rw [hCf]; exact func116) results116 rfl (hR _ _ _ ?_))
        exact ⟨rfl, _, rfl⟩
      | false =>
      repeat (first | refine Run.seq ?_ | refine Run.region ?_ | refine Ops.nil ?_ | refine Run.skip ?_ | refine Run.cond_f rfl ?_ | refine Ops.eqlStr rfl (by decide) rfl rfl ?_ | refine Ops.pure T rfl (by decide) rfl ?_ | refine Ops.sliceStrLo rfl (by decide) (T.undOk rfl) rfl rfl (by first | omega | (simp only [List.length_cons, List.length_nil] ; omega) | (simp; omega)) (by first | omega | (simp only [List.length_cons, List.length_nil] ; omega) | (simp; omega)) ?_)
      rw [e1]
      have hpl2 : (p.drop 1).length ≤ 1099511627776 := by simp; omega
      cases hz2 : decide (p.drop 1 = []) with
      | true =>
        repeat (first | refine Run.seq ?_ | refine Run.region ?_ | refine Run.exit rfl ?_ | refine Run.cond_t rfl ?_ | refine Ops.eqlStr rfl (by decide) rfl rfl ?_ | refine Ops.pure T rfl (by decide) rfl ?_)
        rw [hz2]
        repeat (first | refine Ops.nil ?_ | refine Ops.eqlB T rfl (by decide) rfl rfl rfl ?_ | refine Ops.geq rfl (by decide) rfl rfl ?_ | refine Ops.lss rfl (by decide) rfl rfl ?_ | refine Ops.pure T rfl (by decide) rfl ?_)
        refine Run.fin (Run.ret1 (by rw [hCf]; exact func116) results116 rfl (hR _ _ _ ?_))
        exact ⟨rfl, _, rfl⟩
      | false =>
        repeat (first | refine Run.skip ?_ | refine Run.inBlock ?_ | refine Run.cond_f rfl ?_)
        refine Run.keep [0, 3, 4] [_, _, _] rfl ?_
        exact ih (18 - (i + 2)) _ _ _ (by omega) ⟨p.drop 1, (i : Int) + 2, i + 2, rfl, by omega, hpl2, by omega, by omega, rfl, rfl⟩
    | true =>
      have hnl' := of_decide_eq_true hnl
      repeat (first | refine Ops.nil ?_ | refine Ops.eql rfl (by decide) rfl rfl ?_ | refine Ops.pure T rfl (by decide) rfl ?_ | refine Ops.indexStr rfl (by decide) (T.undOk rfl) rfl rfl (by first | omega | (simp only [List.length_cons, List.length_nil] ; omega) | (simp; omega)) (by first | omega | (simp only [List.length_cons, List.length_nil] ; omega) | (simp; omega)) ?_)
      cases hdot : decide (((r.getD (n : Int).toNat 0).toNat : Int) = 46) with
      | false =>
        repeat (first | refine Run.seq ?_ | refine Run.region ?_ | refine Ops.nil ?_ | refine Run.skip ?_ | refine Run.cond_f rfl ?_ | refine Ops.add rfl (by decide) rfl rfl (wI (by first | omega | (simp only [List.length_cons, List.length_nil] ; omega) | (simp; omega)) (by first | omega | (simp only [List.length_cons, List.length_nil] ; omega) | (simp; omega))) ?_ | refine Ops.eqlStr rfl (by decide) rfl rfl ?_ | refine Ops.pure T rfl (by decide) rfl ?_ | refine Ops.sliceStrLo rfl (by decide) (T.undOk rfl) rfl rfl (by first | omega | (simp only [List.length_cons, List.length_nil] ; omega) | (simp; omega)) (by first | omega | (simp only [List.length_cons, List.length_nil] ; omega) | (simp; omega)) ?_)
        have etn : ((n : Int)).toNat = n := by omega
        rw [etn]
        cases hz : decide (r.drop n = []) with
        | true =>
          repeat (first | refine Run.seq ?_ | refine Run.region ?_ | refine Run.exit rfl ?_ | refine Run.cond_t rfl ?_ | refine Ops.eqlStr rfl (by decide) rfl rfl ?_ | refine Ops.pure T rfl (by decide) rfl ?_)
          rw [hz]
          repeat (first | refine Ops.nil ?_ | refine Ops.eqlB T rfl (by decide) rfl rfl rfl ?_ | refine Ops.geq rfl (by decide) rfl rfl ?_ | refine Ops.lss rfl (by decide) rfl rfl ?_ | refine Ops.pure T rfl (by decide) rfl ?_)
          refine Run.fin (Run.ret1 (by rw [hCf]; exact func116) results116 rfl (hR _ _ _ ?_))
          exact ⟨rfl, _, rfl⟩
        | false =>
        have hz' : 0 < (r.drop n).length := List.length_pos_iff.2 (of_decide_eq_false hz)
        have hdl : (r.drop n).length ≤ 1099511627776 := by simp; omega
        generalize r.drop n = q at *
        repeat (first | refine Run.seq ?_ | refine Run.region ?_ | refine Run.skip ?_ | refine Run.cond_f rfl ?_ | refine Ops.neq rfl (by decide) rfl rfl ?_ | refine Ops.pure T rfl (by decide) rfl ?_ | refine Ops.indexStr rfl (by decide) (T.undOk rfl) rfl rfl (by first | omega | (simp only [List.length_cons, List.length_nil] ; omega) | (simp; omega)) (by first | omega | (simp only [List.length_cons, List.length_nil] ; omega) | (simp; omega)) ?_)
        cases hc1 : decide (((q.getD (0 : Int).toNat 0).toNat : Int) = 58) with
        | false =>
          repeat (first | refine Run.seq ?_ | refine Run.region ?_ | refine Ops.nil ?_ | refine Run.cond_t rfl ?_ | refine Ops.not rfl (by decide) ?_ | refine Ops.pure T rfl (by decide) rfl ?_)
          refine Run.fin (Run.ret1 (by rw [hCf]; exact func116) results116 rfl (hR _ _ _ ?_))
          exact ⟨rfl, _, rfl⟩
        | true =>
        repeat (first | refine Ops.nil ?_ | refine Ops.eql rfl (by decide) rfl rfl ?_ | refine Ops.pure T rfl (by decide) rfl ?_ | refine Ops.lenS T rfl (by decide) rfl rfl ?_)
        cases hc2 : decide ((q.length : Int) = 1) with
        | true =>
          repeat (first | refine Run.seq ?_ | refine Run.region ?_ | refine Ops.nil ?_ | refine Run.cond_t rfl ?_ | refine Ops.pure T rfl (by decide) rfl ?_)
          refine Run.fin (Run.ret1 (by rw [hCf]; exact func116) results116 rfl (hR _ _ _ ?_))
          exact ⟨rfl, _, rfl⟩
        | false =>
        have hc2' := of_decide_eq_false hc2
        repeat (first | refine Run.seq ?_ | refine Run.region ?_ | refine Ops.nil ?_ | refine Run.skip ?_ | refine Run.cond_f rfl ?_ | refine Ops.eql rfl (by decide) rfl rfl ?_ | refine Ops.pure T rfl (by decide) rfl ?_ | refine Ops.sliceStrLo rfl (by decide) (T.undOk rfl) rfl rfl (by first | omega | (simp only [List.length_cons, List.length_nil] ; omega) | (simp; omega)) (by first | omega | (simp only [List.length_cons, List.length_nil] ; omega) | (simp; omega)) ?_ | refine Ops.indexStr rfl (by decide) (T.undOk rfl) rfl rfl (by first | omega | (simp only [List.length_cons, List.length_nil] ; omega) | (simp; omega)) (by first | omega | (simp only [List.length_cons, List.length_nil] ; omega) | (simp; omega)) ?_)
        have e1 : (1 : Int).toNat = 1 := rfl
        rw [e1]
        have hql : (q.drop 1).length = q.length - 1 := by simp
        generalize q.drop 1 = p at *
        have hp0 : 0 < p.length := by omega
        have hpl : p.length ≤ 1099511627776 := by omega
        skip
        cases hc3 : decide (((p.getD (0 : Int).toNat 0).toNat : Int) = 58) with
        | false =>
          repeat (first | refine Run.skip ?_ | refine Run.inBlock ?_ | refine Run.cond_f rfl ?_)
          refine Run.keep [0, 3, 4] [_, _, _] rfl ?_
          exact ih (18 - (i + 2)) _ _ _ (by omega) ⟨p, g, i + 2, rfl, by omega, hpl, hg1, hg2, rfl, rfl⟩
        | true =>
        repeat (first | refine Run.seq ?_ | refine Run.region ?_ | refine Ops.nil ?_ | refine Run.cond_t rfl ?_ | refine Ops.geq rfl (by decide) rfl rfl ?_ | refine Ops.pure T rfl (by decide) rfl ?_)
        cases hc4 : decide ((0 : Int) ≤ g) with
        | true =>
          repeat (first | refine Run.seq ?_ | refine Run.region ?_ | refine Ops.nil ?_ | refine Run.cond_t rfl ?_ | refine Ops.pure T rfl (by decide) rfl ?_)
          refine Run.fin (Run.ret1 (by rw [hCf]; exact func116) results116 rfl (hR _ _ _ ?_))
          exact ⟨rfl, _, rfl⟩
        | false =>
        repeat (first | refine Run.seq ?_ | refine Run.region ?_ | refine Ops.nil ?_ | refine Run.skip ?_ | refine Run.cond_f rfl ?_ | refine Ops.eqlStr rfl (by decide) rfl rfl ?_ | refine Ops.pure T rfl (by decide) rfl ?_ | refine Ops.sliceStrLo rfl (by decide) (T.undOk rfl) rfl rfl (by first | omega | (simp only [List.length_cons, List.length_nil] ; omega) | (simp; omega)) (by first | omega | (simp only [List.length_cons, List.length_nil] ; omega) | (simp; omega)) ?_)
        rw [e1]
        have hpl2 : (p.drop 1).length ≤ 1099511627776 := by simp; omega
        cases hz2 : decide (p.drop 1 = []) with
        | true =>
          repeat (first | refine Run.seq ?_ | refine Run.region ?_ | refine Run.exit rfl ?_ | refine Run.cond_t rfl ?_ | refine Ops.eqlStr rfl (by decide) rfl rfl ?_ | refine Ops.pure T rfl (by decide) rfl ?_)
          rw [hz2]
          repeat (first | refine Ops.nil ?_ | refine Ops.eqlB T rfl (by decide) rfl rfl rfl ?_ | refine Ops.geq rfl (by decide) rfl rfl ?_ | refine Ops.lss rfl (by decide) rfl rfl ?_ | refine Ops.pure T rfl (by decide) rfl ?_)
          refine Run.fin (Run.ret1 (by rw [hCf]; exact func116) results116 rfl (hR _ _ _ ?_))
          exact ⟨rfl, _, rfl⟩
        | false =>
          repeat (first | refine Run.skip ?_ | refine Run.inBlock ?_ | refine Run.cond_f rfl ?_)
          refine Run.keep [0, 3, 4] [_, _, _] rfl ?_
          exact ih (18 - (i + 2)) _ _ _ (by omega) ⟨p.drop 1, (i : Int) + 2, i + 2, rfl, by omega, hpl2, by omega, by omega, rfl, rfl⟩
      | true =>
        repeat (first | refine Run.seq ?_ | refine Run.region ?_ | refine Run.cond_t rfl ?_ | refine Ops.lss rfl (by decide) rfl rfl ?_ | refine Ops.pure T rfl (by decide) rfl ?_)
        cases hg0 : decide (g < 0) with
        | true =>
          repeat (first | refine Ops.neq rfl (by decide) rfl rfl ?_ | refine Ops.pure T rfl (by decide) rfl ?_)
          cases hi12 : decide ((i : Int) = 12) with
          | false =>
            repeat (first | refine Run.seq ?_ | refine Run.region ?_ | refine Ops.nil ?_ | refine Run.cond_t rfl ?_ | refine Ops.not rfl (by decide) ?_ | refine Ops.pure T rfl (by decide) rfl ?_)
            refine Run.fin (Run.ret1 (by rw [hCf]; exact func116) results116 rfl (hR _ _ _ ?_))
            exact ⟨rfl, _, rfl⟩
          | true =>
            repeat (first | refine Ops.nil ?_ | refine Ops.add rfl (by decide) rfl rfl (wI (by first | omega | (simp only [List.length_cons, List.length_nil] ; omega) | (simp; omega)) (by first | omega | (simp only [List.length_cons, List.length_nil] ; omega) | (simp; omega))) ?_ | refine Ops.gtr rfl (by decide) rfl rfl ?_ | refine Ops.pure T rfl (by decide) rfl ?_)
            cases h164 : decide ((16 : Int) < (i : Int) + 4) with
            | true =>
              repeat (first | refine Run.seq ?_ | refine Run.region ?_ | refine Ops.nil ?_ | refine Run.cond_t rfl ?_ | refine Ops.pure T rfl (by decide) rfl ?_)
              refine Run.fin (Run.ret1 (by rw [hCf]; exact func116) results116 rfl (hR _ _ _ ?_))
              exact ⟨rfl, _, rfl⟩
            | false =>
            repeat (first | refine Run.seq ?_ | refine Run.region ?_ | refine Run.skip ?_ | refine Run.cond_f rfl ?_ | refine Ops.pure T rfl (by decide) rfl ?_)
            refine Ops.call ((name_zzIPv4 J r hr)) rfl (by decide) call127 rfl ?_
            rintro _ J4 l4 ⟨l, hlen, rfl, hl⟩
            obtain ⟨a0, a1, a2, a3, rfl⟩ : ∃ a0 a1 a2 a3, l = [a0, a1, a2, a3] := by
              match l, hlen with
              | [a0, a1, a2, a3], _ => exact ⟨a0, a1, a2, a3, rfl⟩
            repeat (first | refine Ops.pure T rfl (by decide) rfl ?_)
            refine Ops.alloc rfl (by decide) (T.zeroOk rfl) rfl (fun b2 => ?_)
            repeat (first | refine Run.seq ?_ | refine Run.region ?_ | refine Ops.nil ?_ | refine Ops.pure T rfl (by decide) rfl ?_ | refine Ops.store 0 rfl rfl rfl rfl rfl (T.sizeOk rfl) rfl (Nat.le_of_ble_eq_true rfl) rfl rfl ?_)
            cases (ip4 r).isSome with
            | false =>
              repeat (first | refine Run.seq ?_ | refine Run.region ?_ | refine Ops.nil ?_ | refine Run.cond_t rfl ?_ | refine Ops.pure T rfl (by decide) rfl ?_)
              refine Run.fin (Run.ret1 (by rw [hCf]; exact func116) results116 rfl (hR _ _ _ ?_))
              exact ⟨rfl, _, rfl⟩
            | true =>
              repeat (first | refine Run.seq ?_ | refine Run.region ?_ | refine Ops.nil ?_ | refine Run.skip ?_ | refine Run.exit rfl ?_ | refine Run.cond_f rfl ?_ | refine Ops.add rfl (by decide) rfl rfl (wI (by first | omega | (simp only [List.length_cons, List.length_nil] ; omega) | (simp; omega)) (by first | omega | (simp only [List.length_cons, List.length_nil] ; omega) | (simp; omega))) ?_ | refine Ops.eqlB T rfl (by decide) rfl rfl rfl ?_ | refine Ops.eqlStr rfl (by decide) rfl rfl ?_ | refine Ops.geq rfl (by decide) rfl rfl ?_ | refine Ops.lss rfl (by decide) rfl rfl ?_ | refine Ops.pure T rfl (by decide) rfl ?_)
              refine Run.fin (Run.ret1 (by rw [hCf]; exact func116) results116 rfl (hR _ _ _ ?_))
              exact ⟨rfl, _, rfl⟩
        | false =>
          repeat (first | refine Ops.nil ?_ | refine Ops.not rfl (by decide) ?_ | refine Ops.add rfl (by decide) rfl rfl (wI (by first | omega | (simp only [List.length_cons, List.length_nil] ; omega) | (simp; omega)) (by first | omega | (simp only [List.length_cons, List.length_nil] ; omega) | (simp; omega))) ?_ | refine Ops.gtr rfl (by decide) rfl rfl ?_ | refine Ops.pure T rfl (by decide) rfl ?_)
          cases h164 : decide ((16 : Int) < (i : Int) + 4) with
          | true =>
            repeat (first | refine Run.seq ?_ | refine Run.region ?_ | refine Ops.nil ?_ | refine Run.cond_t rfl ?_ | refine Ops.pure T rfl (by decide) rfl ?_)
            refine Run.fin (Run.ret1 (by rw [hCf]; exact func116) results116 rfl (hR _ _ _ ?_))
            exact ⟨rfl, _, rfl⟩
          | false =>
          repeat (first | refine Run.seq ?_ | refine Run.region ?_ | refine Run.skip ?_ | refine Run.cond_f rfl ?_ | refine Ops.pure T rfl (by decide) rfl ?_)
          refine Ops.call ((name_zzIPv4 J r hr)) rfl (by decide) call127 rfl ?_
          rintro _ J4 l4 ⟨l, hlen, rfl, hl⟩
          obtain ⟨a0, a1, a2, a3, rfl⟩ : ∃ a0 a1 a2 a3, l = [a0, a1, a2, a3] := by
            match l, hlen with
            | [a0, a1, a2, a3], _ => exact ⟨a0, a1, a2, a3, rfl⟩
          repeat (first | refine Ops.pure T rfl (by decide) rfl ?_)
          refine Ops.alloc rfl (by decide) (T.zeroOk rfl) rfl (fun b2 => ?_)
          repeat (first | refine Run.seq ?_ | refine Run.region ?_ | refine Ops.nil ?_ | refine Ops.pure T rfl (by decide) rfl ?_ | refine Ops.store 0 rfl rfl rfl rfl rfl (T.sizeOk rfl) rfl (Nat.le_of_ble_eq_true rfl) rfl rfl ?_)
          cases (ip4 r).isSome with
          | false =>
            repeat (first | refine Run.seq ?_ | refine Run.region ?_ | refine Ops.nil ?_ | refine Run.cond_t rfl ?_ | refine Ops.pure T rfl (by decide) rfl ?_)
            refine Run.fin (Run.ret1 (by rw [hCf]; exact func116) results116 rfl (hR _ _ _ ?_))
            exact ⟨rfl, _, rfl⟩
          | true =>
            repeat (first | refine Run.seq ?_ | refine Run.region ?_ | refine Ops.nil ?_ | refine Run.skip ?_ | refine Run.exit rfl ?_ | refine Run.cond_f rfl ?_ | refine Ops.add rfl (by decide) rfl rfl (wI (by first | omega | (simp only [List.length_cons, List.length_nil] ; omega) | (simp; omega)) (by first | omega | (simp only [List.length_cons, List.length_nil] ; omega) | (simp; omega))) ?_ | refine Ops.eqlB T rfl (by decide) rfl rfl rfl ?_ | refine Ops.eqlStr rfl (by decide) rfl rfl ?_ | refine Ops.geq rfl (by decide) rfl rfl ?_ | refine Ops.lss rfl (by decide) rfl rfl ?_ | refine Ops.pure T rfl (by decide) rfl ?_)
            refine Run.fin (Run.ret1 (by rw [hCf]; exact func116) results116 rfl (hR _ _ _ ?_))
            exact ⟨rfl, _, rfl⟩
  · skip
    repeat (first | refine Run.seq ?_ | refine Run.region ?_ | refine Run.exit rfl ?_ | refine Ops.eqlStr rfl (by decide) rfl rfl ?_ | refine Ops.pure T rfl (by decide) rfl ?_)
    cases hz : decide (r = []) with
    | false =>
      repeat (first | refine Ops.nil ?_ | refine Ops.not rfl (by decide) ?_ | refine Ops.pure T rfl (by decide) rfl ?_)
      refine Run.fin (Run.ret1 (by rw [hCf]; exact func116) results116 rfl (hR _ _ _ ?_))
      exact ⟨rfl, _, rfl⟩
    | true =>
      repeat (first | refine Ops.nil ?_ | refine Ops.eqlB T rfl (by decide) rfl rfl rfl ?_ | refine Ops.geq rfl (by decide) rfl rfl ?_ | refine Ops.lss rfl (by decide) rfl rfl ?_ | refine Ops.pure T rfl (by decide) rfl ?_)
      refine Run.fin (Run.ret1 (by rw [hCf]; exact func116) results116 rfl (hR _ _ _ ?_))
      exact ⟨rfl, _, rfl⟩
end Go.V
