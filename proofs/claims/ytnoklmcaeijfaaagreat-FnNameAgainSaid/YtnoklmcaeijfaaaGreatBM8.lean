import Derived.Test.YtnoklmcaeijfaaaGreatBM7
/-
  Digests made of names; references.
-/
namespace Go.V
open Go.RowKit
set_option linter.unusedVariables false
set_option linter.unusedSimpArgs false
set_option maxRecDepth 10000
attribute [local irreducible] Run Ops
theorem allR_eq {s cs : Tx} (hc : ascii cs) : allR s cs = allIn cs s := by
  have := runes_all (s := s) hc s.length 0 (by omega)
  rw [List.drop_zero] at this
  exact this
theorem digGood_of {s : Tx} {k : Nat} (hk : ix 58 s = some k) (h1 : s.take k = [115, 104, 97, 50, 53, 54]) (h2 : s.length = k + 65) (h3 : allIn hexT (s.drop (k + 1)) = true) : digGood s = true := by
  have hlt := ix_lt hk
  have hk6 : k = 6 := by
    have : (s.take k).length = 6 := by rw [h1]; rfl
    simp at this; omega
  subst hk6
  obtain ⟨e, _⟩ := ix_split hk
  have h6 : s[6]? = some 58 := by
    conv => lhs; rw [e]
    rw [List.getElem?_append_right (by simp; omega)]
    simp [Nat.min_eq_left (show 6 ≤ s.length by omega)]
  have h7 : s.take 7 = [115, 104, 97, 50, 53, 54, 58] := by
    rw [show 7 = 6 + 1 from rfl, List.take_add_one, h6, h1]; rfl
  simp [digGood, h2, h7, sWithin, h3]
theorem dl {s : Tx} {k : Nat} (hk : ix 58 s = some k) (hg : digGood s = true) : k = 6 ∧ s.take k = [115, 104, 97, 50, 53, 54] ∧ s.length = 71 ∧ allIn hexT (s.drop (k + 1)) = true := by
  obtain ⟨g1, g2, g3, g4⟩ := digGood_ix hg
  rw [hk] at g1
  cases g1
  exact ⟨rfl, g2, g3, g4⟩
theorem dn {s : Tx} (hk : ix 58 s = none) (hg : digGood s = true) : False := by
  obtain ⟨g1, _⟩ := digGood_ix hg
  rw [hk] at g1; cases g1
set_option maxHeartbeats 4000000 in
theorem name_zzDigest (I : Imm) (s : Tx) (hs : s.length ≤ 1099511627776) : Pure Proofs.Tryz.prog 78 [str s] I fun w J => ∃ r : Bool, (if r then w = .nilIface else ∃ t v, w = .iface t v) ∧ (digGood s = true → r = true) ∧ (r = true → digGood s = true ∨ otherDig s = true) := by
  refine Spec.enter 42 [(0, _)] Proofs.Tryz.func78 rfl Proofs.Tryz.ntmps78 (by simp) rfl ?_
  intro C hCf hR hCI
  repeat (first | refine Run.seq ?_ | refine Run.region ?_ | refine Ops.nil ?_ | refine Ops.pure T rfl (by decide) rfl ?_)
  refine Ops.call ((name_zzIndex s 58 I (by omega))) rfl (by decide) Proofs.Tryz.call97 rfl ?_
  rintro _ J1 l1 rfl
  cases hk : ix 58 s with
  | none =>
    rw [ixI_none hk]
    repeat (first | refine Run.seq ?_ | refine Run.region ?_ | refine Ops.nil ?_ | refine Run.cond_t rfl ?_ | refine Ops.not rfl (by decide) ?_ | refine Ops.leq rfl (by decide) rfl rfl ?_ | refine Ops.pure T rfl (by decide) rfl ?_)
    refine Run.fin (Run.ret1 (by rw [hCf]; exact Proofs.Tryz.func78) Proofs.Tryz.results78 rfl (hR _ _ _ ?_))
    exact ⟨rfl, false, ⟨_, _, rfl⟩, (fun hg => ((dn hk hg) : False).elim), (fun h => by cases h)⟩
  | some k =>
  rw [ixI_eq hk]
  have hlt := ix_lt hk
  repeat (first | refine Run.seq ?_ | refine Run.region ?_ | refine Ops.nil ?_ | refine Ops.leq rfl (by decide) rfl rfl ?_ | refine Ops.pure T rfl (by decide) rfl ?_)
  cases h0 : decide ((k : Int) ≤ 0) with
  | true =>
    repeat (first | refine Run.seq ?_ | refine Run.region ?_ | refine Ops.nil ?_ | refine Run.cond_t rfl ?_ | refine Ops.not rfl (by decide) ?_ | refine Ops.pure T rfl (by decide) rfl ?_)
    refine Run.fin (Run.ret1 (by rw [hCf]; exact Proofs.Tryz.func78) Proofs.Tryz.results78 rfl (hR _ _ _ ?_))
    exact ⟨rfl, false, ⟨_, _, rfl⟩, (fun hg => ((by have := (dl hk hg).1; have := of_decide_eq_true h0; omega) : False).elim), (fun h => by cases h)⟩
  | false =>
  repeat (first | refine Ops.nil ?_ | refine Ops.add rfl (by decide) rfl rfl (wI (by first | omega | (simp only [List.length_cons, List.length_nil] ; omega) | (simp; omega)) (by first | omega | (simp only [List.length_cons, List.length_nil] ; omega) | (simp; omega))) ?_ | refine Ops.eql rfl (by decide) rfl rfl ?_ | refine Ops.pure T rfl (by decide) rfl ?_ | refine Ops.lenS T rfl (by decide) rfl rfl ?_)
  cases h1 : decide ((k : Int) + 1 = (s.length : Int)) with
  | true =>
    repeat (first | refine Run.seq ?_ | refine Run.region ?_ | refine Ops.nil ?_ | refine Run.cond_t rfl ?_ | refine Ops.pure T rfl (by decide) rfl ?_)
    refine Run.fin (Run.ret1 (by rw [hCf]; exact Proofs.Tryz.func78) Proofs.Tryz.results78 rfl (hR _ _ _ ?_))
    exact ⟨rfl, false, ⟨_, _, rfl⟩, (fun hg => ((by have := (dl hk hg).1; have := (dl hk hg).2.2.1; have := of_decide_eq_true h1; omega) : False).elim), (fun h => by cases h)⟩
  | false =>
  have h1' := of_decide_eq_false h1
  repeat (first | refine Run.seq ?_ | refine Run.region ?_ | refine Ops.nil ?_ | refine Run.skip ?_ | refine Run.block ?_ | refine Run.cond_f rfl ?_ | refine Ops.eqlStr rfl (by decide) rfl rfl ?_ | refine Ops.pure T rfl (by decide) rfl ?_ | refine Ops.sliceStrHi rfl (by decide) (T.undOk rfl) rfl rfl (by first | omega | (simp only [List.length_cons, List.length_nil] ; omega) | (simp; omega)) (by first | omega | (simp only [List.length_cons, List.length_nil] ; omega) | (simp; omega)) ?_)
  have ek : ((k : Int)).toNat = k := by omega
  rw [ek]
  cases a1 : decide (s.take k = [115, 104, 97, 50, 53, 54]) with
  | true =>
    have a1' := of_decide_eq_true a1
    repeat (first | refine Run.seq ?_ | refine Run.region ?_ | refine Ops.nil ?_ | refine Run.inBlock ?_ | refine Run.cond_t rfl ?_ | refine Ops.neq rfl (by decide) rfl rfl ?_ | refine Ops.sub rfl (by decide) rfl rfl (wI (by first | omega | (simp only [List.length_cons, List.length_nil] ; omega) | (simp; omega)) (by first | omega | (simp only [List.length_cons, List.length_nil] ; omega) | (simp; omega))) ?_ | refine Ops.pure T rfl (by decide) rfl ?_ | refine Ops.lenS T rfl (by decide) rfl rfl ?_)
    cases hn : decide ((s.length : Int) - (k : Int) - 1 = 64) with
    | false =>
      repeat (first | refine Run.seq ?_ | refine Run.region ?_ | refine Ops.nil ?_ | refine Run.cond_t rfl ?_ | refine Ops.pure T rfl (by decide) rfl ?_)
      refine Run.fin (Run.ret1 (by rw [hCf]; exact Proofs.Tryz.func78) Proofs.Tryz.results78 rfl (hR _ _ _ ?_))
      exact ⟨rfl, false, ⟨_, _, rfl⟩, (fun hg => ((((fun hg hne => by have := (dl hk hg).1; have := (dl hk hg).2.2.1; omega) : digGood s = true → ¬ ((s.length : Int) - (k : Int) - 1 = 64) → False) hg (of_decide_eq_false hn)) : False).elim), (fun h => by cases h)⟩
    | true =>
    have hn' := of_decide_eq_true hn
    repeat (first | refine Run.seq ?_ | refine Run.region ?_ | refine Run.skip ?_ | refine Run.cond_f rfl ?_ | refine Ops.add rfl (by decide) rfl rfl (wI (by first | omega | (simp only [List.length_cons, List.length_nil] ; omega) | (simp; omega)) (by first | omega | (simp only [List.length_cons, List.length_nil] ; omega) | (simp; omega))) ?_ | refine Ops.pure T rfl (by decide) rfl ?_ | refine Ops.sliceStrLo rfl (by decide) (T.undOk rfl) rfl rfl (by first | omega | (simp only [List.length_cons, List.length_nil] ; omega) | (simp; omega)) (by first | omega | (simp only [List.length_cons, List.length_nil] ; omega) | (simp; omega)) ?_)
    have ek1 : ((k : Int) + 1).toNat = k + 1 := by omega
    rw [ek1]
    refine Ops.call ((name_zzOnly J1 (s.drop (k + 1)) hexT (by simp; omega) (by decide))) rfl (by decide) Proofs.Tryz.call104 rfl ?_
    rintro _ J2 l2 rfl
    rw [allR_eq ascii_hex]
    cases hx : allIn hexT (s.drop (k + 1)) with
    | false =>
      repeat (first | refine Run.seq ?_ | refine Run.region ?_ | refine Ops.nil ?_ | refine Run.cond_t rfl ?_ | refine Ops.pure T rfl (by decide) rfl ?_)
      refine Run.fin (Run.ret1 (by rw [hCf]; exact Proofs.Tryz.func78) Proofs.Tryz.results78 rfl (hR _ _ _ ?_))
      exact ⟨rfl, false, ⟨_, _, rfl⟩, (fun hg => ((by rw [(dl hk hg).2.2.2] at hx; cases hx) : False).elim), (fun h => by cases h)⟩
    | true =>
      repeat (first | refine Run.seq ?_ | refine Run.region ?_ | refine Ops.nil ?_ | refine Run.skip ?_ | refine Run.cond_f rfl ?_ | refine Ops.pure T rfl (by decide) rfl ?_)
      refine Run.fin (Run.ret1 (by rw [hCf]; exact Proofs.Tryz.func78) Proofs.Tryz.results78 rfl (hR _ _ _ ?_))
      exact ⟨rfl, true, rfl, fun _ => rfl, fun _ => .inl (digGood_of hk a1' (by omega) hx)⟩
  | false =>
  have a1' := of_decide_eq_false a1
  repeat (first | refine Run.seq ?_ | refine Run.region ?_ | refine Ops.nil ?_ | refine Run.cond_f rfl ?_ | refine Ops.eqlStr rfl (by decide) rfl rfl ?_ | refine Ops.pure T rfl (by decide) rfl ?_)
  cases a2 : decide (s.take k = [115, 104, 97, 51, 56, 52]) with
  | true =>
    have a2' := of_decide_eq_true a2
    repeat (first | refine Run.seq ?_ | refine Run.region ?_ | refine Ops.nil ?_ | refine Run.inBlock ?_ | refine Run.cond_t rfl ?_ | refine Ops.neq rfl (by decide) rfl rfl ?_ | refine Ops.sub rfl (by decide) rfl rfl (wI (by first | omega | (simp only [List.length_cons, List.length_nil] ; omega) | (simp; omega)) (by first | omega | (simp only [List.length_cons, List.length_nil] ; omega) | (simp; omega))) ?_ | refine Ops.pure T rfl (by decide) rfl ?_ | refine Ops.lenS T rfl (by decide) rfl rfl ?_)
    cases hn : decide ((s.length : Int) - (k : Int) - 1 = 96) with
    | false =>
      repeat (first | refine Run.seq ?_ | refine Run.region ?_ | refine Ops.nil ?_ | refine Run.cond_t rfl ?_ | refine Ops.pure T rfl (by decide) rfl ?_)
      refine Run.fin (Run.ret1 (by rw [hCf]; exact Proofs.Tryz.func78) Proofs.Tryz.results78 rfl (hR _ _ _ ?_))
      exact ⟨rfl, false, ⟨_, _, rfl⟩, (fun hg => ((((fun hg hne => a1' (dl hk hg).2.1) : digGood s = true → ¬ ((s.length : Int) - (k : Int) - 1 = 96) → False) hg (of_decide_eq_false hn)) : False).elim), (fun h => by cases h)⟩
    | true =>
    have hn' := of_decide_eq_true hn
    repeat (first | refine Run.seq ?_ | refine Run.region ?_ | refine Run.skip ?_ | refine Run.cond_f rfl ?_ | refine Ops.add rfl (by decide) rfl rfl (wI (by first | omega | (simp only [List.length_cons, List.length_nil] ; omega) | (simp; omega)) (by first | omega | (simp only [List.length_cons, List.length_nil] ; omega) | (simp; omega))) ?_ | refine Ops.pure T rfl (by decide) rfl ?_ | refine Ops.sliceStrLo rfl (by decide) (T.undOk rfl) rfl rfl (by first | omega | (simp only [List.length_cons, List.length_nil] ; omega) | (simp; omega)) (by first | omega | (simp only [List.length_cons, List.length_nil] ; omega) | (simp; omega)) ?_)
    have ek1 : ((k : Int) + 1).toNat = k + 1 := by omega
    rw [ek1]
    refine Ops.call ((name_zzOnly J1 (s.drop (k + 1)) hexT (by simp; omega) (by decide))) rfl (by decide) Proofs.Tryz.call104 rfl ?_
    rintro _ J2 l2 rfl
    rw [allR_eq ascii_hex]
    cases hx : allIn hexT (s.drop (k + 1)) with
    | false =>
      repeat (first | refine Run.seq ?_ | refine Run.region ?_ | refine Ops.nil ?_ | refine Run.cond_t rfl ?_ | refine Ops.pure T rfl (by decide) rfl ?_)
      refine Run.fin (Run.ret1 (by rw [hCf]; exact Proofs.Tryz.func78) Proofs.Tryz.results78 rfl (hR _ _ _ ?_))
      exact ⟨rfl, false, ⟨_, _, rfl⟩, (fun hg => ((by rw [(dl hk hg).2.2.2] at hx; cases hx) : False).elim), (fun h => by cases h)⟩
    | true =>
      repeat (first | refine Run.seq ?_ | refine Run.region ?_ | refine Ops.nil ?_ | refine Run.skip ?_ | refine Run.cond_f rfl ?_ | refine Ops.pure T rfl (by decide) rfl ?_)
      refine Run.fin (Run.ret1 (by rw [hCf]; exact Proofs.Tryz.func78) Proofs.Tryz.results78 rfl (hR _ _ _ ?_))
      exact ⟨rfl, true, rfl, fun _ => rfl, fun _ => .inr (otherDig_of hk (.inl a2') (by omega))⟩
  | false =>
  repeat (first | refine Run.seq ?_ | refine Run.region ?_ | refine Ops.nil ?_ | refine Run.cond_f rfl ?_ | refine Ops.eqlStr rfl (by decide) rfl rfl ?_ | refine Ops.pure T rfl (by decide) rfl ?_)
  cases a3 : decide (s.take k = [115, 104, 97, 53, 49, 50]) with
  | true =>
    have a3' := of_decide_eq_true a3
    repeat (first | refine Run.seq ?_ | refine Run.region ?_ | refine Ops.nil ?_ | refine Run.inBlock ?_ | refine Run.cond_t rfl ?_ | refine Ops.neq rfl (by decide) rfl rfl ?_ | refine Ops.sub rfl (by decide) rfl rfl (wI (by first | omega | (simp only [List.length_cons, List.length_nil] ; omega) | (simp; omega)) (by first | omega | (simp only [List.length_cons, List.length_nil] ; omega) | (simp; omega))) ?_ | refine Ops.pure T rfl (by decide) rfl ?_ | refine Ops.lenS T rfl (by decide) rfl rfl ?_)
    cases hn : decide ((s.length : Int) - (k : Int) - 1 = 128) with
    | false =>
      repeat (first | refine Run.seq ?_ | refine Run.region ?_ | refine Ops.nil ?_ | refine Run.cond_t rfl ?_ | refine Ops.pure T rfl (by decide) rfl ?_)
      refine Run.fin (Run.ret1 (by rw [hCf]; exact Proofs.Tryz.func78) Proofs.Tryz.results78 rfl (hR _ _ _ ?_))
      exact ⟨rfl, false, ⟨_, _, rfl⟩, (fun hg => ((((fun hg hne => a1' (dl hk hg).2.1) : digGood s = true → ¬ ((s.length : Int) - (k : Int) - 1 = 128) → False) hg (of_decide_eq_false hn)) : False).elim), (fun h => by cases h)⟩
    | true =>
    have hn' := of_decide_eq_true hn
    repeat (first | refine Run.seq ?_ | refine Run.region ?_ | refine Run.skip ?_ | refine Run.cond_f rfl ?_ | refine Ops.add rfl (by decide) rfl rfl (wI (by first | omega | (simp only [List.length_cons, List.length_nil] ; omega) | (simp; omega)) (by first | omega | (simp only [List.length_cons, List.length_nil] ; omega) | (simp; omega))) ?_ | refine Ops.pure T rfl (by decide) rfl ?_ | refine Ops.sliceStrLo rfl (by decide) (T.undOk rfl) rfl rfl (by first | omega | (simp only [List.length_cons, List.length_nil] ; omega) | (simp; omega)) (by first | omega | (simp only [List.length_cons, List.length_nil] ; omega) | (simp; omega)) ?_)
    have ek1 : ((k : Int) + 1).toNat = k + 1 := by omega
    rw [ek1]
    refine Ops.call ((name_zzOnly J1 (s.drop (k + 1)) hexT (by simp; omega) (by decide))) rfl (by decide) Proofs.Tryz.call104 rfl ?_
    rintro _ J2 l2 rfl
    rw [allR_eq ascii_hex]
    cases hx : allIn hexT (s.drop (k + 1)) with
    | false =>
      repeat (first | refine Run.seq ?_ | refine Run.region ?_ | refine Ops.nil ?_ | refine Run.cond_t rfl ?_ | refine Ops.pure T rfl (by decide) rfl ?_)
      refine Run.fin (Run.ret1 (by rw [hCf]; exact Proofs.Tryz.func78) Proofs.Tryz.results78 rfl (hR _ _ _ ?_))
      exact ⟨rfl, false, ⟨_, _, rfl⟩, (fun hg => ((by rw [(dl hk hg).2.2.2] at hx; cases hx) : False).elim), (fun h => by cases h)⟩
    | true =>
      repeat (first | refine Run.seq ?_ | refine Run.region ?_ | refine Ops.nil ?_ | refine Run.skip ?_ | refine Run.cond_f rfl ?_ | refine Ops.pure T rfl (by decide) rfl ?_)
      refine Run.fin (Run.ret1 (by rw [hCf]; exact Proofs.Tryz.func78) Proofs.Tryz.results78 rfl (hR _ _ _ ?_))
      exact ⟨rfl, true, rfl, fun _ => rfl, fun _ => .inr (otherDig_of hk (.inr a3') (by omega))⟩
  | false =>
    repeat (first | refine Run.seq ?_ | refine Run.region ?_ | refine Ops.nil ?_ | refine Run.cond_f rfl ?_ | refine Ops.pure T rfl (by decide) rfl ?_)
    refine Run.fin (Run.ret1 (by rw [hCf]; exact Proofs.Tryz.func78) Proofs.Tryz.results78 rfl (hR _ _ _ ?_))
    exact ⟨rfl, false, ⟨_, _, rfl⟩, (fun hg => ((a1' (dl hk hg).2.1) : False).elim), (fun h => by cases h)⟩
def big (s : Tx) (o : NOpt) : Nat := 4 * (s.length + o.reg.length + o.tag.length) + 400
def partsOk (s : Tx) (o : NOpt) (x : Tx × Tx × Tx) : Prop := x.1 ≠ [] ∧ x.1.length ≤ big s o ∧ x.2.1.length ≤ big s o ∧ x.2.2.length ≤ big s o
set_option maxHeartbeats 8000000 in
theorem name_NewDigest (I : Imm) (s : Tx) (v : Value) (o : NOpt) (hro : regOk o.reg) (ho : OptsAre I v o) (hs : s.length ≤ 137438953472) (hrl : o.reg.length ≤ 4294967296) : Pure Proofs.Tryz.prog 31 [str s, v] I fun w J =>
    ∃ a, tagRes o.ins s a w ∧ DigAns o s a ∧ ∀ x, a = some x → partsOk s o x := by
  obtain ⟨st, ins, reg, tag⟩ := o
  replace hrl : reg.length ≤ 4294967296 := hrl
  refine Spec.enter 66 [(0, _), (1, _)] Proofs.Tryz.func31 rfl Proofs.Tryz.ntmps31 (by simp) rfl ?_
  intro C hCf hR hCI
  repeat (first | refine Run.seq ?_ | refine Run.region ?_)
  refine Ops.alloc rfl (by decide) (T.zeroOk rfl) rfl (fun b => ?_)
  repeat (first | refine Run.seq ?_ | refine Run.region ?_ | refine Ops.nil ?_ | refine Ops.pure T rfl (by decide) rfl ?_)
  refine Ops.callN ((name_zzSplit s 64 I (by omega))) rfl (by decide) Proofs.Tryz.call74 rfl ?_
  rintro w J2 M l2 hG
  refine Ops.keepG (N := [_]) hG rfl fun J3 l3 hS => ?_
  have ho3 := ho.mono (l2.trans l3)
  clear hG l2 l3
  obtain ⟨A, c, e⟩ := hS.isSl
  subst e
  repeat (first | refine Run.seq ?_ | refine Run.region ?_ | refine Ops.nil ?_ | refine Ops.neq rfl (by decide) rfl rfl ?_ | refine Ops.pure T rfl (by decide) rfl ?_)
  cases h2 : decide (((spl 64 s).length : Int) = 2) with
  | false =>
    repeat (first | refine Run.seq ?_ | refine Run.region ?_ | refine Run.cond_t rfl ?_)
    refine Ops.buildL bd59 rfl (by decide) rfl rfl ?_
    repeat (first | refine Ops.pure T rfl (by decide) rfl ?_)
    refine Ops.lit T rfl rfl rfl (by decide) rfl (by decide) (by decide) rfl rfl rfl rfl rfl (fun b3 => ?_)
    refine Ops.call ((name_newErrBadName _ _ _)) rfl (by decide) Proofs.Tryz.call44 rfl ?_
    rintro _ J6 l6 ⟨b4, rfl⟩
    repeat (first | refine Ops.nil ?_ | refine Ops.pure T rfl (by decide) rfl ?_ | refine Ops.store 1 rfl rfl rfl rfl rfl (T.sizeOk rfl) rfl (Nat.le_of_ble_eq_true rfl) rfl rfl ?_)
    refine Run.retCT T 1 (by rw [hCf]; exact Proofs.Tryz.func31) Proofs.Tryz.results31 rfl rfl rfl rfl rfl rfl rfl (hR _ _ _ ?_)
    refine ⟨rfl, none, ⟨b4, rfl⟩, DigAns.no fun r p t hd => ?_, fun x h => by cases h⟩
    obtain ⟨k, k1, k2, _⟩ := sDig_yes hd
    rw [spl_two k1 k2] at h2
    simp at h2
  | true =>
  obtain ⟨k, hk1, hk2⟩ := spl_len2 (c := 64) (s := s) (by have := of_decide_eq_true h2; omega)
  have hlt := ix_lt hk1
  rw [spl_two hk1 hk2] at hS ⊢
  repeat (first | refine Run.seq ?_ | refine Run.region ?_ | refine Run.skip ?_ | refine Run.cond_f rfl ?_ | refine Ops.pure T rfl (by decide) rfl ?_)
  refine Ops.indexSl hS rfl (by decide) rfl rfl (T.undOk rfl) (T.sizeOk rfl) (by first | omega | (simp only [List.length_cons, List.length_nil] ; omega) | (simp; omega)) (by first | omega | (simp only [List.length_cons, List.length_nil] ; omega) | (simp; omega)) ?_
  rintro b_ off_ x cs_ hx hr_ hA_
  obtain rfl : cs_ = [_] := hr_
  refine Ops.loadI rfl (by decide) rfl hA_ (T.aggOk rfl) ?_
  obtain rfl : s.take k = x := by simpa using hx
  repeat (first | refine Run.seq ?_ | refine Run.region ?_ | refine Ops.nil ?_ | refine Ops.pure T rfl (by decide) rfl ?_)
  refine Ops.indexSl hS rfl (by decide) rfl rfl (T.undOk rfl) (T.sizeOk rfl) (by first | omega | (simp only [List.length_cons, List.length_nil] ; omega) | (simp; omega)) (by first | omega | (simp only [List.length_cons, List.length_nil] ; omega) | (simp; omega)) ?_
  rintro b_ off_ x cs_ hx hr_ hA_
  obtain rfl : cs_ = [_] := hr_
  refine Ops.loadI rfl (by decide) rfl hA_ (T.aggOk rfl) ?_
  obtain rfl : s.drop (k + 1) = x := by simpa using hx
  repeat (first | refine Run.seq ?_ | refine Run.region ?_ | refine Ops.nil ?_ | refine Ops.pure T rfl (by decide) rfl ?_)
  refine Ops.call ((name_zzDigest J3 (s.drop (k + 1)) (by simp; omega))) rfl (by decide) Proofs.Tryz.call78 rfl ?_
  rintro w J4 l4 ⟨r, hw, hr1, hr2⟩
  have ho4 := ho3.mono l4
  cases r with
  | false =>
    obtain ⟨t0, v0, rfl⟩ : ∃ t v, w = .iface t v := hw
    repeat (first | refine Run.seq ?_ | refine Run.region ?_ | refine Ops.nil ?_ | refine Run.cond_t rfl ?_ | refine Ops.neqNil T rfl (by decide) rfl rfl rfl rfl rfl ?_ | refine Ops.pure T rfl (by decide) rfl ?_)
    refine Ops.buildL bd59 rfl (by decide) rfl rfl ?_
    repeat (first | refine Ops.pure T rfl (by decide) rfl ?_)
    refine Ops.lit T rfl rfl rfl (by decide) rfl (by decide) (by decide) rfl rfl rfl rfl rfl (fun b3 => ?_)
    refine Ops.call ((name_newErrBadName _ _ _)) rfl (by decide) Proofs.Tryz.call44 rfl ?_
    rintro _ J6 l6 ⟨b4, rfl⟩
    repeat (first | refine Ops.nil ?_ | refine Ops.pure T rfl (by decide) rfl ?_ | refine Ops.store 1 rfl rfl rfl rfl rfl (T.sizeOk rfl) rfl (Nat.le_of_ble_eq_true rfl) rfl rfl ?_)
    refine Run.retCT T 1 (by rw [hCf]; exact Proofs.Tryz.func31) Proofs.Tryz.results31 rfl rfl rfl rfl rfl rfl rfl (hR _ _ _ ?_)
    refine ⟨rfl, none, ⟨b4, rfl⟩, DigAns.no fun r p t hd => ?_, fun x h => by cases h⟩
    obtain ⟨k', k1, k2, k3⟩ := sDig_yes hd
    rw [hk1] at k1
    cases k1
    exact absurd (hr1 k3) (by decide)
  | true =>
  obtain rfl : w = .nilIface := hw
  have hfin : ∀ {at_ : Option (Tx × Tx × Tx)} {ar : Option (Tx × Tx)}, TagAns ⟨st, ins, reg, tag⟩ (s.take k) at_ → RepoAns st reg (match at_ with
      | some x => repoT x.1 (fullP x.1 x.2.1)
      | none => s.take k) ar → DigAns ⟨st, ins, reg, tag⟩ s (ar.map fun x => (x.1, x.2, s.drop (k + 1))) := by
    intro at_ ar h1 h2
    cases hg : digGood (s.drop (k + 1)) with
    | true =>
      cases at_ with
      | none => exact DigAns.of hro hk1 hk2 hg h1 h2
      | some x => exact DigAns.of hro hk1 hk2 hg h1 h2
    | false =>
      rcases hr2 rfl with h | h
      · rw [hg] at h; cases h
      · exact DigAns.other hk1 hk2 hg h
  repeat (first | refine Run.seq ?_ | refine Run.region ?_ | refine Ops.nil ?_ | refine Run.skip ?_ | refine Run.cond_f rfl ?_ | refine Ops.neqNil T rfl (by decide) rfl rfl rfl rfl rfl ?_ | refine Ops.pure T rfl (by decide) rfl ?_)
  have htl : (s.take k).length ≤ s.length := by simp; omega
  refine Ops.call ((name_NewTag J4 (s.take k) v ⟨st, ins, reg, tag⟩ ho4 (by omega))) rfl (by decide) Proofs.Tryz.call30 rfl ?_
  rintro w J5 l5 ⟨at_, hres, hans, hlen⟩
  have ho5 := ho4.mono l5
  cases at_ with
  | none =>
    obtain ⟨b5, rfl⟩ := hres
    unfold errV
    repeat (first | refine Ops.pure T rfl (by decide) rfl ?_)
    refine Ops.alloc rfl (by decide) (T.zeroOk rfl) rfl (fun b6 => ?_)
    repeat (first | refine Run.seq ?_ | refine Run.region ?_ | refine Ops.nil ?_ | refine Run.skip ?_ | refine Run.cond_f rfl ?_ | refine Ops.eqlNil T rfl (by decide) rfl rfl rfl rfl rfl ?_ | refine Ops.pure T rfl (by decide) rfl ?_ | refine Ops.store 0 rfl rfl rfl rfl rfl (T.sizeOk rfl) rfl (Nat.le_of_ble_eq_true rfl) rfl rfl ?_)
    refine Ops.call ((name_NewRepository J5 (s.take k) v ⟨st, ins, reg, tag⟩ (ho5) (by first | omega | (simp only [repoT, List.length_append, List.length_cons, List.length_nil]; omega)))) rfl (by decide) Proofs.Tryz.call28 rfl ?_
    rintro w J8 l8 ⟨ar, hres8, hans8, hlen8⟩
    have hbl : (s.take k : Tx).length ≤ 2 * s.length + reg.length + 100 := by first | (simp only [repoT, List.length_append, List.length_cons, List.length_nil]; omega) | (simp; omega)
    cases ar with
    | none =>
      obtain ⟨b8, rfl⟩ := hres8
      unfold errV
      repeat (first | refine Ops.pure T rfl (by decide) rfl ?_)
      refine Ops.alloc rfl (by decide) (T.zeroOk rfl) rfl (fun b9 => ?_)
      try unfold errV
      repeat (first | refine Run.seq ?_ | refine Run.region ?_ | refine Ops.nil ?_ | refine Run.cond_t rfl ?_ | refine Ops.neqNil T rfl (by decide) rfl rfl rfl rfl rfl ?_ | refine Ops.pure T rfl (by decide) rfl ?_ | refine Ops.store 0 rfl rfl rfl rfl rfl (T.sizeOk rfl) rfl (Nat.le_of_ble_eq_true rfl) rfl rfl ?_)
      refine Ops.buildL bd59 rfl (by decide) rfl rfl ?_
      repeat (first | refine Ops.nil ?_ | refine Ops.pure T rfl (by decide) rfl ?_ | refine Ops.store 2 rfl rfl rfl rfl rfl (T.sizeOk rfl) rfl (Nat.le_of_ble_eq_true rfl) rfl rfl ?_)
      refine Run.retCT T 2 (by rw [hCf]; exact Proofs.Tryz.func31) Proofs.Tryz.results31 rfl rfl rfl rfl rfl rfl rfl (hR _ _ _ ?_)
      exact ⟨rfl, none, ⟨b8, rfl⟩, hfin hans hans8, fun x h => by cases h⟩
    | some y =>
      have hres9 : w = _ := hres8
      subst hres9
      repeat (first | refine Ops.pure T rfl (by decide) rfl ?_)
      refine Ops.alloc rfl (by decide) (T.zeroOk rfl) rfl (fun b9 => ?_)
      repeat (first | refine Run.seq ?_ | refine Run.region ?_ | refine Ops.nil ?_ | refine Run.skip ?_ | refine Run.cond_f rfl ?_ | refine Ops.neqNil T rfl (by decide) rfl rfl rfl rfl rfl ?_ | refine Ops.pure T rfl (by decide) rfl ?_ | refine Ops.loadN 0 rfl (by decide) rfl rfl (T.aggOk rfl) (T.sizeOk rfl) rfl rfl ?_ | refine Ops.store 0 rfl rfl rfl rfl rfl (T.sizeOk rfl) rfl (Nat.le_of_ble_eq_true rfl) rfl rfl ?_)
      refine Ops.buildL bd59 rfl (by decide) rfl rfl ?_
      repeat (first | refine Ops.nil ?_ | refine Ops.pure T rfl (by decide) rfl ?_ | refine Ops.store 2 rfl rfl rfl rfl rfl (T.sizeOk rfl) rfl (Nat.le_of_ble_eq_true rfl) rfl rfl ?_)
      refine Run.retCT T 2 (by rw [hCf]; exact Proofs.Tryz.func31) Proofs.Tryz.results31 rfl rfl rfl rfl rfl rfl rfl (hR _ _ _ ?_)
      refine ⟨rfl, some (y.1, y.2, s.drop (k + 1)), rfl, hfin hans hans8, fun z h => ?_⟩
      cases h
      obtain ⟨q1, q2, q3⟩ := hlen8 y rfl
      have : (s.drop (k + 1)).length ≤ s.length := by simp
      unfold partsOk big
      refine ⟨q1, ?_, ?_, ?_⟩ <;> simp only at * <;> omega
  | some x =>
    have hres2 : w = _ := hres
    subst hres2
    obtain ⟨q1, q2, q3, q4⟩ := hlen x rfl
    simp only at q2 q4
    have q5 := fullP_len x.1 x.2.1
    repeat (first | refine Ops.pure T rfl (by decide) rfl ?_)
    refine Ops.alloc rfl (by decide) (T.zeroOk rfl) rfl (fun b6 => ?_)
    repeat (first | refine Run.seq ?_ | refine Run.region ?_ | refine Ops.nil ?_ | refine Run.cond_t rfl ?_ | refine Ops.eqlNil T rfl (by decide) rfl rfl rfl rfl rfl ?_ | refine Ops.pure T rfl (by decide) rfl ?_ | refine Ops.loadN 0 rfl (by decide) rfl rfl (T.aggOk rfl) (T.sizeOk rfl) rfl rfl ?_ | refine Ops.store 0 rfl rfl rfl rfl rfl (T.sizeOk rfl) rfl (Nat.le_of_ble_eq_true rfl) rfl rfl ?_)
    refine Ops.call ((Repository_Name J5 ins x.1 x.2.1 (by omega) (by omega) q1)) rfl (by decide) Proofs.Tryz.call58 rfl ?_
    rintro _ J6 l6 rfl
    have ho6 := ho5.mono l6
    repeat (first | refine Run.seq ?_ | refine Run.region ?_ | refine Ops.nil ?_ | refine Ops.pure T rfl (by decide) rfl ?_)
    refine Ops.call ((name_NewRepository J6 (repoT x.1 (fullP x.1 x.2.1)) v ⟨st, ins, reg, tag⟩ (ho6) (by first | omega | (simp only [repoT, List.length_append, List.length_cons, List.length_nil]; omega)))) rfl (by decide) Proofs.Tryz.call28 rfl ?_
    rintro w J8 l8 ⟨ar, hres8, hans8, hlen8⟩
    have hbl : (repoT x.1 (fullP x.1 x.2.1) : Tx).length ≤ 2 * s.length + reg.length + 100 := by first | (simp only [repoT, List.length_append, List.length_cons, List.length_nil]; omega) | (simp; omega)
    cases ar with
    | none =>
      obtain ⟨b8, rfl⟩ := hres8
      unfold errV
      repeat (first | refine Ops.pure T rfl (by decide) rfl ?_)
      refine Ops.alloc rfl (by decide) (T.zeroOk rfl) rfl (fun b9 => ?_)
      try unfold errV
      repeat (first | refine Run.seq ?_ | refine Run.region ?_ | refine Ops.nil ?_ | refine Run.cond_t rfl ?_ | refine Ops.neqNil T rfl (by decide) rfl rfl rfl rfl rfl ?_ | refine Ops.pure T rfl (by decide) rfl ?_ | refine Ops.store 0 rfl rfl rfl rfl rfl (T.sizeOk rfl) rfl (Nat.le_of_ble_eq_true rfl) rfl rfl ?_)
      refine Ops.buildL bd59 rfl (by decide) rfl rfl ?_
      repeat (first | refine Ops.nil ?_ | refine Ops.pure T rfl (by decide) rfl ?_ | refine Ops.store 2 rfl rfl rfl rfl rfl (T.sizeOk rfl) rfl (Nat.le_of_ble_eq_true rfl) rfl rfl ?_)
      refine Run.retCT T 2 (by rw [hCf]; exact Proofs.Tryz.func31) Proofs.Tryz.results31 rfl rfl rfl rfl rfl rfl rfl (hR _ _ _ ?_)
      exact ⟨rfl, none, ⟨b8, rfl⟩, hfin hans hans8, fun x h => by cases h⟩
    | some y =>
      have hres9 : w = _ := hres8
      subst hres9
      repeat (first | refine Ops.pure T rfl (by decide) rfl ?_)
      refine Ops.alloc rfl (by decide) (T.zeroOk rfl) rfl (fun b9 => ?_)
      repeat (first | refine Run.seq ?_ | refine Run.region ?_ | refine Ops.nil ?_ | refine Run.skip ?_ | refine Run.cond_f rfl ?_ | refine Ops.neqNil T rfl (by decide) rfl rfl rfl rfl rfl ?_ | refine Ops.pure T rfl (by decide) rfl ?_ | refine Ops.loadN 0 rfl (by decide) rfl rfl (T.aggOk rfl) (T.sizeOk rfl) rfl rfl ?_ | refine Ops.store 0 rfl rfl rfl rfl rfl (T.sizeOk rfl) rfl (Nat.le_of_ble_eq_true rfl) rfl rfl ?_)
      refine Ops.buildL bd59 rfl (by decide) rfl rfl ?_
      repeat (first | refine Ops.nil ?_ | refine Ops.pure T rfl (by decide) rfl ?_ | refine Ops.store 2 rfl rfl rfl rfl rfl (T.sizeOk rfl) rfl (Nat.le_of_ble_eq_true rfl) rfl rfl ?_)
      refine Run.retCT T 2 (by rw [hCf]; exact Proofs.Tryz.func31) Proofs.Tryz.results31 rfl rfl rfl rfl rfl rfl rfl (hR _ _ _ ?_)
      refine ⟨rfl, some (y.1, y.2, s.drop (k + 1)), rfl, hfin hans hans8, fun z h => ?_⟩
      cases h
      obtain ⟨q1, q2, q3⟩ := hlen8 y rfl
      have : (s.drop (k + 1)).length ≤ s.length := by simp
      unfold partsOk big
      refine ⟨q1, ?_, ?_, ?_⟩ <;> simp only at * <;> omega
end Go.V
/-
  What registries, repositories, tags and digests tell.
-/
namespace Go.V
open Go.RowKit
set_option linter.unusedVariables false
set_option linter.unusedSimpArgs false
set_option maxRecDepth 10000
attribute [local irreducible] Run Ops
def Nm.cs (n : Nm) : List Value := [.int .i64 n.kind, str n.reg, str n.rep, str n.id, str n.name, str n.text, str n.scheme, str n.scope, str n.cname, str n.ctext, str n.rname]
theorem Tag_TagStr (I : Imm) (ins : Bool) (r p t s : Tx) : Pure Proofs.Tryz.prog 53 [.agg [.bool ins, str r, str p, str t, str s].toArray] I fun w J => w = str t := by
  refine Spec.enter 5 [(0, _)] Proofs.Tryz.func53 rfl Proofs.Tryz.ntmps53 (by simp) rfl ?_
  intro C hCf hR hCI
  repeat (first | refine Run.seq ?_ | refine Run.region ?_)
  refine Ops.box rfl (by decide) rfl rfl (fun b => ?_)
  repeat (first | refine Run.seq ?_ | refine Run.region ?_ | refine Ops.nil ?_ | refine Ops.pure T rfl (by decide) rfl ?_ | refine Ops.load 0 rfl (by decide) rfl rfl (T.aggOk rfl) rfl ?_)
  refine Run.fin (Run.ret1 (by rw [hCf]; exact Proofs.Tryz.func53) Proofs.Tryz.results53 rfl (hR _ _ _ ?_))
  exact ⟨rfl, rfl⟩
theorem Tag_String (I : Imm) (ins : Bool) (r p t s : Tx) : Pure Proofs.Tryz.prog 55 [.agg [.bool ins, str r, str p, str t, str s].toArray] I fun w J => w = str s := by
  refine Spec.enter 5 [(0, _)] Proofs.Tryz.func55 rfl Proofs.Tryz.ntmps55 (by simp) rfl ?_
  intro C hCf hR hCI
  repeat (first | refine Run.seq ?_ | refine Run.region ?_)
  refine Ops.box rfl (by decide) rfl rfl (fun b => ?_)
  repeat (first | refine Run.seq ?_ | refine Run.region ?_ | refine Ops.nil ?_ | refine Ops.pure T rfl (by decide) rfl ?_ | refine Ops.load 0 rfl (by decide) rfl rfl (T.aggOk rfl) rfl ?_)
  refine Run.fin (Run.ret1 (by rw [hCf]; exact Proofs.Tryz.func55) Proofs.Tryz.results55 rfl (hR _ _ _ ?_))
  exact ⟨rfl, rfl⟩
theorem Digest_DigestStr (I : Imm) (ins : Bool) (r p t s : Tx) : Pure Proofs.Tryz.prog 62 [.agg [.bool ins, str r, str p, str t, str s].toArray] I fun w J => w = str t := by
  refine Spec.enter 5 [(0, _)] Proofs.Tryz.func62 rfl Proofs.Tryz.ntmps62 (by simp) rfl ?_
  intro C hCf hR hCI
  repeat (first | refine Run.seq ?_ | refine Run.region ?_)
  refine Ops.box rfl (by decide) rfl rfl (fun b => ?_)
  repeat (first | refine Run.seq ?_ | refine Run.region ?_ | refine Ops.nil ?_ | refine Ops.pure T rfl (by decide) rfl ?_ | refine Ops.load 0 rfl (by decide) rfl rfl (T.aggOk rfl) rfl ?_)
  refine Run.fin (Run.ret1 (by rw [hCf]; exact Proofs.Tryz.func62) Proofs.Tryz.results62 rfl (hR _ _ _ ?_))
  exact ⟨rfl, rfl⟩
theorem Digest_String (I : Imm) (ins : Bool) (r p t s : Tx) : Pure Proofs.Tryz.prog 64 [.agg [.bool ins, str r, str p, str t, str s].toArray] I fun w J => w = str s := by
  refine Spec.enter 5 [(0, _)] Proofs.Tryz.func64 rfl Proofs.Tryz.ntmps64 (by simp) rfl ?_
  intro C hCf hR hCI
  repeat (first | refine Run.seq ?_ | refine Run.region ?_)
  refine Ops.box rfl (by decide) rfl rfl (fun b => ?_)
  repeat (first | refine Run.seq ?_ | refine Run.region ?_ | refine Ops.nil ?_ | refine Ops.pure T rfl (by decide) rfl ?_ | refine Ops.load 0 rfl (by decide) rfl rfl (T.aggOk rfl) rfl ?_)
  refine Run.fin (Run.ret1 (by rw [hCf]; exact Proofs.Tryz.func64) Proofs.Tryz.results64 rfl (hR _ _ _ ?_))
  exact ⟨rfl, rfl⟩
theorem Tag_Identifier (I : Imm) (ins : Bool) (r p t s : Tx) : Pure Proofs.Tryz.prog 137 [.agg [.bool ins, str r, str p, str t, str s].toArray] I fun w J => w = str t := by
  refine Spec.enter 5 [(0, _)] Proofs.Tryz.func137 rfl Proofs.Tryz.ntmps137 (by simp) rfl ?_
  intro C hCf hR hCI
  repeat (first | refine Run.seq ?_ | refine Run.region ?_)
  refine Ops.box rfl (by decide) rfl rfl (fun b => ?_)
  repeat (first | refine Run.seq ?_ | refine Run.region ?_ | refine Ops.nil ?_ | refine Ops.pure T rfl (by decide) rfl ?_ | refine Ops.loadN 0 rfl (by decide) rfl rfl (T.aggOk rfl) (T.sizeOk rfl) rfl rfl ?_)
  refine Ops.call ((Tag_TagStr I ins r p t s)) rfl (by decide) Proofs.Tryz.call53 rfl ?_
  rintro _ J l rfl
  repeat (first | refine Ops.nil ?_ | refine Ops.pure T rfl (by decide) rfl ?_)
  refine Run.fin (Run.ret1 (by rw [hCf]; exact Proofs.Tryz.func137) Proofs.Tryz.results137 rfl (hR _ _ _ ?_))
  exact ⟨rfl, rfl⟩
theorem Digest_Identifier (I : Imm) (ins : Bool) (r p t s : Tx) : Pure Proofs.Tryz.prog 138 [.agg [.bool ins, str r, str p, str t, str s].toArray] I fun w J => w = str t := by
  refine Spec.enter 5 [(0, _)] Proofs.Tryz.func138 rfl Proofs.Tryz.ntmps138 (by simp) rfl ?_
  intro C hCf hR hCI
  repeat (first | refine Run.seq ?_ | refine Run.region ?_)
  refine Ops.box rfl (by decide) rfl rfl (fun b => ?_)
  repeat (first | refine Run.seq ?_ | refine Run.region ?_ | refine Ops.nil ?_ | refine Ops.pure T rfl (by decide) rfl ?_ | refine Ops.loadN 0 rfl (by decide) rfl rfl (T.aggOk rfl) (T.sizeOk rfl) rfl rfl ?_)
  refine Ops.call ((Digest_DigestStr I ins r p t s)) rfl (by decide) Proofs.Tryz.call62 rfl ?_
  rintro _ J l rfl
  repeat (first | refine Ops.nil ?_ | refine Ops.pure T rfl (by decide) rfl ?_)
  refine Run.fin (Run.ret1 (by rw [hCf]; exact Proofs.Tryz.func138) Proofs.Tryz.results138 rfl (hR _ _ _ ?_))
  exact ⟨rfl, rfl⟩
theorem Tag_Context (I : Imm) (ins : Bool) (r p t s : Tx) : Pure Proofs.Tryz.prog 50 [.agg [.bool ins, str r, str p, str t, str s].toArray] I fun w J => w = .agg [.bool ins, str r, str p].toArray := by
  refine Spec.enter 5 [(0, _)] Proofs.Tryz.func50 rfl Proofs.Tryz.ntmps50 (by simp) rfl ?_
  intro C hCf hR hCI
  repeat (first | refine Run.seq ?_ | refine Run.region ?_)
  refine Ops.box rfl (by decide) rfl rfl (fun b => ?_)
  refine Ops.alloc rfl (by decide) (T.zeroOk rfl) rfl (fun b2 => ?_)
  repeat (first | refine Run.seq ?_ | refine Run.region ?_ | refine Ops.nil ?_ | refine Ops.pure T rfl (by decide) rfl ?_ | refine Ops.loadN 1 rfl (by decide) rfl rfl (T.aggOk rfl) (T.sizeOk rfl) rfl rfl ?_ | refine Ops.store 0 rfl rfl rfl rfl rfl (T.sizeOk rfl) rfl (Nat.le_of_ble_eq_true rfl) rfl rfl ?_)
  refine Run.retC T 0 (by rw [hCf]; exact Proofs.Tryz.func50) Proofs.Tryz.results50 rfl rfl rfl rfl rfl rfl (hR _ _ _ ?_)
  exact ⟨rfl, rfl⟩
theorem Digest_Context (I : Imm) (ins : Bool) (r p t s : Tx) : Pure Proofs.Tryz.prog 61 [.agg [.bool ins, str r, str p, str t, str s].toArray] I fun w J => w = .agg [.bool ins, str r, str p].toArray := by
  refine Spec.enter 5 [(0, _)] Proofs.Tryz.func61 rfl Proofs.Tryz.ntmps61 (by simp) rfl ?_
  intro C hCf hR hCI
  repeat (first | refine Run.seq ?_ | refine Run.region ?_)
  refine Ops.box rfl (by decide) rfl rfl (fun b => ?_)
  refine Ops.alloc rfl (by decide) (T.zeroOk rfl) rfl (fun b2 => ?_)
  repeat (first | refine Run.seq ?_ | refine Run.region ?_ | refine Ops.nil ?_ | refine Ops.pure T rfl (by decide) rfl ?_ | refine Ops.loadN 1 rfl (by decide) rfl rfl (T.aggOk rfl) (T.sizeOk rfl) rfl rfl ?_ | refine Ops.store 0 rfl rfl rfl rfl rfl (T.sizeOk rfl) rfl (Nat.le_of_ble_eq_true rfl) rfl rfl ?_)
  refine Run.retC T 0 (by rw [hCf]; exact Proofs.Tryz.func61) Proofs.Tryz.results61 rfl rfl rfl rfl rfl rfl (hR _ _ _ ?_)
  exact ⟨rfl, rfl⟩
theorem Tag_Name (I : Imm) (ins : Bool) (r p t s : Tx) (hr : r.length ≤ 1099511627776) (hp : p.length ≤ 1099511627776) (ht : t.length ≤ 1099511627776) (hne : r ≠ []) :
    Pure Proofs.Tryz.prog 54 [.agg [.bool ins, str r, str p, str t, str s].toArray] I fun w J => w = str (repoT r (fullP r p) ++ [58] ++ t) := by
  have hfl := fullP_len r p
  refine Spec.enter 10 [(0, _)] Proofs.Tryz.func54 rfl Proofs.Tryz.ntmps54 (by simp) rfl ?_
  intro C hCf hR hCI
  repeat (first | refine Run.seq ?_ | refine Run.region ?_)
  refine Ops.box rfl (by decide) rfl rfl (fun b => ?_)
  repeat (first | refine Run.seq ?_ | refine Ops.nil ?_ | refine Ops.pure T rfl (by decide) rfl ?_)
  refine Run.regionAny (Holds I [(b, blk [.bool ins, str r, str p, str t, str s] 56)]) (bl 8 0) (by kernel_rfl) (by kernel_rfl) ?_
  refine RAny.tk 0 (bl 8 1) rfl (by kernel_rfl) (by decide) (fun W h => h.holds (Le.refl _) (by first | exact mp rfl | exact mq rfl)) (Yld.eval T rfl rfl) ?_
  first | refine RAny.tk 1 (bl 8 3) rfl (by kernel_rfl) (by decide) (fun W h => h.holds (Le.refl _) (by first | exact mp rfl | exact mq rfl)) (Yld.loadN 0 T rfl rfl rfl rfl rfl rfl rfl) ?_ | refine RAny.tk 1 (bl 8 3) rfl (by kernel_rfl) (by decide) (fun W h => h.holds (Le.refl _) (by first | exact mp rfl | exact mq rfl)) (Yld.loadN 1 T rfl rfl rfl rfl rfl rfl rfl) ?_ | refine RAny.tk 1 (bl 8 3) rfl (by kernel_rfl) (by decide) (fun W h => h.holds (Le.refl _) (by first | exact mp rfl | exact mq rfl)) (Yld.loadN 2 T rfl rfl rfl rfl rfl rfl rfl) ?_
  first | refine RAny.tk 4 (bl 8 19) rfl (by kernel_rfl) (by decide) (fun W h => h.holds (Le.refl _) (by first | exact mp rfl | exact mq rfl)) (Yld.loadN 0 T rfl rfl rfl rfl rfl rfl rfl) ?_ | refine RAny.tk 4 (bl 8 19) rfl (by kernel_rfl) (by decide) (fun W h => h.holds (Le.refl _) (by first | exact mp rfl | exact mq rfl)) (Yld.loadN 1 T rfl rfl rfl rfl rfl rfl rfl) ?_ | refine RAny.tk 4 (bl 8 19) rfl (by kernel_rfl) (by decide) (fun W h => h.holds (Le.refl _) (by first | exact mp rfl | exact mq rfl)) (Yld.loadN 2 T rfl rfl rfl rfl rfl rfl rfl) ?_
  refine RAny.on 2 (bl 8 23) rfl (by kernel_rfl) rfl (by decide) (Eff.call (Repository_Name I ins r p hr hp hne) Proofs.Tryz.call58 rfl fun x2 J2 l2 hx2 => ⟨fun W h => h.holds l2 (by first | exact mp rfl | exact mq rfl), ?_⟩)
  subst hx2
  skip
  refine RAny.tk 3 (bl 8 31) rfl (by kernel_rfl) (by decide) (fun W h => h.holds l2 (by first | exact mp rfl | exact mq rfl)) (Yld.catS rfl rfl rfl (by simp only [repoT, List.length_append, List.length_cons, List.length_nil]; omega)) ?_
  refine RAny.on 5 (bl 8 63) rfl (by kernel_rfl) rfl (by decide) (Eff.call (Tag_TagStr J2 ins r p t s) Proofs.Tryz.call53 rfl fun x3 J3 l3 hx3 => ⟨fun W h => h.holds (l2.trans l3) (by first | exact mp rfl | exact mq rfl), ?_⟩)
  subst hx3
  skip
  refine RAny.tk 6 (bl 8 127) rfl (by kernel_rfl) (by decide) (fun W h => h.holds (l2.trans l3) (by first | exact mp rfl | exact mq rfl)) (Yld.catS rfl rfl rfl (by simp only [repoT, List.length_append, List.length_cons, List.length_nil]; omega)) ?_
  refine RAny.tk 7 (bl 8 255) rfl (by kernel_rfl) (by decide) (fun W h => h.holds (l2.trans l3) (by first | exact mp rfl | exact mq rfl)) (Yld.eval T rfl rfl) ?_
  refine RAny.done _ (by kernel_rfl) ?_
  skip
  refine Run.fin (Run.ret1 (by rw [hCf]; exact Proofs.Tryz.func54) Proofs.Tryz.results54 rfl (hR _ _ _ ?_))
  exact ⟨rfl, rfl⟩
theorem Digest_Name (I : Imm) (ins : Bool) (r p t s : Tx) (hr : r.length ≤ 1099511627776) (hp : p.length ≤ 1099511627776) (ht : t.length ≤ 1099511627776) (hne : r ≠ []) :
    Pure Proofs.Tryz.prog 63 [.agg [.bool ins, str r, str p, str t, str s].toArray] I fun w J => w = str (repoT r (fullP r p) ++ [64] ++ t) := by
  have hfl := fullP_len r p
  refine Spec.enter 10 [(0, _)] Proofs.Tryz.func63 rfl Proofs.Tryz.ntmps63 (by simp) rfl ?_
  intro C hCf hR hCI
  repeat (first | refine Run.seq ?_ | refine Run.region ?_)
  refine Ops.box rfl (by decide) rfl rfl (fun b => ?_)
  repeat (first | refine Run.seq ?_ | refine Ops.nil ?_ | refine Ops.pure T rfl (by decide) rfl ?_)
  refine Run.regionAny (Holds I [(b, blk [.bool ins, str r, str p, str t, str s] 59)]) (bl 8 0) (by kernel_rfl) (by kernel_rfl) ?_
  refine RAny.tk 0 (bl 8 1) rfl (by kernel_rfl) (by decide) (fun W h => h.holds (Le.refl _) (by first | exact mp rfl | exact mq rfl)) (Yld.eval T rfl rfl) ?_
  first | refine RAny.tk 1 (bl 8 3) rfl (by kernel_rfl) (by decide) (fun W h => h.holds (Le.refl _) (by first | exact mp rfl | exact mq rfl)) (Yld.loadN 0 T rfl rfl rfl rfl rfl rfl rfl) ?_ | refine RAny.tk 1 (bl 8 3) rfl (by kernel_rfl) (by decide) (fun W h => h.holds (Le.refl _) (by first | exact mp rfl | exact mq rfl)) (Yld.loadN 1 T rfl rfl rfl rfl rfl rfl rfl) ?_ | refine RAny.tk 1 (bl 8 3) rfl (by kernel_rfl) (by decide) (fun W h => h.holds (Le.refl _) (by first | exact mp rfl | exact mq rfl)) (Yld.loadN 2 T rfl rfl rfl rfl rfl rfl rfl) ?_
  first | refine RAny.tk 4 (bl 8 19) rfl (by kernel_rfl) (by decide) (fun W h => h.holds (Le.refl _) (by first | exact mp rfl | exact mq rfl)) (Yld.loadN 0 T rfl rfl rfl rfl rfl rfl rfl) ?_ | refine RAny.tk 4 (bl 8 19) rfl (by kernel_rfl) (by decide) (fun W h => h.holds (Le.refl _) (by first | exact mp rfl | exact mq rfl)) (Yld.loadN 1 T rfl rfl rfl rfl rfl rfl rfl) ?_ | refine RAny.tk 4 (bl 8 19) rfl (by kernel_rfl) (by decide) (fun W h => h.holds (Le.refl _) (by first | exact mp rfl | exact mq rfl)) (Yld.loadN 2 T rfl rfl rfl rfl rfl rfl rfl) ?_
  refine RAny.on 2 (bl 8 23) rfl (by kernel_rfl) rfl (by decide) (Eff.call (Repository_Name I ins r p hr hp hne) Proofs.Tryz.call58 rfl fun x2 J2 l2 hx2 => ⟨fun W h => h.holds l2 (by first | exact mp rfl | exact mq rfl), ?_⟩)
  subst hx2
  skip
  refine RAny.tk 3 (bl 8 31) rfl (by kernel_rfl) (by decide) (fun W h => h.holds l2 (by first | exact mp rfl | exact mq rfl)) (Yld.catS rfl rfl rfl (by simp only [repoT, List.length_append, List.length_cons, List.length_nil]; omega)) ?_
  refine RAny.on 5 (bl 8 63) rfl (by kernel_rfl) rfl (by decide) (Eff.call (Digest_DigestStr J2 ins r p t s) Proofs.Tryz.call62 rfl fun x3 J3 l3 hx3 => ⟨fun W h => h.holds (l2.trans l3) (by first | exact mp rfl | exact mq rfl), ?_⟩)
  subst hx3
  skip
  refine RAny.tk 6 (bl 8 127) rfl (by kernel_rfl) (by decide) (fun W h => h.holds (l2.trans l3) (by first | exact mp rfl | exact mq rfl)) (Yld.catS rfl rfl rfl (by simp only [repoT, List.length_append, List.length_cons, List.length_nil]; omega)) ?_
  refine RAny.tk 7 (bl 8 255) rfl (by kernel_rfl) (by decide) (fun W h => h.holds (l2.trans l3) (by first | exact mp rfl | exact mq rfl)) (Yld.eval T rfl rfl) ?_
  refine RAny.done _ (by kernel_rfl) ?_
  skip
  refine Run.fin (Run.ret1 (by rw [hCf]; exact Proofs.Tryz.func63) Proofs.Tryz.results63 rfl (hR _ _ _ ?_))
  exact ⟨rfl, rfl⟩
theorem Tag_Scope (I : Imm) (ins : Bool) (r p t s : Tx) (hp : p.length ≤ 1099511627776) : Pure Proofs.Tryz.prog 57 [.agg [.bool ins, str r, str p, str t, str s].toArray, str [112, 117, 108, 108]] I fun w J => w = str (scopeT (fullP r p)) := by
  refine Spec.enter 9 [(0, _), (1, _)] Proofs.Tryz.func57 rfl Proofs.Tryz.ntmps57 (by simp) rfl ?_
  intro C hCf hR hCI
  repeat (first | refine Run.seq ?_ | refine Run.region ?_)
  refine Ops.box rfl (by decide) rfl rfl (fun b => ?_)
  repeat (first | refine Run.seq ?_ | refine Run.region ?_ | refine Ops.nil ?_ | refine Ops.pure T rfl (by decide) rfl ?_ | refine Ops.loadN 0 rfl (by decide) rfl rfl (T.aggOk rfl) (T.sizeOk rfl) rfl rfl ?_)
  refine Ops.call ((Repository_Scope I ins r p hp)) rfl (by decide) Proofs.Tryz.call65 rfl ?_
  rintro _ J l rfl
  repeat (first | refine Ops.nil ?_ | refine Ops.pure T rfl (by decide) rfl ?_)
  refine Run.fin (Run.ret1 (by rw [hCf]; exact Proofs.Tryz.func57) Proofs.Tryz.results57 rfl (hR _ _ _ ?_))
  exact ⟨rfl, rfl⟩
set_option maxHeartbeats 2000000 in
theorem impl_registryNamed (I : Imm) (ins : Bool) (r : Tx) (hr : r.length ≤ 1099511627776) : Pure Proofs.Tryz.prog 27 [.agg [.bool ins, str r].toArray] I fun w J => w = .agg (nmd (ins || pHttp r) 1 r [] [] []).cs.toArray := by
  refine Spec.enter 14 [(0, _)] Proofs.Tryz.func27 rfl Proofs.Tryz.ntmps27 (by simp) rfl ?_
  intro C hCf hR hCI
  repeat (first | refine Run.seq ?_ | refine Run.region ?_)
  refine Ops.box rfl (by decide) rfl rfl (fun b => ?_)
  refine Ops.alloc rfl (by decide) (T.zeroOk rfl) rfl (fun b2 => ?_)
  repeat (first | refine Run.seq ?_ | refine Ops.nil ?_)
  refine Run.regionAny (Holds I [(b, blk [.bool ins, str r] 52)]) (bl 12 0) (by kernel_rfl) (by kernel_rfl) ?_
  first | refine RAny.tk 0 (bl 12 1) rfl (by kernel_rfl) (by decide) (fun W h => h.holds (Le.refl _) (by first | exact mp rfl | exact mq rfl)) (Yld.loadN 0 T rfl rfl rfl rfl rfl rfl rfl) ?_ | refine RAny.tk 0 (bl 12 1) rfl (by kernel_rfl) (by decide) (fun W h => h.holds (Le.refl _) (by first | exact mp rfl | exact mq rfl)) (Yld.loadN 1 T rfl rfl rfl rfl rfl rfl rfl) ?_ | refine RAny.tk 0 (bl 12 1) rfl (by kernel_rfl) (by decide) (fun W h => h.holds (Le.refl _) (by first | exact mp rfl | exact mq rfl)) (Yld.loadN 2 T rfl rfl rfl rfl rfl rfl rfl) ?_
  first | refine RAny.tk 2 (bl 12 5) rfl (by kernel_rfl) (by decide) (fun W h => h.holds (Le.refl _) (by first | exact mp rfl | exact mq rfl)) (Yld.loadN 0 T rfl rfl rfl rfl rfl rfl rfl) ?_ | refine RAny.tk 2 (bl 12 5) rfl (by kernel_rfl) (by decide) (fun W h => h.holds (Le.refl _) (by first | exact mp rfl | exact mq rfl)) (Yld.loadN 1 T rfl rfl rfl rfl rfl rfl rfl) ?_ | refine RAny.tk 2 (bl 12 5) rfl (by kernel_rfl) (by decide) (fun W h => h.holds (Le.refl _) (by first | exact mp rfl | exact mq rfl)) (Yld.loadN 2 T rfl rfl rfl rfl rfl rfl rfl) ?_
  first | refine RAny.tk 4 (bl 12 21) rfl (by kernel_rfl) (by decide) (fun W h => h.holds (Le.refl _) (by first | exact mp rfl | exact mq rfl)) (Yld.loadN 0 T rfl rfl rfl rfl rfl rfl rfl) ?_ | refine RAny.tk 4 (bl 12 21) rfl (by kernel_rfl) (by decide) (fun W h => h.holds (Le.refl _) (by first | exact mp rfl | exact mq rfl)) (Yld.loadN 1 T rfl rfl rfl rfl rfl rfl rfl) ?_ | refine RAny.tk 4 (bl 12 21) rfl (by kernel_rfl) (by decide) (fun W h => h.holds (Le.refl _) (by first | exact mp rfl | exact mq rfl)) (Yld.loadN 2 T rfl rfl rfl rfl rfl rfl rfl) ?_
  first | refine RAny.tk 6 (bl 12 85) rfl (by kernel_rfl) (by decide) (fun W h => h.holds (Le.refl _) (by first | exact mp rfl | exact mq rfl)) (Yld.loadN 0 T rfl rfl rfl rfl rfl rfl rfl) ?_ | refine RAny.tk 6 (bl 12 85) rfl (by kernel_rfl) (by decide) (fun W h => h.holds (Le.refl _) (by first | exact mp rfl | exact mq rfl)) (Yld.loadN 1 T rfl rfl rfl rfl rfl rfl rfl) ?_ | refine RAny.tk 6 (bl 12 85) rfl (by kernel_rfl) (by decide) (fun W h => h.holds (Le.refl _) (by first | exact mp rfl | exact mq rfl)) (Yld.loadN 2 T rfl rfl rfl rfl rfl rfl rfl) ?_
  first | refine RAny.tk 8 (bl 12 341) rfl (by kernel_rfl) (by decide) (fun W h => h.holds (Le.refl _) (by first | exact mp rfl | exact mq rfl)) (Yld.loadN 0 T rfl rfl rfl rfl rfl rfl rfl) ?_ | refine RAny.tk 8 (bl 12 341) rfl (by kernel_rfl) (by decide) (fun W h => h.holds (Le.refl _) (by first | exact mp rfl | exact mq rfl)) (Yld.loadN 1 T rfl rfl rfl rfl rfl rfl rfl) ?_ | refine RAny.tk 8 (bl 12 341) rfl (by kernel_rfl) (by decide) (fun W h => h.holds (Le.refl _) (by first | exact mp rfl | exact mq rfl)) (Yld.loadN 2 T rfl rfl rfl rfl rfl rfl rfl) ?_
  refine RAny.on 1 (bl 12 343) rfl (by kernel_rfl) rfl (by decide) (Eff.call (Registry_RegistryStr I ins r) Proofs.Tryz.call51 rfl fun x2 J2 l2 hx2 => ⟨fun W h => h.holds l2 (by first | exact mp rfl | exact mq rfl), ?_⟩)
  subst hx2
  refine RAny.on 3 (bl 12 351) rfl (by kernel_rfl) rfl (by decide) (Eff.call (Registry_Name J2 ins r) Proofs.Tryz.call60 rfl fun x3 J3 k3 hx3 => ⟨fun W h => h.holds (l2.trans k3) (by first | exact mp rfl | exact mq rfl), ?_⟩)
  subst hx3
  have l3 := l2.trans k3
  refine RAny.on 5 (bl 12 383) rfl (by kernel_rfl) rfl (by decide) (Eff.call (Registry_String J3 ins r) Proofs.Tryz.call68 rfl fun x4 J4 k4 hx4 => ⟨fun W h => h.holds (l3.trans k4) (by first | exact mp rfl | exact mq rfl), ?_⟩)
  subst hx4
  have l4 := l3.trans k4
  refine RAny.on 7 (bl 12 511) rfl (by kernel_rfl) rfl (by decide) (Eff.call (Registry_Scheme J4 ins r hr) Proofs.Tryz.call56 rfl fun x5 J5 k5 hx5 => ⟨fun W h => h.holds (l4.trans k5) (by first | exact mp rfl | exact mq rfl), ?_⟩)
  subst hx5
  have l5 := l4.trans k5
  refine RAny.on 9 (bl 12 1023) rfl (by kernel_rfl) rfl (by decide) (Eff.call (Registry_Scope J5 ins r [112, 117, 108, 108]) Proofs.Tryz.call69 rfl fun x6 J6 k6 hx6 => ⟨fun W h => h.holds (l5.trans k6) (by first | exact mp rfl | exact mq rfl), ?_⟩)
  subst hx6
  have l6 := l5.trans k6
  skip
  refine RAny.tk 10 (bl 12 2047) rfl (by kernel_rfl) (by decide) (fun W h => h.holds l6 (by first | exact mp rfl | exact mq rfl)) (Yld.buildL bd26 rfl rfl rfl) ?_
  refine RAny.os 11 (bl 12 4095) rfl (by kernel_rfl) rfl (Eff.store 0 rfl rfl rfl rfl (T.sizeOk rfl) rfl (Nat.le_of_ble_eq_true rfl) rfl rfl ⟨fun W h => h.holds l6 (by first | exact mp rfl | exact mq rfl), ?_⟩)
  refine RAny.done _ (by kernel_rfl) ?_
  skip
  refine Run.retC T 0 (by rw [hCf]; exact Proofs.Tryz.func27) Proofs.Tryz.results27 rfl rfl rfl rfl rfl rfl (hR _ _ _ ?_)
  exact ⟨rfl, rfl⟩
set_option maxHeartbeats 2000000 in
theorem impl_repositoryNamed (I : Imm) (ins : Bool) (r p : Tx) (hr : r.length ≤ 1099511627776) (hp : p.length ≤ 1099511627776) (hne : r ≠ []) : Pure Proofs.Tryz.prog 29 [.agg [.bool ins, str r, str p].toArray] I fun w J => w = .agg (nmd (ins || pHttp r) 2 r (fullP r p) [] []).cs.toArray := by
  refine Spec.enter 18 [(0, _)] Proofs.Tryz.func29 rfl Proofs.Tryz.ntmps29 (by simp) rfl ?_
  intro C hCf hR hCI
  repeat (first | refine Run.seq ?_ | refine Run.region ?_)
  refine Ops.box rfl (by decide) rfl rfl (fun b => ?_)
  refine Ops.alloc rfl (by decide) (T.zeroOk rfl) rfl (fun b2 => ?_)
  repeat (first | refine Run.seq ?_ | refine Ops.nil ?_)
  refine Run.regionAny (Holds I [(b, blk [.bool ins, str r, str p] 54)]) (bl 16 0) (by kernel_rfl) (by kernel_rfl) ?_
  refine RAny.tk 0 (bl 16 1) rfl (by kernel_rfl) (by decide) (fun W h => h.holds (Le.refl _) (by first | exact mp rfl | exact mq rfl)) (Yld.eval T rfl rfl) ?_
  first | refine RAny.tk 1 (bl 16 3) rfl (by kernel_rfl) (by decide) (fun W h => h.holds (Le.refl _) (by first | exact mp rfl | exact mq rfl)) (Yld.loadN 0 T rfl rfl rfl rfl rfl rfl rfl) ?_ | refine RAny.tk 1 (bl 16 3) rfl (by kernel_rfl) (by decide) (fun W h => h.holds (Le.refl _) (by first | exact mp rfl | exact mq rfl)) (Yld.loadN 1 T rfl rfl rfl rfl rfl rfl rfl) ?_ | refine RAny.tk 1 (bl 16 3) rfl (by kernel_rfl) (by decide) (fun W h => h.holds (Le.refl _) (by first | exact mp rfl | exact mq rfl)) (Yld.loadN 2 T rfl rfl rfl rfl rfl rfl rfl) ?_
  first | refine RAny.tk 3 (bl 16 11) rfl (by kernel_rfl) (by decide) (fun W h => h.holds (Le.refl _) (by first | exact mp rfl | exact mq rfl)) (Yld.loadN 0 T rfl rfl rfl rfl rfl rfl rfl) ?_ | refine RAny.tk 3 (bl 16 11) rfl (by kernel_rfl) (by decide) (fun W h => h.holds (Le.refl _) (by first | exact mp rfl | exact mq rfl)) (Yld.loadN 1 T rfl rfl rfl rfl rfl rfl rfl) ?_ | refine RAny.tk 3 (bl 16 11) rfl (by kernel_rfl) (by decide) (fun W h => h.holds (Le.refl _) (by first | exact mp rfl | exact mq rfl)) (Yld.loadN 2 T rfl rfl rfl rfl rfl rfl rfl) ?_
  first | refine RAny.tk 5 (bl 16 43) rfl (by kernel_rfl) (by decide) (fun W h => h.holds (Le.refl _) (by first | exact mp rfl | exact mq rfl)) (Yld.loadN 0 T rfl rfl rfl rfl rfl rfl rfl) ?_ | refine RAny.tk 5 (bl 16 43) rfl (by kernel_rfl) (by decide) (fun W h => h.holds (Le.refl _) (by first | exact mp rfl | exact mq rfl)) (Yld.loadN 1 T rfl rfl rfl rfl rfl rfl rfl) ?_ | refine RAny.tk 5 (bl 16 43) rfl (by kernel_rfl) (by decide) (fun W h => h.holds (Le.refl _) (by first | exact mp rfl | exact mq rfl)) (Yld.loadN 2 T rfl rfl rfl rfl rfl rfl rfl) ?_
  first | refine RAny.tk 7 (bl 16 171) rfl (by kernel_rfl) (by decide) (fun W h => h.holds (Le.refl _) (by first | exact mp rfl | exact mq rfl)) (Yld.loadN 0 T rfl rfl rfl rfl rfl rfl rfl) ?_ | refine RAny.tk 7 (bl 16 171) rfl (by kernel_rfl) (by decide) (fun W h => h.holds (Le.refl _) (by first | exact mp rfl | exact mq rfl)) (Yld.loadN 1 T rfl rfl rfl rfl rfl rfl rfl) ?_ | refine RAny.tk 7 (bl 16 171) rfl (by kernel_rfl) (by decide) (fun W h => h.holds (Le.refl _) (by first | exact mp rfl | exact mq rfl)) (Yld.loadN 2 T rfl rfl rfl rfl rfl rfl rfl) ?_
  refine RAny.tk 9 (bl 16 683) rfl (by kernel_rfl) (by decide) (fun W h => h.holds (Le.refl _) (by first | exact mp rfl | exact mq rfl)) (Yld.eval T rfl rfl) ?_
  first | refine RAny.tk 10 (bl 16 1707) rfl (by kernel_rfl) (by decide) (fun W h => h.holds (Le.refl _) (by first | exact mp rfl | exact mq rfl)) (Yld.loadN 0 T rfl rfl rfl rfl rfl rfl rfl) ?_ | refine RAny.tk 10 (bl 16 1707) rfl (by kernel_rfl) (by decide) (fun W h => h.holds (Le.refl _) (by first | exact mp rfl | exact mq rfl)) (Yld.loadN 1 T rfl rfl rfl rfl rfl rfl rfl) ?_ | refine RAny.tk 10 (bl 16 1707) rfl (by kernel_rfl) (by decide) (fun W h => h.holds (Le.refl _) (by first | exact mp rfl | exact mq rfl)) (Yld.loadN 2 T rfl rfl rfl rfl rfl rfl rfl) ?_
  first | refine RAny.tk 12 (bl 16 5803) rfl (by kernel_rfl) (by decide) (fun W h => h.holds (Le.refl _) (by first | exact mp rfl | exact mq rfl)) (Yld.loadN 0 T rfl rfl rfl rfl rfl rfl rfl) ?_ | refine RAny.tk 12 (bl 16 5803) rfl (by kernel_rfl) (by decide) (fun W h => h.holds (Le.refl _) (by first | exact mp rfl | exact mq rfl)) (Yld.loadN 1 T rfl rfl rfl rfl rfl rfl rfl) ?_ | refine RAny.tk 12 (bl 16 5803) rfl (by kernel_rfl) (by decide) (fun W h => h.holds (Le.refl _) (by first | exact mp rfl | exact mq rfl)) (Yld.loadN 2 T rfl rfl rfl rfl rfl rfl rfl) ?_
  refine RAny.on 2 (bl 16 5807) rfl (by kernel_rfl) rfl (by decide) (Eff.call (Registry_RegistryStr I ins r) Proofs.Tryz.call51 rfl fun x2 J2 l2 hx2 => ⟨fun W h => h.holds l2 (by first | exact mp rfl | exact mq rfl), ?_⟩)
  subst hx2
  refine RAny.on 4 (bl 16 5823) rfl (by kernel_rfl) rfl (by decide) (Eff.call (Repository_RepositoryStr J2 ins r p hp) Proofs.Tryz.call52 rfl fun x3 J3 k3 hx3 => ⟨fun W h => h.holds (l2.trans k3) (by first | exact mp rfl | exact mq rfl), ?_⟩)
  subst hx3
  have l3 := l2.trans k3
  refine RAny.on 6 (bl 16 5887) rfl (by kernel_rfl) rfl (by decide) (Eff.call (Repository_Name J3 ins r p hr hp hne) Proofs.Tryz.call58 rfl fun x4 J4 k4 hx4 => ⟨fun W h => h.holds (l3.trans k4) (by first | exact mp rfl | exact mq rfl), ?_⟩)
  subst hx4
  have l4 := l3.trans k4
  refine RAny.on 8 (bl 16 6143) rfl (by kernel_rfl) rfl (by decide) (Eff.call (Repository_String J4 ins r p hr hp hne) Proofs.Tryz.call59 rfl fun x5 J5 k5 hx5 => ⟨fun W h => h.holds (l4.trans k5) (by first | exact mp rfl | exact mq rfl), ?_⟩)
  subst hx5
  have l5 := l4.trans k5
  refine RAny.on 11 (bl 16 8191) rfl (by kernel_rfl) rfl (by decide) (Eff.call (Registry_Scheme J5 ins r hr) Proofs.Tryz.call56 rfl fun x6 J6 k6 hx6 => ⟨fun W h => h.holds (l5.trans k6) (by first | exact mp rfl | exact mq rfl), ?_⟩)
  subst hx6
  have l6 := l5.trans k6
  refine RAny.on 13 (bl 16 16383) rfl (by kernel_rfl) rfl (by decide) (Eff.call (Repository_Scope J6 ins r p hp) Proofs.Tryz.call65 rfl fun x7 J7 k7 hx7 => ⟨fun W h => h.holds (l6.trans k7) (by first | exact mp rfl | exact mq rfl), ?_⟩)
  subst hx7
  have l7 := l6.trans k7
  skip
  refine RAny.tk 14 (bl 16 32767) rfl (by kernel_rfl) (by decide) (fun W h => h.holds l7 (by first | exact mp rfl | exact mq rfl)) (Yld.buildL bd26 rfl rfl rfl) ?_
  refine RAny.os 15 (bl 16 65535) rfl (by kernel_rfl) rfl (Eff.store 0 rfl rfl rfl rfl (T.sizeOk rfl) rfl (Nat.le_of_ble_eq_true rfl) rfl rfl ⟨fun W h => h.holds l7 (by first | exact mp rfl | exact mq rfl), ?_⟩)
  refine RAny.done _ (by kernel_rfl) ?_
  skip
  refine Run.retC T 0 (by rw [hCf]; exact Proofs.Tryz.func29) Proofs.Tryz.results29 rfl rfl rfl rfl rfl rfl (hR _ _ _ ?_)
  exact ⟨rfl, rfl⟩
end Go.V
/-
  What tags and digests tell, all of it.
-/
namespace Go.V
open Go.RowKit
set_option linter.unusedVariables false
set_option linter.unusedSimpArgs false
set_option maxRecDepth 10000
attribute [local irreducible] Run Ops
set_option maxHeartbeats 4000000 in
theorem impl_tagNamed (I : Imm) (ins : Bool) (r p t s : Tx) (hr : r.length ≤ 1099511627776) (hp : p.length ≤ 1099511627776) (ht : t.length ≤ 1099511627776) (hne : r ≠ []) : Pure Proofs.Tryz.prog 24 [.agg [.bool ins, str r, str p, str t, str s].toArray] I fun w J => w = .agg (nmd (ins || pHttp r) 3 r (fullP r p) t s).cs.toArray := by
  refine Spec.enter 33 [(0, _)] Proofs.Tryz.func24 rfl Proofs.Tryz.ntmps24 (by simp) rfl ?_
  intro C hCf hR hCI
  repeat (first | refine Run.seq ?_ | refine Run.region ?_)
  refine Ops.box rfl (by decide) rfl rfl (fun b => ?_)
  refine Ops.alloc rfl (by decide) (T.zeroOk rfl) rfl (fun b2 => ?_)
  repeat (first | refine Run.seq ?_ | refine Run.region ?_ | refine Ops.nil ?_ | refine Ops.loadN 1 rfl (by decide) rfl rfl (T.aggOk rfl) (T.sizeOk rfl) rfl rfl ?_)
  refine Ops.call ((Tag_Context I ins r p t s)) rfl (by decide) Proofs.Tryz.call50 rfl ?_
  rintro _ J1 k1 rfl
  refine Ops.alloc rfl (by decide) (T.zeroOk rfl) rfl (fun b3 => ?_)
  repeat (first | refine Run.seq ?_ | refine Ops.nil ?_ | refine Ops.store 0 rfl rfl rfl rfl rfl (T.sizeOk rfl) rfl (Nat.le_of_ble_eq_true rfl) rfl rfl ?_)
  refine Run.perm (List.Perm.swap _ _ _) ?_
  have l1 := Le.refl J1
  refine Run.regionAny (Holds J1 [(b3, blk [.bool ins, str r, str p] 54), (b, blk [.bool ins, str r, str p, str t, str s] 56)]) (bl 28 0) (by kernel_rfl) (by kernel_rfl) ?_
  refine RAny.tk 0 (bl 28 1) rfl (by kernel_rfl) (by decide) (fun W h => h.holds (Le.refl _) (by first | exact mp rfl | exact mq rfl)) (Yld.eval T rfl rfl) ?_
  refine RAny.tk 1 (bl 28 3) rfl (by kernel_rfl) (by decide) (fun W h => h.holds (Le.refl _) (by first | exact mp rfl | exact mq rfl)) (Yld.eval T rfl rfl) ?_
  first | refine RAny.tk 2 (bl 28 7) rfl (by kernel_rfl) (by decide) (fun W h => h.holds (Le.refl _) (by first | exact mp rfl | exact mq rfl)) (Yld.loadN 0 T rfl rfl rfl rfl rfl rfl rfl) ?_ | refine RAny.tk 2 (bl 28 7) rfl (by kernel_rfl) (by decide) (fun W h => h.holds (Le.refl _) (by first | exact mp rfl | exact mq rfl)) (Yld.loadN 1 T rfl rfl rfl rfl rfl rfl rfl) ?_ | refine RAny.tk 2 (bl 28 7) rfl (by kernel_rfl) (by decide) (fun W h => h.holds (Le.refl _) (by first | exact mp rfl | exact mq rfl)) (Yld.loadN 2 T rfl rfl rfl rfl rfl rfl rfl) ?_
  refine RAny.tk 4 (bl 28 23) rfl (by kernel_rfl) (by decide) (fun W h => h.holds (Le.refl _) (by first | exact mp rfl | exact mq rfl)) (Yld.eval T rfl rfl) ?_
  first | refine RAny.tk 5 (bl 28 55) rfl (by kernel_rfl) (by decide) (fun W h => h.holds (Le.refl _) (by first | exact mp rfl | exact mq rfl)) (Yld.loadN 0 T rfl rfl rfl rfl rfl rfl rfl) ?_ | refine RAny.tk 5 (bl 28 55) rfl (by kernel_rfl) (by decide) (fun W h => h.holds (Le.refl _) (by first | exact mp rfl | exact mq rfl)) (Yld.loadN 1 T rfl rfl rfl rfl rfl rfl rfl) ?_ | refine RAny.tk 5 (bl 28 55) rfl (by kernel_rfl) (by decide) (fun W h => h.holds (Le.refl _) (by first | exact mp rfl | exact mq rfl)) (Yld.loadN 2 T rfl rfl rfl rfl rfl rfl rfl) ?_
  first | refine RAny.tk 7 (bl 28 183) rfl (by kernel_rfl) (by decide) (fun W h => h.holds (Le.refl _) (by first | exact mp rfl | exact mq rfl)) (Yld.loadN 0 T rfl rfl rfl rfl rfl rfl rfl) ?_ | refine RAny.tk 7 (bl 28 183) rfl (by kernel_rfl) (by decide) (fun W h => h.holds (Le.refl _) (by first | exact mp rfl | exact mq rfl)) (Yld.loadN 1 T rfl rfl rfl rfl rfl rfl rfl) ?_ | refine RAny.tk 7 (bl 28 183) rfl (by kernel_rfl) (by decide) (fun W h => h.holds (Le.refl _) (by first | exact mp rfl | exact mq rfl)) (Yld.loadN 2 T rfl rfl rfl rfl rfl rfl rfl) ?_
  first | refine RAny.tk 9 (bl 28 695) rfl (by kernel_rfl) (by decide) (fun W h => h.holds (Le.refl _) (by first | exact mp rfl | exact mq rfl)) (Yld.loadN 0 T rfl rfl rfl rfl rfl rfl rfl) ?_ | refine RAny.tk 9 (bl 28 695) rfl (by kernel_rfl) (by decide) (fun W h => h.holds (Le.refl _) (by first | exact mp rfl | exact mq rfl)) (Yld.loadN 1 T rfl rfl rfl rfl rfl rfl rfl) ?_ | refine RAny.tk 9 (bl 28 695) rfl (by kernel_rfl) (by decide) (fun W h => h.holds (Le.refl _) (by first | exact mp rfl | exact mq rfl)) (Yld.loadN 2 T rfl rfl rfl rfl rfl rfl rfl) ?_
  first | refine RAny.tk 11 (bl 28 2743) rfl (by kernel_rfl) (by decide) (fun W h => h.holds (Le.refl _) (by first | exact mp rfl | exact mq rfl)) (Yld.loadN 0 T rfl rfl rfl rfl rfl rfl rfl) ?_ | refine RAny.tk 11 (bl 28 2743) rfl (by kernel_rfl) (by decide) (fun W h => h.holds (Le.refl _) (by first | exact mp rfl | exact mq rfl)) (Yld.loadN 1 T rfl rfl rfl rfl rfl rfl rfl) ?_ | refine RAny.tk 11 (bl 28 2743) rfl (by kernel_rfl) (by decide) (fun W h => h.holds (Le.refl _) (by first | exact mp rfl | exact mq rfl)) (Yld.loadN 2 T rfl rfl rfl rfl rfl rfl rfl) ?_
  refine RAny.tk 13 (bl 28 10935) rfl (by kernel_rfl) (by decide) (fun W h => h.holds (Le.refl _) (by first | exact mp rfl | exact mq rfl)) (Yld.eval T rfl rfl) ?_
  refine RAny.tk 14 (bl 28 27319) rfl (by kernel_rfl) (by decide) (fun W h => h.holds (Le.refl _) (by first | exact mp rfl | exact mq rfl)) (Yld.eval T rfl rfl) ?_
  first | refine RAny.tk 15 (bl 28 60087) rfl (by kernel_rfl) (by decide) (fun W h => h.holds (Le.refl _) (by first | exact mp rfl | exact mq rfl)) (Yld.loadN 0 T rfl rfl rfl rfl rfl rfl rfl) ?_ | refine RAny.tk 15 (bl 28 60087) rfl (by kernel_rfl) (by decide) (fun W h => h.holds (Le.refl _) (by first | exact mp rfl | exact mq rfl)) (Yld.loadN 1 T rfl rfl rfl rfl rfl rfl rfl) ?_ | refine RAny.tk 15 (bl 28 60087) rfl (by kernel_rfl) (by decide) (fun W h => h.holds (Le.refl _) (by first | exact mp rfl | exact mq rfl)) (Yld.loadN 2 T rfl rfl rfl rfl rfl rfl rfl) ?_
  first | refine RAny.tk 17 (bl 28 191159) rfl (by kernel_rfl) (by decide) (fun W h => h.holds (Le.refl _) (by first | exact mp rfl | exact mq rfl)) (Yld.loadN 0 T rfl rfl rfl rfl rfl rfl rfl) ?_ | refine RAny.tk 17 (bl 28 191159) rfl (by kernel_rfl) (by decide) (fun W h => h.holds (Le.refl _) (by first | exact mp rfl | exact mq rfl)) (Yld.loadN 1 T rfl rfl rfl rfl rfl rfl rfl) ?_ | refine RAny.tk 17 (bl 28 191159) rfl (by kernel_rfl) (by decide) (fun W h => h.holds (Le.refl _) (by first | exact mp rfl | exact mq rfl)) (Yld.loadN 2 T rfl rfl rfl rfl rfl rfl rfl) ?_
  first | refine RAny.tk 19 (bl 28 715447) rfl (by kernel_rfl) (by decide) (fun W h => h.holds (Le.refl _) (by first | exact mp rfl | exact mq rfl)) (Yld.loadN 0 T rfl rfl rfl rfl rfl rfl rfl) ?_ | refine RAny.tk 19 (bl 28 715447) rfl (by kernel_rfl) (by decide) (fun W h => h.holds (Le.refl _) (by first | exact mp rfl | exact mq rfl)) (Yld.loadN 1 T rfl rfl rfl rfl rfl rfl rfl) ?_ | refine RAny.tk 19 (bl 28 715447) rfl (by kernel_rfl) (by decide) (fun W h => h.holds (Le.refl _) (by first | exact mp rfl | exact mq rfl)) (Yld.loadN 2 T rfl rfl rfl rfl rfl rfl rfl) ?_
  first | refine RAny.tk 21 (bl 28 2812599) rfl (by kernel_rfl) (by decide) (fun W h => h.holds (Le.refl _) (by first | exact mp rfl | exact mq rfl)) (Yld.loadN 0 T rfl rfl rfl rfl rfl rfl rfl) ?_ | refine RAny.tk 21 (bl 28 2812599) rfl (by kernel_rfl) (by decide) (fun W h => h.holds (Le.refl _) (by first | exact mp rfl | exact mq rfl)) (Yld.loadN 1 T rfl rfl rfl rfl rfl rfl rfl) ?_ | refine RAny.tk 21 (bl 28 2812599) rfl (by kernel_rfl) (by decide) (fun W h => h.holds (Le.refl _) (by first | exact mp rfl | exact mq rfl)) (Yld.loadN 2 T rfl rfl rfl rfl rfl rfl rfl) ?_
  refine RAny.tk 23 (bl 28 11201207) rfl (by kernel_rfl) (by decide) (fun W h => h.holds (Le.refl _) (by first | exact mp rfl | exact mq rfl)) (Yld.eval T rfl rfl) ?_
  first | refine RAny.tk 24 (bl 28 27978423) rfl (by kernel_rfl) (by decide) (fun W h => h.holds (Le.refl _) (by first | exact mp rfl | exact mq rfl)) (Yld.loadN 0 T rfl rfl rfl rfl rfl rfl rfl) ?_ | refine RAny.tk 24 (bl 28 27978423) rfl (by kernel_rfl) (by decide) (fun W h => h.holds (Le.refl _) (by first | exact mp rfl | exact mq rfl)) (Yld.loadN 1 T rfl rfl rfl rfl rfl rfl rfl) ?_ | refine RAny.tk 24 (bl 28 27978423) rfl (by kernel_rfl) (by decide) (fun W h => h.holds (Le.refl _) (by first | exact mp rfl | exact mq rfl)) (Yld.loadN 2 T rfl rfl rfl rfl rfl rfl rfl) ?_
  refine RAny.on 3 (bl 28 27978431) rfl (by kernel_rfl) rfl (by decide) (Eff.call (Registry_RegistryStr J1 ins r) Proofs.Tryz.call51 rfl fun x K2 k2 hx => ⟨fun W h => h.holds (l1.trans k2) (by first | exact mp rfl | exact mq rfl), ?_⟩)
  subst hx
  have l2 := l1.trans k2
  refine RAny.on 6 (bl 28 27978495) rfl (by kernel_rfl) rfl (by decide) (Eff.call (Repository_RepositoryStr K2 ins r p hp) Proofs.Tryz.call52 rfl fun x K3 k3 hx => ⟨fun W h => h.holds (l2.trans k3) (by first | exact mp rfl | exact mq rfl), ?_⟩)
  subst hx
  have l3 := l2.trans k3
  refine RAny.on 8 (bl 28 27978751) rfl (by kernel_rfl) rfl (by decide) (Eff.call (Tag_TagStr K3 ins r p t s) Proofs.Tryz.call53 rfl fun x K4 k4 hx => ⟨fun W h => h.holds (l3.trans k4) (by first | exact mp rfl | exact mq rfl), ?_⟩)
  subst hx
  have l4 := l3.trans k4
  refine RAny.on 10 (bl 28 27979775) rfl (by kernel_rfl) rfl (by decide) (Eff.call (Tag_Name K4 ins r p t s hr hp ht hne) Proofs.Tryz.call54 rfl fun x K5 k5 hx => ⟨fun W h => h.holds (l4.trans k5) (by first | exact mp rfl | exact mq rfl), ?_⟩)
  subst hx
  have l5 := l4.trans k5
  refine RAny.on 12 (bl 28 27983871) rfl (by kernel_rfl) rfl (by decide) (Eff.call (Tag_String K5 ins r p t s) Proofs.Tryz.call55 rfl fun x K6 k6 hx => ⟨fun W h => h.holds (l5.trans k6) (by first | exact mp rfl | exact mq rfl), ?_⟩)
  subst hx
  have l6 := l5.trans k6
  refine RAny.on 16 (bl 28 28049407) rfl (by kernel_rfl) rfl (by decide) (Eff.call (Registry_Scheme K6 ins r hr) Proofs.Tryz.call56 rfl fun x K7 k7 hx => ⟨fun W h => h.holds (l6.trans k7) (by first | exact mp rfl | exact mq rfl), ?_⟩)
  subst hx
  have l7 := l6.trans k7
  refine RAny.on 18 (bl 28 28311551) rfl (by kernel_rfl) rfl (by decide) (Eff.call (Tag_Scope K7 ins r p t s hp) Proofs.Tryz.call57 rfl fun x K8 k8 hx => ⟨fun W h => h.holds (l7.trans k8) (by first | exact mp rfl | exact mq rfl), ?_⟩)
  subst hx
  have l8 := l7.trans k8
  refine RAny.on 20 (bl 28 29360127) rfl (by kernel_rfl) rfl (by decide) (Eff.call (Repository_Name K8 ins r p hr hp hne) Proofs.Tryz.call58 rfl fun x K9 k9 hx => ⟨fun W h => h.holds (l8.trans k9) (by first | exact mp rfl | exact mq rfl), ?_⟩)
  subst hx
  have l9 := l8.trans k9
  refine RAny.on 22 (bl 28 33554431) rfl (by kernel_rfl) rfl (by decide) (Eff.call (Repository_String K9 ins r p hr hp hne) Proofs.Tryz.call59 rfl fun x K10 k10 hx => ⟨fun W h => h.holds (l9.trans k10) (by first | exact mp rfl | exact mq rfl), ?_⟩)
  subst hx
  have l10 := l9.trans k10
  refine RAny.on 25 (bl 28 67108863) rfl (by kernel_rfl) rfl (by decide) (Eff.call (Registry_Name K10 ins r) Proofs.Tryz.call60 rfl fun x K11 k11 hx => ⟨fun W h => h.holds (l10.trans k11) (by first | exact mp rfl | exact mq rfl), ?_⟩)
  subst hx
  have l11 := l10.trans k11
  skip
  refine RAny.tk 26 (bl 28 134217727) rfl (by kernel_rfl) (by decide) (fun W h => h.holds l11 (by first | exact mp rfl | exact mq rfl)) (Yld.buildL (vs := [(0, .int .i64 3), (1, str r), (2, str (fullP r p)), (3, str t), (4, str (repoT r (fullP r p) ++ [58] ++ t)), (5, str s), (6, str (schemeT (ins || pHttp r))), (7, str (scopeT (fullP r p))), (8, str (repoT r (fullP r p))), (9, str (repoT r (fullP r p))), (10, str r)]) (cs := (Nm.mk 3 r (fullP r p) t (repoT r (fullP r p) ++ [58] ++ t) s (schemeT (ins || pHttp r)) (scopeT (fullP r p)) (repoT r (fullP r p)) (repoT r (fullP r p)) r).cs) bd26 rfl (by kernel_rfl) (by kernel_rfl)) ?_
  refine RAny.os 27 (bl 28 268435455) rfl (by kernel_rfl) rfl (Eff.store 0 rfl rfl rfl rfl (T.sizeOk rfl) rfl (Nat.le_of_ble_eq_true rfl) rfl rfl ⟨fun W h => h.holds l11 (by first | exact mp rfl | exact mq rfl), ?_⟩)
  refine RAny.done _ (by kernel_rfl) ?_
  skip
  refine Run.retC T 0 (by rw [hCf]; exact Proofs.Tryz.func24) Proofs.Tryz.results24 rfl rfl rfl rfl rfl rfl (hR _ _ _ ?_)
  exact ⟨rfl, rfl⟩
set_option maxHeartbeats 4000000 in
theorem impl_digestNamed (I : Imm) (ins : Bool) (r p t s : Tx) (hr : r.length ≤ 1099511627776) (hp : p.length ≤ 1099511627776) (ht : t.length ≤ 1099511627776) (hne : r ≠ []) : Pure Proofs.Tryz.prog 25 [.agg [.bool ins, str r, str p, str t, str s].toArray] I fun w J => w = .agg (nmd (ins || pHttp r) 4 r (fullP r p) t s).cs.toArray := by
  refine Spec.enter 34 [(0, _)] Proofs.Tryz.func25 rfl Proofs.Tryz.ntmps25 (by simp) rfl ?_
  intro C hCf hR hCI
  repeat (first | refine Run.seq ?_ | refine Run.region ?_)
  refine Ops.box rfl (by decide) rfl rfl (fun b => ?_)
  refine Ops.alloc rfl (by decide) (T.zeroOk rfl) rfl (fun b2 => ?_)
  repeat (first | refine Run.seq ?_ | refine Run.region ?_ | refine Ops.nil ?_ | refine Ops.loadN 1 rfl (by decide) rfl rfl (T.aggOk rfl) (T.sizeOk rfl) rfl rfl ?_)
  refine Ops.call ((Digest_Context I ins r p t s)) rfl (by decide) Proofs.Tryz.call61 rfl ?_
  rintro _ J1 k1 rfl
  refine Ops.alloc rfl (by decide) (T.zeroOk rfl) rfl (fun b3 => ?_)
  repeat (first | refine Run.seq ?_ | refine Ops.nil ?_ | refine Ops.store 0 rfl rfl rfl rfl rfl (T.sizeOk rfl) rfl (Nat.le_of_ble_eq_true rfl) rfl rfl ?_)
  refine Run.perm (List.Perm.swap _ _ _) ?_
  have l1 := Le.refl J1
  refine Run.regionAny (Holds J1 [(b3, blk [.bool ins, str r, str p] 54), (b, blk [.bool ins, str r, str p, str t, str s] 59)]) (bl 29 0) (by kernel_rfl) (by kernel_rfl) ?_
  refine RAny.tk 0 (bl 29 1) rfl (by kernel_rfl) (by decide) (fun W h => h.holds (Le.refl _) (by first | exact mp rfl | exact mq rfl)) (Yld.eval T rfl rfl) ?_
  refine RAny.tk 1 (bl 29 3) rfl (by kernel_rfl) (by decide) (fun W h => h.holds (Le.refl _) (by first | exact mp rfl | exact mq rfl)) (Yld.eval T rfl rfl) ?_
  first | refine RAny.tk 2 (bl 29 7) rfl (by kernel_rfl) (by decide) (fun W h => h.holds (Le.refl _) (by first | exact mp rfl | exact mq rfl)) (Yld.loadN 0 T rfl rfl rfl rfl rfl rfl rfl) ?_ | refine RAny.tk 2 (bl 29 7) rfl (by kernel_rfl) (by decide) (fun W h => h.holds (Le.refl _) (by first | exact mp rfl | exact mq rfl)) (Yld.loadN 1 T rfl rfl rfl rfl rfl rfl rfl) ?_ | refine RAny.tk 2 (bl 29 7) rfl (by kernel_rfl) (by decide) (fun W h => h.holds (Le.refl _) (by first | exact mp rfl | exact mq rfl)) (Yld.loadN 2 T rfl rfl rfl rfl rfl rfl rfl) ?_
  refine RAny.tk 4 (bl 29 23) rfl (by kernel_rfl) (by decide) (fun W h => h.holds (Le.refl _) (by first | exact mp rfl | exact mq rfl)) (Yld.eval T rfl rfl) ?_
  first | refine RAny.tk 5 (bl 29 55) rfl (by kernel_rfl) (by decide) (fun W h => h.holds (Le.refl _) (by first | exact mp rfl | exact mq rfl)) (Yld.loadN 0 T rfl rfl rfl rfl rfl rfl rfl) ?_ | refine RAny.tk 5 (bl 29 55) rfl (by kernel_rfl) (by decide) (fun W h => h.holds (Le.refl _) (by first | exact mp rfl | exact mq rfl)) (Yld.loadN 1 T rfl rfl rfl rfl rfl rfl rfl) ?_ | refine RAny.tk 5 (bl 29 55) rfl (by kernel_rfl) (by decide) (fun W h => h.holds (Le.refl _) (by first | exact mp rfl | exact mq rfl)) (Yld.loadN 2 T rfl rfl rfl rfl rfl rfl rfl) ?_
  first | refine RAny.tk 7 (bl 29 183) rfl (by kernel_rfl) (by decide) (fun W h => h.holds (Le.refl _) (by first | exact mp rfl | exact mq rfl)) (Yld.loadN 0 T rfl rfl rfl rfl rfl rfl rfl) ?_ | refine RAny.tk 7 (bl 29 183) rfl (by kernel_rfl) (by decide) (fun W h => h.holds (Le.refl _) (by first | exact mp rfl | exact mq rfl)) (Yld.loadN 1 T rfl rfl rfl rfl rfl rfl rfl) ?_ | refine RAny.tk 7 (bl 29 183) rfl (by kernel_rfl) (by decide) (fun W h => h.holds (Le.refl _) (by first | exact mp rfl | exact mq rfl)) (Yld.loadN 2 T rfl rfl rfl rfl rfl rfl rfl) ?_
  first | refine RAny.tk 9 (bl 29 695) rfl (by kernel_rfl) (by decide) (fun W h => h.holds (Le.refl _) (by first | exact mp rfl | exact mq rfl)) (Yld.loadN 0 T rfl rfl rfl rfl rfl rfl rfl) ?_ | refine RAny.tk 9 (bl 29 695) rfl (by kernel_rfl) (by decide) (fun W h => h.holds (Le.refl _) (by first | exact mp rfl | exact mq rfl)) (Yld.loadN 1 T rfl rfl rfl rfl rfl rfl rfl) ?_ | refine RAny.tk 9 (bl 29 695) rfl (by kernel_rfl) (by decide) (fun W h => h.holds (Le.refl _) (by first | exact mp rfl | exact mq rfl)) (Yld.loadN 2 T rfl rfl rfl rfl rfl rfl rfl) ?_
  first | refine RAny.tk 11 (bl 29 2743) rfl (by kernel_rfl) (by decide) (fun W h => h.holds (Le.refl _) (by first | exact mp rfl | exact mq rfl)) (Yld.loadN 0 T rfl rfl rfl rfl rfl rfl rfl) ?_ | refine RAny.tk 11 (bl 29 2743) rfl (by kernel_rfl) (by decide) (fun W h => h.holds (Le.refl _) (by first | exact mp rfl | exact mq rfl)) (Yld.loadN 1 T rfl rfl rfl rfl rfl rfl rfl) ?_ | refine RAny.tk 11 (bl 29 2743) rfl (by kernel_rfl) (by decide) (fun W h => h.holds (Le.refl _) (by first | exact mp rfl | exact mq rfl)) (Yld.loadN 2 T rfl rfl rfl rfl rfl rfl rfl) ?_
  refine RAny.tk 13 (bl 29 10935) rfl (by kernel_rfl) (by decide) (fun W h => h.holds (Le.refl _) (by first | exact mp rfl | exact mq rfl)) (Yld.eval T rfl rfl) ?_
  refine RAny.tk 14 (bl 29 27319) rfl (by kernel_rfl) (by decide) (fun W h => h.holds (Le.refl _) (by first | exact mp rfl | exact mq rfl)) (Yld.eval T rfl rfl) ?_
  first | refine RAny.tk 15 (bl 29 60087) rfl (by kernel_rfl) (by decide) (fun W h => h.holds (Le.refl _) (by first | exact mp rfl | exact mq rfl)) (Yld.loadN 0 T rfl rfl rfl rfl rfl rfl rfl) ?_ | refine RAny.tk 15 (bl 29 60087) rfl (by kernel_rfl) (by decide) (fun W h => h.holds (Le.refl _) (by first | exact mp rfl | exact mq rfl)) (Yld.loadN 1 T rfl rfl rfl rfl rfl rfl rfl) ?_ | refine RAny.tk 15 (bl 29 60087) rfl (by kernel_rfl) (by decide) (fun W h => h.holds (Le.refl _) (by first | exact mp rfl | exact mq rfl)) (Yld.loadN 2 T rfl rfl rfl rfl rfl rfl rfl) ?_
  refine RAny.tk 17 (bl 29 191159) rfl (by kernel_rfl) (by decide) (fun W h => h.holds (Le.refl _) (by first | exact mp rfl | exact mq rfl)) (Yld.eval T rfl rfl) ?_
  first | refine RAny.tk 18 (bl 29 453303) rfl (by kernel_rfl) (by decide) (fun W h => h.holds (Le.refl _) (by first | exact mp rfl | exact mq rfl)) (Yld.loadN 0 T rfl rfl rfl rfl rfl rfl rfl) ?_ | refine RAny.tk 18 (bl 29 453303) rfl (by kernel_rfl) (by decide) (fun W h => h.holds (Le.refl _) (by first | exact mp rfl | exact mq rfl)) (Yld.loadN 1 T rfl rfl rfl rfl rfl rfl rfl) ?_ | refine RAny.tk 18 (bl 29 453303) rfl (by kernel_rfl) (by decide) (fun W h => h.holds (Le.refl _) (by first | exact mp rfl | exact mq rfl)) (Yld.loadN 2 T rfl rfl rfl rfl rfl rfl rfl) ?_
  first | refine RAny.tk 20 (bl 29 1501879) rfl (by kernel_rfl) (by decide) (fun W h => h.holds (Le.refl _) (by first | exact mp rfl | exact mq rfl)) (Yld.loadN 0 T rfl rfl rfl rfl rfl rfl rfl) ?_ | refine RAny.tk 20 (bl 29 1501879) rfl (by kernel_rfl) (by decide) (fun W h => h.holds (Le.refl _) (by first | exact mp rfl | exact mq rfl)) (Yld.loadN 1 T rfl rfl rfl rfl rfl rfl rfl) ?_ | refine RAny.tk 20 (bl 29 1501879) rfl (by kernel_rfl) (by decide) (fun W h => h.holds (Le.refl _) (by first | exact mp rfl | exact mq rfl)) (Yld.loadN 2 T rfl rfl rfl rfl rfl rfl rfl) ?_
  first | refine RAny.tk 22 (bl 29 5696183) rfl (by kernel_rfl) (by decide) (fun W h => h.holds (Le.refl _) (by first | exact mp rfl | exact mq rfl)) (Yld.loadN 0 T rfl rfl rfl rfl rfl rfl rfl) ?_ | refine RAny.tk 22 (bl 29 5696183) rfl (by kernel_rfl) (by decide) (fun W h => h.holds (Le.refl _) (by first | exact mp rfl | exact mq rfl)) (Yld.loadN 1 T rfl rfl rfl rfl rfl rfl rfl) ?_ | refine RAny.tk 22 (bl 29 5696183) rfl (by kernel_rfl) (by decide) (fun W h => h.holds (Le.refl _) (by first | exact mp rfl | exact mq rfl)) (Yld.loadN 2 T rfl rfl rfl rfl rfl rfl rfl) ?_
  refine RAny.tk 24 (bl 29 22473399) rfl (by kernel_rfl) (by decide) (fun W h => h.holds (Le.refl _) (by first | exact mp rfl | exact mq rfl)) (Yld.eval T rfl rfl) ?_
  first | refine RAny.tk 25 (bl 29 56027831) rfl (by kernel_rfl) (by decide) (fun W h => h.holds (Le.refl _) (by first | exact mp rfl | exact mq rfl)) (Yld.loadN 0 T rfl rfl rfl rfl rfl rfl rfl) ?_ | refine RAny.tk 25 (bl 29 56027831) rfl (by kernel_rfl) (by decide) (fun W h => h.holds (Le.refl _) (by first | exact mp rfl | exact mq rfl)) (Yld.loadN 1 T rfl rfl rfl rfl rfl rfl rfl) ?_ | refine RAny.tk 25 (bl 29 56027831) rfl (by kernel_rfl) (by decide) (fun W h => h.holds (Le.refl _) (by first | exact mp rfl | exact mq rfl)) (Yld.loadN 2 T rfl rfl rfl rfl rfl rfl rfl) ?_
  refine RAny.on 3 (bl 29 56027839) rfl (by kernel_rfl) rfl (by decide) (Eff.call (Registry_RegistryStr J1 ins r) Proofs.Tryz.call51 rfl fun x K2 k2 hx => ⟨fun W h => h.holds (l1.trans k2) (by first | exact mp rfl | exact mq rfl), ?_⟩)
  subst hx
  have l2 := l1.trans k2
  refine RAny.on 6 (bl 29 56027903) rfl (by kernel_rfl) rfl (by decide) (Eff.call (Repository_RepositoryStr K2 ins r p hp) Proofs.Tryz.call52 rfl fun x K3 k3 hx => ⟨fun W h => h.holds (l2.trans k3) (by first | exact mp rfl | exact mq rfl), ?_⟩)
  subst hx
  have l3 := l2.trans k3
  refine RAny.on 8 (bl 29 56028159) rfl (by kernel_rfl) rfl (by decide) (Eff.call (Digest_DigestStr K3 ins r p t s) Proofs.Tryz.call62 rfl fun x K4 k4 hx => ⟨fun W h => h.holds (l3.trans k4) (by first | exact mp rfl | exact mq rfl), ?_⟩)
  subst hx
  have l4 := l3.trans k4
  refine RAny.on 10 (bl 29 56029183) rfl (by kernel_rfl) rfl (by decide) (Eff.call (Digest_Name K4 ins r p t s hr hp ht hne) Proofs.Tryz.call63 rfl fun x K5 k5 hx => ⟨fun W h => h.holds (l4.trans k5) (by first | exact mp rfl | exact mq rfl), ?_⟩)
  subst hx
  have l5 := l4.trans k5
  refine RAny.on 12 (bl 29 56033279) rfl (by kernel_rfl) rfl (by decide) (Eff.call (Digest_String K5 ins r p t s) Proofs.Tryz.call64 rfl fun x K6 k6 hx => ⟨fun W h => h.holds (l5.trans k6) (by first | exact mp rfl | exact mq rfl), ?_⟩)
  subst hx
  have l6 := l5.trans k6
  refine RAny.on 16 (bl 29 56098815) rfl (by kernel_rfl) rfl (by decide) (Eff.call (Registry_Scheme K6 ins r hr) Proofs.Tryz.call56 rfl fun x K7 k7 hx => ⟨fun W h => h.holds (l6.trans k7) (by first | exact mp rfl | exact mq rfl), ?_⟩)
  subst hx
  have l7 := l6.trans k7
  refine RAny.on 19 (bl 29 56623103) rfl (by kernel_rfl) rfl (by decide) (Eff.call (Repository_Scope K7 ins r p hp) Proofs.Tryz.call65 rfl fun x K8 k8 hx => ⟨fun W h => h.holds (l7.trans k8) (by first | exact mp rfl | exact mq rfl), ?_⟩)
  subst hx
  have l8 := l7.trans k8
  refine RAny.on 21 (bl 29 58720255) rfl (by kernel_rfl) rfl (by decide) (Eff.call (Repository_Name K8 ins r p hr hp hne) Proofs.Tryz.call58 rfl fun x K9 k9 hx => ⟨fun W h => h.holds (l8.trans k9) (by first | exact mp rfl | exact mq rfl), ?_⟩)
  subst hx
  have l9 := l8.trans k9
  refine RAny.on 23 (bl 29 67108863) rfl (by kernel_rfl) rfl (by decide) (Eff.call (Repository_String K9 ins r p hr hp hne) Proofs.Tryz.call59 rfl fun x K10 k10 hx => ⟨fun W h => h.holds (l9.trans k10) (by first | exact mp rfl | exact mq rfl), ?_⟩)
  subst hx
  have l10 := l9.trans k10
  refine RAny.on 26 (bl 29 134217727) rfl (by kernel_rfl) rfl (by decide) (Eff.call (Registry_Name K10 ins r) Proofs.Tryz.call60 rfl fun x K11 k11 hx => ⟨fun W h => h.holds (l10.trans k11) (by first | exact mp rfl | exact mq rfl), ?_⟩)
  subst hx
  have l11 := l10.trans k11
  skip
  refine RAny.tk 27 (bl 29 268435455) rfl (by kernel_rfl) (by decide) (fun W h => h.holds l11 (by first | exact mp rfl | exact mq rfl)) (Yld.buildL (vs := [(0, .int .i64 4), (1, str r), (2, str (fullP r p)), (3, str t), (4, str (repoT r (fullP r p) ++ [64] ++ t)), (5, str s), (6, str (schemeT (ins || pHttp r))), (7, str (scopeT (fullP r p))), (8, str (repoT r (fullP r p))), (9, str (repoT r (fullP r p))), (10, str r)]) (cs := (Nm.mk 4 r (fullP r p) t (repoT r (fullP r p) ++ [64] ++ t) s (schemeT (ins || pHttp r)) (scopeT (fullP r p)) (repoT r (fullP r p)) (repoT r (fullP r p)) r).cs) bd26 rfl (by kernel_rfl) (by kernel_rfl)) ?_
  refine RAny.os 28 (bl 29 536870911) rfl (by kernel_rfl) rfl (Eff.store 0 rfl rfl rfl rfl (T.sizeOk rfl) rfl (Nat.le_of_ble_eq_true rfl) rfl rfl ⟨fun W h => h.holds l11 (by first | exact mp rfl | exact mq rfl), ?_⟩)
  refine RAny.done _ (by kernel_rfl) ?_
  skip
  refine Run.retC T 0 (by rw [hCf]; exact Proofs.Tryz.func25) Proofs.Tryz.results25 rfl rfl rfl rfl rfl rfl (hR _ _ _ ?_)
  exact ⟨rfl, rfl⟩
end Go.V
/-
  References; errors told.
-/
namespace Go.V
open Go.RowKit
set_option linter.unusedVariables false
set_option linter.unusedSimpArgs false
set_option maxRecDepth 10000
attribute [local irreducible] Run Ops
def refRes (ins : Bool) (s : Tx) (a : Option (Bool × Tx × Tx × Tx)) (w : Value) : Prop := match a with
  | some (true, x) => w = .tuple #[.iface 59 (.agg #[.bool ins, str x.1, str x.2.1, str x.2.2, str s]), .nilIface]
  | some (false, x) => w = .tuple #[.iface 56 (.agg #[.bool ins, str x.1, str x.2.1, str x.2.2, str s]), .nilIface]
  | none => ∃ b, w = .tuple #[.nilIface, errV b]
set_option maxHeartbeats 4000000 in
theorem name_ParseReference (I : Imm) (s : Tx) (v : Value) (o : NOpt) (hro : regOk o.reg) (ho : OptsAre I v o) (hs : s.length ≤ 137438953472) (hrl : o.reg.length ≤ 4294967296) : Pure Proofs.Tryz.prog 21 [str s, v] I fun w J =>
    ∃ a, refRes o.ins s a w ∧ RefAns o s a ∧ ∀ x, a = some x → partsOk s o x.2 := by
  obtain ⟨st, ins, reg, tag⟩ := o
  refine Spec.enter 46 [(0, _), (1, _)] Proofs.Tryz.func21 rfl Proofs.Tryz.ntmps21 (by simp) rfl ?_
  intro C hCf hR hCI
  repeat (first | refine Run.seq ?_ | refine Run.region ?_ | refine Ops.nil ?_ | refine Ops.pure T rfl (by decide) rfl ?_)
  refine Ops.call ((strings_HasPrefix s [104, 116, 116, 112, 58, 47, 47] I (by omega) (by decide))) rfl (by decide) Proofs.Tryz.call43 rfl ?_
  rintro _ J1 l1 rfl
  repeat (first | refine Ops.pure T rfl (by decide) rfl ?_)
  cases h1 : starts [104, 116, 116, 112, 58, 47, 47] s with
  | true =>
    repeat (first | refine Run.seq ?_ | refine Run.region ?_ | refine Ops.nil ?_ | refine Run.cond_t rfl ?_ | refine Ops.not rfl (by decide) ?_ | refine Ops.pure T rfl (by decide) rfl ?_)
    refine Ops.lit T rfl rfl rfl (by decide) rfl (by decide) (by decide) rfl rfl rfl rfl rfl (fun b3 => ?_)
    refine Ops.call ((name_newErrBadName _ _ _)) rfl (by decide) Proofs.Tryz.call44 rfl ?_
    rintro _ J6 l6 ⟨b4, rfl⟩
    repeat (first | refine Ops.nil ?_ | refine Ops.pure T rfl (by decide) rfl ?_)
    refine Run.fin (Run.ret2 (by rw [hCf]; exact Proofs.Tryz.func21) Proofs.Tryz.results21 rfl rfl (hR _ _ _ ?_))
    exact ⟨rfl, none, ⟨b4, rfl⟩, RefAns.http (starts_pre (.inl h1)), fun x h => by cases h⟩
  | false =>
  repeat (first | refine Ops.pure T rfl (by decide) rfl ?_)
  refine Ops.call ((strings_HasPrefix s [104, 116, 116, 112, 115, 58, 47, 47] J1 (by omega) (by decide))) rfl (by decide) Proofs.Tryz.call43 rfl ?_
  rintro _ J2 l2 rfl
  repeat (first | refine Ops.nil ?_ | refine Ops.pure T rfl (by decide) rfl ?_)
  cases h2 : starts [104, 116, 116, 112, 115, 58, 47, 47] s with
  | true =>
    repeat (first | refine Run.seq ?_ | refine Run.region ?_ | refine Run.cond_t rfl ?_ | refine Ops.pure T rfl (by decide) rfl ?_)
    refine Ops.lit T rfl rfl rfl (by decide) rfl (by decide) (by decide) rfl rfl rfl rfl rfl (fun b3 => ?_)
    refine Ops.call ((name_newErrBadName _ _ _)) rfl (by decide) Proofs.Tryz.call44 rfl ?_
    rintro _ J6 l6 ⟨b4, rfl⟩
    repeat (first | refine Ops.nil ?_ | refine Ops.pure T rfl (by decide) rfl ?_)
    refine Run.fin (Run.ret2 (by rw [hCf]; exact Proofs.Tryz.func21) Proofs.Tryz.results21 rfl rfl (hR _ _ _ ?_))
    exact ⟨rfl, none, ⟨b4, rfl⟩, RefAns.http (starts_pre (.inr h2)), fun x h => by cases h⟩
  | false =>
  repeat (first | refine Run.seq ?_ | refine Run.region ?_ | refine Run.skip ?_ | refine Run.cond_f rfl ?_ | refine Ops.pure T rfl (by decide) rfl ?_)
  have ho2 := ho.mono (l1.trans l2)
  refine Ops.call ((name_NewTag J2 s v ⟨st, ins, reg, tag⟩ ho2 (by omega))) rfl (by decide) Proofs.Tryz.call30 rfl ?_
  rintro w J5 l5 ⟨at_, hres, hans, hlen⟩
  have ho5 := ho2.mono l5
  cases at_ with
  | some x =>
    have hres2 : w = _ := hres
    subst hres2
    obtain ⟨q1, q2, q3, q4⟩ := hlen x rfl
    simp only at q2 q4
    repeat (first | refine Ops.pure T rfl (by decide) rfl ?_)
    refine Ops.alloc rfl (by decide) (T.zeroOk rfl) rfl (fun b6 => ?_)
    repeat (first | refine Run.seq ?_ | refine Run.region ?_ | refine Ops.nil ?_ | refine Run.cond_t rfl ?_ | refine Ops.eqlNil T rfl (by decide) rfl rfl rfl rfl rfl ?_ | refine Ops.pure T rfl (by decide) rfl ?_ | refine Ops.loadN 0 rfl (by decide) rfl rfl (T.aggOk rfl) (T.sizeOk rfl) rfl rfl ?_ | refine Ops.store 0 rfl rfl rfl rfl rfl (T.sizeOk rfl) rfl (Nat.le_of_ble_eq_true rfl) rfl rfl ?_)
    refine Run.fin (Run.ret2 (by rw [hCf]; exact Proofs.Tryz.func21) Proofs.Tryz.results21 rfl rfl (hR _ _ _ ?_))
    refine ⟨rfl, some (false, x), rfl, RefAns.tag hans, fun y h => ?_⟩
    cases h
    unfold partsOk big
    refine ⟨q1, ?_, ?_, ?_⟩ <;> simp only <;> omega
  | none =>
    obtain ⟨b5, rfl⟩ := hres
    unfold errV
    repeat (first | refine Ops.pure T rfl (by decide) rfl ?_)
    refine Ops.alloc rfl (by decide) (T.zeroOk rfl) rfl (fun b6 => ?_)
    repeat (first | refine Run.seq ?_ | refine Run.region ?_ | refine Ops.nil ?_ | refine Run.skip ?_ | refine Run.cond_f rfl ?_ | refine Ops.eqlNil T rfl (by decide) rfl rfl rfl rfl rfl ?_ | refine Ops.pure T rfl (by decide) rfl ?_ | refine Ops.store 0 rfl rfl rfl rfl rfl (T.sizeOk rfl) rfl (Nat.le_of_ble_eq_true rfl) rfl rfl ?_)
    refine Ops.call ((name_NewDigest J5 s v ⟨st, ins, reg, tag⟩ hro ho5 hs hrl)) rfl (by decide) Proofs.Tryz.call31 rfl ?_
    rintro w J7 l7 ⟨ad, hres7, hans7, hlen7⟩
    cases ad with
    | some x =>
      have hres8 : w = _ := hres7
      subst hres8
      repeat (first | refine Ops.pure T rfl (by decide) rfl ?_)
      refine Ops.alloc rfl (by decide) (T.zeroOk rfl) rfl (fun b7 => ?_)
      repeat (first | refine Run.seq ?_ | refine Run.region ?_ | refine Ops.nil ?_ | refine Run.cond_t rfl ?_ | refine Ops.eqlNil T rfl (by decide) rfl rfl rfl rfl rfl ?_ | refine Ops.pure T rfl (by decide) rfl ?_ | refine Ops.loadN 0 rfl (by decide) rfl rfl (T.aggOk rfl) (T.sizeOk rfl) rfl rfl ?_ | refine Ops.store 0 rfl rfl rfl rfl rfl (T.sizeOk rfl) rfl (Nat.le_of_ble_eq_true rfl) rfl rfl ?_)
      refine Run.fin (Run.ret2 (by rw [hCf]; exact Proofs.Tryz.func21) Proofs.Tryz.results21 rfl rfl (hR _ _ _ ?_))
      exact ⟨rfl, some (true, x), rfl, RefAns.dig hans hans7, fun y h => by cases h; exact hlen7 x rfl⟩
    | none =>
      obtain ⟨b8, rfl⟩ := hres7
      unfold errV
      repeat (first | refine Ops.pure T rfl (by decide) rfl ?_)
      refine Ops.alloc rfl (by decide) (T.zeroOk rfl) rfl (fun b7 => ?_)
      repeat (first | refine Run.seq ?_ | refine Run.region ?_ | refine Ops.nil ?_ | refine Run.skip ?_ | refine Run.cond_f rfl ?_ | refine Ops.eqlNil T rfl (by decide) rfl rfl rfl rfl rfl ?_ | refine Ops.pure T rfl (by decide) rfl ?_ | refine Ops.store 0 rfl rfl rfl rfl rfl (T.sizeOk rfl) rfl (Nat.le_of_ble_eq_true rfl) rfl rfl ?_)
      refine Ops.lit T rfl rfl rfl (by decide) rfl (by decide) (by decide) rfl rfl rfl rfl rfl (fun b3 => ?_)
      refine Ops.call ((name_newErrBadName _ _ _)) rfl (by decide) Proofs.Tryz.call44 rfl ?_
      rintro _ J6 l6 ⟨b4, rfl⟩
      repeat (first | refine Ops.nil ?_ | refine Ops.pure T rfl (by decide) rfl ?_)
      refine Run.fin (Run.ret2 (by rw [hCf]; exact Proofs.Tryz.func21) Proofs.Tryz.results21 rfl rfl (hR _ _ _ ?_))
      exact ⟨rfl, none, ⟨b4, rfl⟩, RefAns.no hans hans7, fun x h => by cases h⟩
theorem name_IsErrBadName (I : Imm) (b : Nat) : Pure Proofs.Tryz.prog 49 [errV b] I fun w J => w = .bool true := by
  unfold errV
  refine Spec.enter 11 [(0, _)] Proofs.Tryz.func49 rfl Proofs.Tryz.ntmps49 (by simp) rfl ?_
  intro C hCf hR hCI
  repeat (first | refine Run.seq ?_ | refine Run.region ?_ | refine Ops.nil ?_ | refine Ops.pure T rfl (by decide) rfl ?_)
  refine Ops.assertYes T rfl (by decide) rfl rfl rfl ?_
  repeat (first | refine Run.seq ?_ | refine Run.region ?_ | refine Ops.nil ?_ | refine Ops.pure T rfl (by decide) rfl ?_)
  refine Run.fin (Run.ret1 (by rw [hCf]; exact Proofs.Tryz.func49) Proofs.Tryz.results49 rfl (hR _ _ _ ?_))
  exact ⟨rfl, rfl⟩
theorem impl_bad (I : Imm) (b : Nat) : Pure Proofs.Tryz.prog 23 [errV b] I fun w J => w = .tuple #[.agg Nm.zero.cs.toArray, .bool false, .bool true] := by
  unfold errV
  refine Spec.enter 8 [(0, _)] Proofs.Tryz.func23 rfl Proofs.Tryz.ntmps23 (by simp) rfl ?_
  intro C hCf hR hCI
  repeat (first | refine Run.seq ?_ | refine Run.region ?_)
  refine Ops.alloc rfl (by decide) (T.zeroOk rfl) rfl (fun b2 => ?_)
  repeat (first | refine Run.seq ?_ | refine Run.region ?_ | refine Ops.nil ?_ | refine Ops.pure T rfl (by decide) rfl ?_)
  refine Ops.buildL bd26 rfl (by decide) rfl rfl ?_
  repeat (first | refine Ops.pure T rfl (by decide) rfl ?_)
  refine Ops.call ((name_IsErrBadName I b)) rfl (by decide) Proofs.Tryz.call49 rfl ?_
  rintro _ J l rfl
  repeat (first | refine Ops.nil ?_ | refine Ops.pure T rfl (by decide) rfl ?_ | refine Ops.store 0 rfl rfl rfl rfl rfl (T.sizeOk rfl) rfl (Nat.le_of_ble_eq_true rfl) rfl rfl ?_)
  refine Run.retCTT T 0 (by rw [hCf]; exact Proofs.Tryz.func23) Proofs.Tryz.results23 rfl rfl rfl rfl rfl rfl rfl rfl (hR _ _ _ ?_)
  exact ⟨rfl, rfl⟩
theorem meth_tag_id (x : Value) (w : World) : (callMethod (.iface 56 x) "Identifier" #[]).run Proofs.Tryz.prog w = .ok (.enter 137 #[x]) w := by kernel_rfl
end Go.V
