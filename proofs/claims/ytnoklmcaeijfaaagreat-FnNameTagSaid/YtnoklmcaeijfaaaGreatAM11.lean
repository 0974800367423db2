import Derived.Test.YtnoklmcaeijfaaaGreatAM10
/-
  A name read, as the document's function does.
-/
namespace Go.V
open Go.RowKit
set_option linter.unusedVariables false
set_option linter.unusedSimpArgs false
set_option maxRecDepth 10000
attribute [local irreducible] Run Ops
theorem spec_registryOf' (I : Imm) (s : Tx) (st ins : Bool) (reg tag : Tx) (hs : s.length ≤ 1099511627776) {r : Tx} {ok op : Bool} (hx : sReg st reg s = (r, ok, op)) : Pure Proofs.Tryz.prog 32 [str s, .agg (NOpt.mk st ins reg tag).cs.toArray] I fun w J => w = .tuple #[str r, .bool ok, .bool op] := by
  have h := spec_registryOf I s ⟨st, ins, reg, tag⟩ hs
  rw [show sReg (NOpt.mk st ins reg tag).strict (NOpt.mk st ins reg tag).reg s = (r, ok, op) from hx] at h
  exact h
theorem spec_repositoryOf2 (I : Imm) (s : Tx) (st ins : Bool) (reg tag : Tx) (hs : s.length ≤ 1099511627776) {r p : Tx} {ok op : Bool} (hx : sRepo st reg s = (r, p, ok, op)) : Pure Proofs.Tryz.prog 33 [str s, .agg (NOpt.mk st ins reg tag).cs.toArray] I fun w J => w = .tuple #[str r, str p, .bool ok, .bool op] := by
  have h := spec_repositoryOf I s ⟨st, ins, reg, tag⟩ hs
  rw [show sRepo (NOpt.mk st ins reg tag).strict (NOpt.mk st ins reg tag).reg s = (r, p, ok, op) from hx] at h
  exact h
theorem spec_tagOf' (I : Imm) (s : Tx) (st ins : Bool) (reg tag : Tx) (hs : s.length ≤ 1099511627776) {r p t : Tx} {ok op : Bool} (hx : sTag ⟨st, ins, reg, tag⟩ s = (r, p, t, ok, op)) : Pure Proofs.Tryz.prog 34 [str s, .agg (NOpt.mk st ins reg tag).cs.toArray] I fun w J => w = .tuple #[str r, str p, str t, .bool ok, .bool op] := by
  have h := spec_tagOf I s ⟨st, ins, reg, tag⟩ hs
  rw [hx] at h
  exact h
theorem spec_digestOf' (I : Imm) (s : Tx) (st ins : Bool) (reg tag : Tx) (hs : s.length ≤ 1099511627776) {r p t : Tx} {ok op : Bool} (hx : sDig ⟨st, ins, reg, tag⟩ s = (r, p, t, ok, op)) : Pure Proofs.Tryz.prog 35 [str s, .agg (NOpt.mk st ins reg tag).cs.toArray] I fun w J => w = .tuple #[str r, str p, str t, .bool ok, .bool op] := by
  have h := spec_digestOf I s ⟨st, ins, reg, tag⟩ hs
  rw [hx] at h
  exact h
def nrV (x : Nm × Bool × Bool) : Value := .tuple #[.agg x.1.cs.toArray, .bool x.2.1, .bool x.2.2]
set_option maxHeartbeats 8000000 in
theorem spec_NameRead (I : Imm) (s : Tx) (which : Int) (o : NOpt) (hs : s.length ≤ 1099511627776) (hro : regOk o.reg) (htl : o.tag.length ≤ 200) (hw : which = 0 ∨ which = 1 ∨ which = 2 ∨ which = 3 ∨ which = 4) :
    Pure Proofs.Tryz.prog 13 [str s, .int .i64 which, .agg o.cs.toArray] I fun w J => w = nrV (sRead o which s) := by
  obtain ⟨st, ins, reg, tag⟩ := o
  rcases hw with rfl | rfl | rfl | rfl | rfl
  · skip
    refine Spec.enter 95 [(0, _), (1, _), (2, _)] Proofs.Tryz.func13 rfl Proofs.Tryz.ntmps13 (by simp) rfl ?_
    intro C hCf hR hCI
    repeat (first | refine Run.seq ?_ | refine Run.region ?_)
    refine Ops.box rfl (by decide) rfl rfl (fun b1 => ?_)
    refine Ops.alloc rfl (by decide) (T.zeroOk rfl) rfl (fun b2 => ?_)
    repeat (first | refine Run.seq ?_ | refine Run.region ?_ | refine Ops.nil ?_ | refine Run.block ?_ | refine Run.cond_f rfl ?_ | refine Ops.eql rfl (by decide) rfl rfl ?_ | refine Ops.pure T rfl (by decide) rfl ?_ | refine Ops.loadN 1 rfl (by decide) rfl rfl (T.aggOk rfl) (T.sizeOk rfl) rfl rfl ?_)
    rcases hx : sTag ⟨st, ins, reg, tag⟩ s with ⟨r, p, t, ok, op⟩
    refine Ops.call ((spec_tagOf' I s st ins reg tag hs hx)) rfl (by decide) Proofs.Tryz.call34 rfl ?_
    rintro _ J1 l1 rfl
    repeat (first | refine Run.seq ?_ | refine Run.region ?_ | refine Ops.nil ?_ | refine Ops.pure T rfl (by decide) rfl ?_)
    cases ok with
    | true =>
      repeat (first | refine Run.seq ?_ | refine Run.region ?_ | refine Ops.nil ?_ | refine Run.skip ?_ | refine Run.inBlock ?_ | refine Run.cond_f rfl ?_ | refine Ops.not rfl (by decide) ?_ | refine Ops.pure T rfl (by decide) rfl ?_)
      have hparts : sParts ⟨st, ins, reg, tag⟩ 0 s = (3, r, p, t, true, op) := by
        simp only [sParts, show ¬ (0 : Int) = 1 by decide, show ¬ (0 : Int) = 2 by decide, show ¬ (0 : Int) = 3 by decide, show ¬ (0 : Int) = 4 by decide, if_false, hx]
        rfl
      have hread : sRead ⟨st, ins, reg, tag⟩ 0 s = if !true || op then (Nm.zero, true, op) else (nmd (ins || localF r) 3 r p t s, true, false) := by unfold sRead; rw [hparts]; rfl
      cases op with
      | true =>
        repeat (first | refine Run.seq ?_ | refine Run.region ?_ | refine Ops.nil ?_ | refine Run.cond_t rfl ?_ | refine Ops.pure T rfl (by decide) rfl ?_ | refine Ops.loadN 0 rfl (by decide) rfl rfl (T.aggOk rfl) (T.sizeOk rfl) rfl rfl ?_ | refine Ops.store 0 rfl rfl rfl rfl rfl (T.sizeOk rfl) rfl (Nat.le_of_ble_eq_true rfl) rfl rfl ?_)
        refine Run.retCTT T 0 (by rw [hCf]; exact Proofs.Tryz.func13) Proofs.Tryz.results13 rfl rfl rfl rfl rfl rfl rfl rfl (hR _ _ _ ?_)
        refine ⟨rfl, ?_⟩
        rw [hread]
        rfl
      | false =>
      obtain ⟨⟨q1, q2, q3, q4⟩, _⟩ := sParts_len hro htl hparts
      have q5 := plain_len q1
      repeat (first | refine Run.seq ?_ | refine Run.region ?_ | refine Run.skip ?_ | refine Run.cond_f rfl ?_ | refine Ops.pure T rfl (by decide) rfl ?_ | refine Ops.loadN 1 rfl (by decide) rfl rfl (T.aggOk rfl) (T.sizeOk rfl) rfl rfl ?_)
      refine Ops.call ((spec_named J1 3 (r) (p) (t) s st ins reg tag (by decide) (by omega) (by omega) (by omega))) rfl (by decide) Proofs.Tryz.call36 rfl ?_
      rintro _ J3 l3 rfl
      have hread2 : sRead ⟨st, ins, reg, tag⟩ 0 s = (nmd (ins || localF (r)) 3 (r) (p) (t) s, true, false) := hread
      clear hread
      generalize nmd (ins || localF (r)) 3 (r) (p) (t) s = nm at *
      obtain ⟨n0, n1, n2, n3, n4, n5, n6, n7, n8, n9, n10⟩ := nm
      have hread := hread2
      repeat (first | refine Ops.nil ?_ | refine Ops.pure T rfl (by decide) rfl ?_ | refine Ops.store 0 rfl rfl rfl rfl rfl (T.sizeOk rfl) rfl (Nat.le_of_ble_eq_true rfl) rfl rfl ?_)
      refine Run.retCTT T 0 (by rw [hCf]; exact Proofs.Tryz.func13) Proofs.Tryz.results13 rfl rfl rfl rfl rfl rfl rfl rfl (hR _ _ _ ?_)
      refine ⟨rfl, ?_⟩
      rw [hread]
      rfl
    | false =>
    cases op with
    | true =>
      have hparts : sParts ⟨st, ins, reg, tag⟩ 0 s = (3, r, p, t, false, true) := by
        simp only [sParts, show ¬ (0 : Int) = 1 by decide, show ¬ (0 : Int) = 2 by decide, show ¬ (0 : Int) = 3 by decide, show ¬ (0 : Int) = 4 by decide, if_false, hx]
        rfl
      have hread : sRead ⟨st, ins, reg, tag⟩ 0 s = (Nm.zero, false, true) := by unfold sRead; rw [hparts]; rfl
      repeat (first | refine Run.seq ?_ | refine Run.region ?_ | refine Ops.nil ?_ | refine Run.skip ?_ | refine Run.inBlock ?_ | refine Run.cond_t rfl ?_ | refine Run.cond_f rfl ?_ | refine Ops.not rfl (by decide) ?_ | refine Ops.pure T rfl (by decide) rfl ?_ | refine Ops.loadN 0 rfl (by decide) rfl rfl (T.aggOk rfl) (T.sizeOk rfl) rfl rfl ?_ | refine Ops.store 0 rfl rfl rfl rfl rfl (T.sizeOk rfl) rfl (Nat.le_of_ble_eq_true rfl) rfl rfl ?_)
      refine Run.retCTT T 0 (by rw [hCf]; exact Proofs.Tryz.func13) Proofs.Tryz.results13 rfl rfl rfl rfl rfl rfl rfl rfl (hR _ _ _ ?_)
      refine ⟨rfl, ?_⟩
      rw [hread]
      rfl
    | false =>
      repeat (first | refine Run.seq ?_ | refine Run.region ?_ | refine Ops.nil ?_ | refine Run.cond_t rfl ?_ | refine Ops.pure T rfl (by decide) rfl ?_ | refine Ops.loadN 1 rfl (by decide) rfl rfl (T.aggOk rfl) (T.sizeOk rfl) rfl rfl ?_)
      rcases hy : sDig ⟨st, ins, reg, tag⟩ s with ⟨r', p', t', ok, op⟩
      refine Ops.call ((spec_digestOf' J1 s st ins reg tag hs hy)) rfl (by decide) Proofs.Tryz.call35 rfl ?_
      rintro _ J2 l2 rfl
      have hparts : sParts ⟨st, ins, reg, tag⟩ 0 s = (4, r', p', t', ok, op) := by
        simp only [sParts, show ¬ (0 : Int) = 1 by decide, show ¬ (0 : Int) = 2 by decide, show ¬ (0 : Int) = 3 by decide, show ¬ (0 : Int) = 4 by decide, if_false, hx, hy]
        rfl
      repeat (first | refine Run.seq ?_ | refine Run.region ?_ | refine Ops.nil ?_ | refine Run.inBlock ?_ | refine Ops.pure T rfl (by decide) rfl ?_)
      have hread : sRead ⟨st, ins, reg, tag⟩ 0 s = if !ok || op then (Nm.zero, ok, op) else (nmd (ins || localF (r')) 4 (r') (p') (t') s, true, false) := by unfold sRead; rw [hparts]; rfl
      cases ok with
      | false =>
        repeat (first | refine Run.seq ?_ | refine Run.region ?_ | refine Ops.nil ?_ | refine Run.cond_t rfl ?_ | refine Ops.not rfl (by decide) ?_ | refine Ops.pure T rfl (by decide) rfl ?_ | refine Ops.loadN 0 rfl (by decide) rfl rfl (T.aggOk rfl) (T.sizeOk rfl) rfl rfl ?_ | refine Ops.store 0 rfl rfl rfl rfl rfl (T.sizeOk rfl) rfl (Nat.le_of_ble_eq_true rfl) rfl rfl ?_)
        refine Run.retCTT T 0 (by rw [hCf]; exact Proofs.Tryz.func13) Proofs.Tryz.results13 rfl rfl rfl rfl rfl rfl rfl rfl (hR _ _ _ ?_)
        refine ⟨rfl, ?_⟩
        rw [hread]
        rfl
      | true =>
      cases op with
      | true =>
        repeat (first | refine Run.seq ?_ | refine Run.region ?_ | refine Ops.nil ?_ | refine Run.cond_t rfl ?_ | refine Ops.pure T rfl (by decide) rfl ?_ | refine Ops.loadN 0 rfl (by decide) rfl rfl (T.aggOk rfl) (T.sizeOk rfl) rfl rfl ?_ | refine Ops.store 0 rfl rfl rfl rfl rfl (T.sizeOk rfl) rfl (Nat.le_of_ble_eq_true rfl) rfl rfl ?_)
        refine Run.retCTT T 0 (by rw [hCf]; exact Proofs.Tryz.func13) Proofs.Tryz.results13 rfl rfl rfl rfl rfl rfl rfl rfl (hR _ _ _ ?_)
        refine ⟨rfl, ?_⟩
        rw [hread]
        rfl
      | false =>
      obtain ⟨⟨q1, q2, q3, q4⟩, _⟩ := sParts_len hro htl hparts
      have q5 := plain_len q1
      repeat (first | refine Run.seq ?_ | refine Run.region ?_ | refine Ops.nil ?_ | refine Run.skip ?_ | refine Run.cond_f rfl ?_ | refine Ops.pure T rfl (by decide) rfl ?_ | refine Ops.loadN 1 rfl (by decide) rfl rfl (T.aggOk rfl) (T.sizeOk rfl) rfl rfl ?_)
      refine Ops.call ((spec_named J2 4 (r') (p') (t') s st ins reg tag (by decide) (by omega) (by omega) (by omega))) rfl (by decide) Proofs.Tryz.call36 rfl ?_
      rintro _ J3 l3 rfl
      have hread2 : sRead ⟨st, ins, reg, tag⟩ 0 s = (nmd (ins || localF (r')) 4 (r') (p') (t') s, true, false) := hread
      clear hread
      generalize nmd (ins || localF (r')) 4 (r') (p') (t') s = nm at *
      obtain ⟨n0, n1, n2, n3, n4, n5, n6, n7, n8, n9, n10⟩ := nm
      have hread := hread2
      repeat (first | refine Ops.nil ?_ | refine Ops.pure T rfl (by decide) rfl ?_ | refine Ops.store 0 rfl rfl rfl rfl rfl (T.sizeOk rfl) rfl (Nat.le_of_ble_eq_true rfl) rfl rfl ?_)
      refine Run.retCTT T 0 (by rw [hCf]; exact Proofs.Tryz.func13) Proofs.Tryz.results13 rfl rfl rfl rfl rfl rfl rfl rfl (hR _ _ _ ?_)
      refine ⟨rfl, ?_⟩
      rw [hread]
      rfl
  · skip
    refine Spec.enter 95 [(0, _), (1, _), (2, _)] Proofs.Tryz.func13 rfl Proofs.Tryz.ntmps13 (by simp) rfl ?_
    intro C hCf hR hCI
    repeat (first | refine Run.seq ?_ | refine Run.region ?_)
    refine Ops.box rfl (by decide) rfl rfl (fun b1 => ?_)
    refine Ops.alloc rfl (by decide) (T.zeroOk rfl) rfl (fun b2 => ?_)
    repeat (first | refine Run.seq ?_ | refine Run.region ?_ | refine Ops.nil ?_ | refine Run.block ?_ | refine Run.cond_t rfl ?_ | refine Ops.eql rfl (by decide) rfl rfl ?_ | refine Ops.pure T rfl (by decide) rfl ?_ | refine Ops.loadN 1 rfl (by decide) rfl rfl (T.aggOk rfl) (T.sizeOk rfl) rfl rfl ?_)
    rcases hx : sReg st reg s with ⟨r, ok, op⟩
    refine Ops.call ((spec_registryOf' I s st ins reg tag hs hx)) rfl (by decide) Proofs.Tryz.call32 rfl ?_
    rintro _ J1 l1 rfl
    have hparts : sParts ⟨st, ins, reg, tag⟩ 1 s = (1, r, [], [], ok, op) := by
      simp only [sParts, if_true, hx]
    repeat (first | refine Run.seq ?_ | refine Run.region ?_ | refine Ops.nil ?_ | refine Run.inBlock ?_ | refine Ops.pure T rfl (by decide) rfl ?_)
    have hread : sRead ⟨st, ins, reg, tag⟩ 1 s = if !ok || op then (Nm.zero, ok, op) else (nmd (ins || localF (r)) 1 (r) ([]) ([]) s, true, false) := by unfold sRead; rw [hparts]; rfl
    cases ok with
    | false =>
      repeat (first | refine Run.seq ?_ | refine Run.region ?_ | refine Ops.nil ?_ | refine Run.cond_t rfl ?_ | refine Ops.not rfl (by decide) ?_ | refine Ops.pure T rfl (by decide) rfl ?_ | refine Ops.loadN 0 rfl (by decide) rfl rfl (T.aggOk rfl) (T.sizeOk rfl) rfl rfl ?_ | refine Ops.store 0 rfl rfl rfl rfl rfl (T.sizeOk rfl) rfl (Nat.le_of_ble_eq_true rfl) rfl rfl ?_)
      refine Run.retCTT T 0 (by rw [hCf]; exact Proofs.Tryz.func13) Proofs.Tryz.results13 rfl rfl rfl rfl rfl rfl rfl rfl (hR _ _ _ ?_)
      refine ⟨rfl, ?_⟩
      rw [hread]
      rfl
    | true =>
    cases op with
    | true =>
      repeat (first | refine Run.seq ?_ | refine Run.region ?_ | refine Ops.nil ?_ | refine Run.cond_t rfl ?_ | refine Ops.pure T rfl (by decide) rfl ?_ | refine Ops.loadN 0 rfl (by decide) rfl rfl (T.aggOk rfl) (T.sizeOk rfl) rfl rfl ?_ | refine Ops.store 0 rfl rfl rfl rfl rfl (T.sizeOk rfl) rfl (Nat.le_of_ble_eq_true rfl) rfl rfl ?_)
      refine Run.retCTT T 0 (by rw [hCf]; exact Proofs.Tryz.func13) Proofs.Tryz.results13 rfl rfl rfl rfl rfl rfl rfl rfl (hR _ _ _ ?_)
      refine ⟨rfl, ?_⟩
      rw [hread]
      rfl
    | false =>
    obtain ⟨⟨q1, q2, q3, q4⟩, _⟩ := sParts_len hro htl hparts
    have q5 := plain_len q1
    repeat (first | refine Run.seq ?_ | refine Run.region ?_ | refine Ops.nil ?_ | refine Run.skip ?_ | refine Run.cond_f rfl ?_ | refine Ops.pure T rfl (by decide) rfl ?_ | refine Ops.loadN 1 rfl (by decide) rfl rfl (T.aggOk rfl) (T.sizeOk rfl) rfl rfl ?_)
    refine Ops.call ((spec_named J1 1 (r) ([]) ([]) s st ins reg tag (by decide) (by omega) (by omega) (by omega))) rfl (by decide) Proofs.Tryz.call36 rfl ?_
    rintro _ J3 l3 rfl
    have hread2 : sRead ⟨st, ins, reg, tag⟩ 1 s = (nmd (ins || localF (r)) 1 (r) ([]) ([]) s, true, false) := hread
    clear hread
    generalize nmd (ins || localF (r)) 1 (r) ([]) ([]) s = nm at *
    obtain ⟨n0, n1, n2, n3, n4, n5, n6, n7, n8, n9, n10⟩ := nm
    have hread := hread2
    repeat (first | refine Ops.nil ?_ | refine Ops.pure T rfl (by decide) rfl ?_ | refine Ops.store 0 rfl rfl rfl rfl rfl (T.sizeOk rfl) rfl (Nat.le_of_ble_eq_true rfl) rfl rfl ?_)
    refine Run.retCTT T 0 (by rw [hCf]; exact Proofs.Tryz.func13) Proofs.Tryz.results13 rfl rfl rfl rfl rfl rfl rfl rfl (hR _ _ _ ?_)
    refine ⟨rfl, ?_⟩
    rw [hread]
    rfl
  · skip
    refine Spec.enter 95 [(0, _), (1, _), (2, _)] Proofs.Tryz.func13 rfl Proofs.Tryz.ntmps13 (by simp) rfl ?_
    intro C hCf hR hCI
    repeat (first | refine Run.seq ?_ | refine Run.region ?_)
    refine Ops.box rfl (by decide) rfl rfl (fun b1 => ?_)
    refine Ops.alloc rfl (by decide) (T.zeroOk rfl) rfl (fun b2 => ?_)
    repeat (first | refine Run.seq ?_ | refine Run.region ?_ | refine Ops.nil ?_ | refine Run.block ?_ | refine Run.cond_t rfl ?_ | refine Run.cond_f rfl ?_ | refine Ops.eql rfl (by decide) rfl rfl ?_ | refine Ops.pure T rfl (by decide) rfl ?_ | refine Ops.loadN 1 rfl (by decide) rfl rfl (T.aggOk rfl) (T.sizeOk rfl) rfl rfl ?_)
    rcases hx : sRepo st reg s with ⟨r, p, ok, op⟩
    refine Ops.call ((spec_repositoryOf2 I s st ins reg tag hs hx)) rfl (by decide) Proofs.Tryz.call33 rfl ?_
    rintro _ J1 l1 rfl
    have hparts : sParts ⟨st, ins, reg, tag⟩ 2 s = (2, r, p, [], ok, op) := by
      simp only [sParts, show ¬ (2 : Int) = 1 by decide, if_false, if_true, hx]
    repeat (first | refine Run.seq ?_ | refine Run.region ?_ | refine Ops.nil ?_ | refine Run.inBlock ?_ | refine Ops.pure T rfl (by decide) rfl ?_)
    have hread : sRead ⟨st, ins, reg, tag⟩ 2 s = if !ok || op then (Nm.zero, ok, op) else (nmd (ins || localF (r)) 2 (r) (p) ([]) s, true, false) := by unfold sRead; rw [hparts]; rfl
    cases ok with
    | false =>
      repeat (first | refine Run.seq ?_ | refine Run.region ?_ | refine Ops.nil ?_ | refine Run.cond_t rfl ?_ | refine Ops.not rfl (by decide) ?_ | refine Ops.pure T rfl (by decide) rfl ?_ | refine Ops.loadN 0 rfl (by decide) rfl rfl (T.aggOk rfl) (T.sizeOk rfl) rfl rfl ?_ | refine Ops.store 0 rfl rfl rfl rfl rfl (T.sizeOk rfl) rfl (Nat.le_of_ble_eq_true rfl) rfl rfl ?_)
      refine Run.retCTT T 0 (by rw [hCf]; exact Proofs.Tryz.func13) Proofs.Tryz.results13 rfl rfl rfl rfl rfl rfl rfl rfl (hR _ _ _ ?_)
      refine ⟨rfl, ?_⟩
      rw [hread]
      rfl
    | true =>
    cases op with
    | true =>
      repeat (first | refine Run.seq ?_ | refine Run.region ?_ | refine Ops.nil ?_ | refine Run.cond_t rfl ?_ | refine Ops.pure T rfl (by decide) rfl ?_ | refine Ops.loadN 0 rfl (by decide) rfl rfl (T.aggOk rfl) (T.sizeOk rfl) rfl rfl ?_ | refine Ops.store 0 rfl rfl rfl rfl rfl (T.sizeOk rfl) rfl (Nat.le_of_ble_eq_true rfl) rfl rfl ?_)
      refine Run.retCTT T 0 (by rw [hCf]; exact Proofs.Tryz.func13) Proofs.Tryz.results13 rfl rfl rfl rfl rfl rfl rfl rfl (hR _ _ _ ?_)
      refine ⟨rfl, ?_⟩
      rw [hread]
      rfl
    | false =>
    obtain ⟨⟨q1, q2, q3, q4⟩, _⟩ := sParts_len hro htl hparts
    have q5 := plain_len q1
    repeat (first | refine Run.seq ?_ | refine Run.region ?_ | refine Ops.nil ?_ | refine Run.skip ?_ | refine Run.cond_f rfl ?_ | refine Ops.pure T rfl (by decide) rfl ?_ | refine Ops.loadN 1 rfl (by decide) rfl rfl (T.aggOk rfl) (T.sizeOk rfl) rfl rfl ?_)
    refine Ops.call ((spec_named J1 2 (r) (p) ([]) s st ins reg tag (by decide) (by omega) (by omega) (by omega))) rfl (by decide) Proofs.Tryz.call36 rfl ?_
    rintro _ J3 l3 rfl
    have hread2 : sRead ⟨st, ins, reg, tag⟩ 2 s = (nmd (ins || localF (r)) 2 (r) (p) ([]) s, true, false) := hread
    clear hread
    generalize nmd (ins || localF (r)) 2 (r) (p) ([]) s = nm at *
    obtain ⟨n0, n1, n2, n3, n4, n5, n6, n7, n8, n9, n10⟩ := nm
    have hread := hread2
    repeat (first | refine Ops.nil ?_ | refine Ops.pure T rfl (by decide) rfl ?_ | refine Ops.store 0 rfl rfl rfl rfl rfl (T.sizeOk rfl) rfl (Nat.le_of_ble_eq_true rfl) rfl rfl ?_)
    refine Run.retCTT T 0 (by rw [hCf]; exact Proofs.Tryz.func13) Proofs.Tryz.results13 rfl rfl rfl rfl rfl rfl rfl rfl (hR _ _ _ ?_)
    refine ⟨rfl, ?_⟩
    rw [hread]
    rfl
  · skip
    refine Spec.enter 95 [(0, _), (1, _), (2, _)] Proofs.Tryz.func13 rfl Proofs.Tryz.ntmps13 (by simp) rfl ?_
    intro C hCf hR hCI
    repeat (first | refine Run.seq ?_ | refine Run.region ?_)
    refine Ops.box rfl (by decide) rfl rfl (fun b1 => ?_)
    refine Ops.alloc rfl (by decide) (T.zeroOk rfl) rfl (fun b2 => ?_)
    repeat (first | refine Run.seq ?_ | refine Run.region ?_ | refine Ops.nil ?_ | refine Run.block ?_ | refine Run.cond_t rfl ?_ | refine Run.cond_f rfl ?_ | refine Ops.eql rfl (by decide) rfl rfl ?_ | refine Ops.pure T rfl (by decide) rfl ?_ | refine Ops.loadN 1 rfl (by decide) rfl rfl (T.aggOk rfl) (T.sizeOk rfl) rfl rfl ?_)
    rcases hx : sTag ⟨st, ins, reg, tag⟩ s with ⟨r, p, t, ok, op⟩
    refine Ops.call ((spec_tagOf' I s st ins reg tag hs hx)) rfl (by decide) Proofs.Tryz.call34 rfl ?_
    rintro _ J1 l1 rfl
    have hparts : sParts ⟨st, ins, reg, tag⟩ 3 s = (3, r, p, t, ok, op) := by
      simp only [sParts, show ¬ (3 : Int) = 1 by decide, show ¬ (3 : Int) = 2 by decide, if_false, if_true, hx]
    repeat (first | refine Run.seq ?_ | refine Run.region ?_ | refine Ops.nil ?_ | refine Run.inBlock ?_ | refine Ops.pure T rfl (by decide) rfl ?_)
    have hread : sRead ⟨st, ins, reg, tag⟩ 3 s = if !ok || op then (Nm.zero, ok, op) else (nmd (ins || localF (r)) 3 (r) (p) (t) s, true, false) := by unfold sRead; rw [hparts]; rfl
    cases ok with
    | false =>
      repeat (first | refine Run.seq ?_ | refine Run.region ?_ | refine Ops.nil ?_ | refine Run.cond_t rfl ?_ | refine Ops.not rfl (by decide) ?_ | refine Ops.pure T rfl (by decide) rfl ?_ | refine Ops.loadN 0 rfl (by decide) rfl rfl (T.aggOk rfl) (T.sizeOk rfl) rfl rfl ?_ | refine Ops.store 0 rfl rfl rfl rfl rfl (T.sizeOk rfl) rfl (Nat.le_of_ble_eq_true rfl) rfl rfl ?_)
      refine Run.retCTT T 0 (by rw [hCf]; exact Proofs.Tryz.func13) Proofs.Tryz.results13 rfl rfl rfl rfl rfl rfl rfl rfl (hR _ _ _ ?_)
      refine ⟨rfl, ?_⟩
      rw [hread]
      rfl
    | true =>
    cases op with
    | true =>
      repeat (first | refine Run.seq ?_ | refine Run.region ?_ | refine Ops.nil ?_ | refine Run.cond_t rfl ?_ | refine Ops.pure T rfl (by decide) rfl ?_ | refine Ops.loadN 0 rfl (by decide) rfl rfl (T.aggOk rfl) (T.sizeOk rfl) rfl rfl ?_ | refine Ops.store 0 rfl rfl rfl rfl rfl (T.sizeOk rfl) rfl (Nat.le_of_ble_eq_true rfl) rfl rfl ?_)
      refine Run.retCTT T 0 (by rw [hCf]; exact Proofs.Tryz.func13) Proofs.Tryz.results13 rfl rfl rfl rfl rfl rfl rfl rfl (hR _ _ _ ?_)
      refine ⟨rfl, ?_⟩
      rw [hread]
      rfl
    | false =>
    obtain ⟨⟨q1, q2, q3, q4⟩, _⟩ := sParts_len hro htl hparts
    have q5 := plain_len q1
    repeat (first | refine Run.seq ?_ | refine Run.region ?_ | refine Ops.nil ?_ | refine Run.skip ?_ | refine Run.cond_f rfl ?_ | refine Ops.pure T rfl (by decide) rfl ?_ | refine Ops.loadN 1 rfl (by decide) rfl rfl (T.aggOk rfl) (T.sizeOk rfl) rfl rfl ?_)
    refine Ops.call ((spec_named J1 3 (r) (p) (t) s st ins reg tag (by decide) (by omega) (by omega) (by omega))) rfl (by decide) Proofs.Tryz.call36 rfl ?_
    rintro _ J3 l3 rfl
    have hread2 : sRead ⟨st, ins, reg, tag⟩ 3 s = (nmd (ins || localF (r)) 3 (r) (p) (t) s, true, false) := hread
    clear hread
    generalize nmd (ins || localF (r)) 3 (r) (p) (t) s = nm at *
    obtain ⟨n0, n1, n2, n3, n4, n5, n6, n7, n8, n9, n10⟩ := nm
    have hread := hread2
    repeat (first | refine Ops.nil ?_ | refine Ops.pure T rfl (by decide) rfl ?_ | refine Ops.store 0 rfl rfl rfl rfl rfl (T.sizeOk rfl) rfl (Nat.le_of_ble_eq_true rfl) rfl rfl ?_)
    refine Run.retCTT T 0 (by rw [hCf]; exact Proofs.Tryz.func13) Proofs.Tryz.results13 rfl rfl rfl rfl rfl rfl rfl rfl (hR _ _ _ ?_)
    refine ⟨rfl, ?_⟩
    rw [hread]
    rfl
  · skip
    refine Spec.enter 95 [(0, _), (1, _), (2, _)] Proofs.Tryz.func13 rfl Proofs.Tryz.ntmps13 (by simp) rfl ?_
    intro C hCf hR hCI
    repeat (first | refine Run.seq ?_ | refine Run.region ?_)
    refine Ops.box rfl (by decide) rfl rfl (fun b1 => ?_)
    refine Ops.alloc rfl (by decide) (T.zeroOk rfl) rfl (fun b2 => ?_)
    repeat (first | refine Run.seq ?_ | refine Run.region ?_ | refine Ops.nil ?_ | refine Run.block ?_ | refine Run.cond_t rfl ?_ | refine Run.cond_f rfl ?_ | refine Ops.eql rfl (by decide) rfl rfl ?_ | refine Ops.pure T rfl (by decide) rfl ?_ | refine Ops.loadN 1 rfl (by decide) rfl rfl (T.aggOk rfl) (T.sizeOk rfl) rfl rfl ?_)
    rcases hx : sDig ⟨st, ins, reg, tag⟩ s with ⟨r, p, t, ok, op⟩
    refine Ops.call ((spec_digestOf' I s st ins reg tag hs hx)) rfl (by decide) Proofs.Tryz.call35 rfl ?_
    rintro _ J1 l1 rfl
    have hparts : sParts ⟨st, ins, reg, tag⟩ 4 s = (4, r, p, t, ok, op) := by
      simp only [sParts, show ¬ (4 : Int) = 1 by decide, show ¬ (4 : Int) = 2 by decide, show ¬ (4 : Int) = 3 by decide, if_false, if_true, hx]
    repeat (first | refine Run.seq ?_ | refine Run.region ?_ | refine Ops.nil ?_ | refine Run.inBlock ?_ | refine Ops.pure T rfl (by decide) rfl ?_)
    have hread : sRead ⟨st, ins, reg, tag⟩ 4 s = if !ok || op then (Nm.zero, ok, op) else (nmd (ins || localF (r)) 4 (r) (p) (t) s, true, false) := by unfold sRead; rw [hparts]; rfl
    cases ok with
    | false =>
      repeat (first | refine Run.seq ?_ | refine Run.region ?_ | refine Ops.nil ?_ | refine Run.cond_t rfl ?_ | refine Ops.not rfl (by decide) ?_ | refine Ops.pure T rfl (by decide) rfl ?_ | refine Ops.loadN 0 rfl (by decide) rfl rfl (T.aggOk rfl) (T.sizeOk rfl) rfl rfl ?_ | refine Ops.store 0 rfl rfl rfl rfl rfl (T.sizeOk rfl) rfl (Nat.le_of_ble_eq_true rfl) rfl rfl ?_)
      refine Run.retCTT T 0 (by rw [hCf]; exact Proofs.Tryz.func13) Proofs.Tryz.results13 rfl rfl rfl rfl rfl rfl rfl rfl (hR _ _ _ ?_)
      refine ⟨rfl, ?_⟩
      rw [hread]
      rfl
    | true =>
    cases op with
    | true =>
      repeat (first | refine Run.seq ?_ | refine Run.region ?_ | refine Ops.nil ?_ | refine Run.cond_t rfl ?_ | refine Ops.pure T rfl (by decide) rfl ?_ | refine Ops.loadN 0 rfl (by decide) rfl rfl (T.aggOk rfl) (T.sizeOk rfl) rfl rfl ?_ | refine Ops.store 0 rfl rfl rfl rfl rfl (T.sizeOk rfl) rfl (Nat.le_of_ble_eq_true rfl) rfl rfl ?_)
      refine Run.retCTT T 0 (by rw [hCf]; exact Proofs.Tryz.func13) Proofs.Tryz.results13 rfl rfl rfl rfl rfl rfl rfl rfl (hR _ _ _ ?_)
      refine ⟨rfl, ?_⟩
      rw [hread]
      rfl
    | false =>
    obtain ⟨⟨q1, q2, q3, q4⟩, _⟩ := sParts_len hro htl hparts
    have q5 := plain_len q1
    repeat (first | refine Run.seq ?_ | refine Run.region ?_ | refine Ops.nil ?_ | refine Run.skip ?_ | refine Run.cond_f rfl ?_ | refine Ops.pure T rfl (by decide) rfl ?_ | refine Ops.loadN 1 rfl (by decide) rfl rfl (T.aggOk rfl) (T.sizeOk rfl) rfl rfl ?_)
    refine Ops.call ((spec_named J1 4 (r) (p) (t) s st ins reg tag (by decide) (by omega) (by omega) (by omega))) rfl (by decide) Proofs.Tryz.call36 rfl ?_
    rintro _ J3 l3 rfl
    have hread2 : sRead ⟨st, ins, reg, tag⟩ 4 s = (nmd (ins || localF (r)) 4 (r) (p) (t) s, true, false) := hread
    clear hread
    generalize nmd (ins || localF (r)) 4 (r) (p) (t) s = nm at *
    obtain ⟨n0, n1, n2, n3, n4, n5, n6, n7, n8, n9, n10⟩ := nm
    have hread := hread2
    repeat (first | refine Ops.nil ?_ | refine Ops.pure T rfl (by decide) rfl ?_ | refine Ops.store 0 rfl rfl rfl rfl rfl (T.sizeOk rfl) rfl (Nat.le_of_ble_eq_true rfl) rfl rfl ?_)
    refine Run.retCTT T 0 (by rw [hCf]; exact Proofs.Tryz.func13) Proofs.Tryz.results13 rfl rfl rfl rfl rfl rfl rfl rfl (hR _ _ _ ?_)
    refine ⟨rfl, ?_⟩
    rw [hread]
    rfl
end Go.V
/-
  What the laws of names call: fits, options, names the same.
-/
namespace Go.V
open Go.RowKit
set_option linter.unusedVariables false
set_option linter.unusedSimpArgs false
set_option maxRecDepth 10000
attribute [local irreducible] Run Ops
structure Ask where
  text : Tx
  strict : Bool
  ins : Bool
  reg : Tx
  tag : Tx
def Ask.cs (x : Ask) : List Value := [str x.text, .bool x.strict, .bool x.ins, str x.reg, str x.tag]
def Ask.fits (x : Ask) : Bool := !decide ((2147483647 : Int) < x.text.length) && (!decide ((2147483647 : Int) < x.reg.length) && !decide ((2147483647 : Int) < x.tag.length))
theorem Ask.fits_ok {x : Ask} (h : x.fits = true) : x.text.length ≤ 2147483647 ∧ x.reg.length ≤ 2147483647 ∧ x.tag.length ≤ 2147483647 := by
  simp only [Ask.fits, Bool.and_eq_true, Bool.not_eq_true', decide_eq_false_iff_not] at h
  omega
def Ask.small (x : Ask) : Prop := x.text.length ≤ 1099511627776 ∧ x.reg.length ≤ 1099511627776 ∧ x.tag.length ≤ 1099511627776
theorem laws_zzFits33 (I : Imm) (x : Ask) : Pure Proofs.Tryz.prog 10 [.agg x.cs.toArray] I fun w J => w = .bool x.fits := by
  obtain ⟨tx, st, ins, reg, tag⟩ := x
  unfold Ask.fits
  refine Spec.enter 15 [(0, _)] Proofs.Tryz.func10 rfl Proofs.Tryz.ntmps10 (by simp) rfl ?_
  intro C hCf hR hCI
  repeat (first | refine Run.seq ?_ | refine Run.region ?_)
  refine Ops.box rfl (by decide) rfl rfl (fun b1 => ?_)
  repeat (first | refine Run.seq ?_ | refine Run.region ?_ | refine Ops.nil ?_ | refine Ops.gtr rfl (by decide) rfl rfl ?_ | refine Ops.pure T rfl (by decide) rfl ?_ | refine Ops.lenS T rfl (by decide) rfl rfl ?_ | refine Ops.load 0 rfl (by decide) rfl rfl (T.aggOk rfl) rfl ?_)
  cases h1 : decide ((2147483647 : Int) < tx.length) with
  | true =>
    repeat (first | refine Run.seq ?_ | refine Run.region ?_ | refine Ops.nil ?_ | refine Run.cond_t rfl ?_ | refine Ops.pure T rfl (by decide) rfl ?_)
    refine Run.fin (Run.ret1 (by rw [hCf]; exact Proofs.Tryz.func10) Proofs.Tryz.results10 rfl (hR _ _ _ ?_))
    exact ⟨rfl, by simp [h1]⟩
  | false =>
  repeat (first | refine Run.seq ?_ | refine Run.region ?_ | refine Ops.nil ?_ | refine Run.skip ?_ | refine Run.cond_f rfl ?_ | refine Ops.gtr rfl (by decide) rfl rfl ?_ | refine Ops.pure T rfl (by decide) rfl ?_ | refine Ops.lenS T rfl (by decide) rfl rfl ?_ | refine Ops.load 0 rfl (by decide) rfl rfl (T.aggOk rfl) rfl ?_)
  cases h2 : decide ((2147483647 : Int) < reg.length) with
  | true =>
    repeat (first | refine Run.seq ?_ | refine Run.region ?_ | refine Ops.nil ?_ | refine Run.cond_t rfl ?_ | refine Ops.pure T rfl (by decide) rfl ?_)
    refine Run.fin (Run.ret1 (by rw [hCf]; exact Proofs.Tryz.func10) Proofs.Tryz.results10 rfl (hR _ _ _ ?_))
    exact ⟨rfl, by simp [h1, h2]⟩
  | false =>
  repeat (first | refine Run.seq ?_ | refine Run.region ?_ | refine Ops.nil ?_ | refine Run.skip ?_ | refine Run.cond_f rfl ?_ | refine Ops.gtr rfl (by decide) rfl rfl ?_ | refine Ops.pure T rfl (by decide) rfl ?_ | refine Ops.lenS T rfl (by decide) rfl rfl ?_ | refine Ops.load 0 rfl (by decide) rfl rfl (T.aggOk rfl) rfl ?_)
  cases h3 : decide ((2147483647 : Int) < tag.length) with
  | true =>
    repeat (first | refine Run.seq ?_ | refine Run.region ?_ | refine Ops.nil ?_ | refine Run.cond_t rfl ?_ | refine Ops.pure T rfl (by decide) rfl ?_)
    refine Run.fin (Run.ret1 (by rw [hCf]; exact Proofs.Tryz.func10) Proofs.Tryz.results10 rfl (hR _ _ _ ?_))
    exact ⟨rfl, by simp [h1, h2, h3]⟩
  | false =>
    repeat (first | refine Run.seq ?_ | refine Run.region ?_ | refine Ops.nil ?_ | refine Run.skip ?_ | refine Run.cond_f rfl ?_ | refine Ops.pure T rfl (by decide) rfl ?_)
    refine Run.fin (Run.ret1 (by rw [hCf]; exact Proofs.Tryz.func10) Proofs.Tryz.results10 rfl (hR _ _ _ ?_))
    exact ⟨rfl, by simp [h1, h2, h3]⟩
def Ask.opts (x : Ask) : NOpt := ⟨x.strict, x.ins, if !decide (x.reg = []) && hostNamed x.reg then x.reg else [], if decide ((x.tag.length : Int) ≤ 200) then x.tag else []⟩
theorem Ask.regOk (x : Ask) : regOk x.opts.reg := by
  unfold Ask.opts V.regOk
  simp only
  split
  · rename_i h
    simp only [Bool.and_eq_true] at h
    exact .inr h.2
  · exact .inl rfl
theorem Ask.tagOk (x : Ask) : x.opts.tag.length ≤ 200 := by
  unfold Ask.opts
  simp only
  split
  · rename_i h
    have := of_decide_eq_true h
    omega
  · decide
set_option maxHeartbeats 2000000 in
theorem laws_nameOpts (I : Imm) (x : Ask) (hx : x.small) : Pure Proofs.Tryz.prog 12 [.agg x.cs.toArray] I fun w J => w = .agg x.opts.cs.toArray := by
  obtain ⟨tx, st, ins, reg, tag⟩ := x
  obtain ⟨x1, x2, x3⟩ := hx
  simp only at x1 x2 x3
  refine Spec.enter 28 [(0, _)] Proofs.Tryz.func12 rfl Proofs.Tryz.ntmps12 (by simp) rfl ?_
  intro C hCf hR hCI
  repeat (first | refine Run.seq ?_ | refine Run.region ?_)
  refine Ops.box rfl (by decide) rfl rfl (fun b1 => ?_)
  refine Ops.alloc rfl (by decide) (T.zeroOk rfl) rfl (fun b2 => ?_)
  repeat (first | refine Run.seq ?_ | refine Run.region ?_ | refine Ops.nil ?_ | refine Ops.pure T rfl (by decide) rfl ?_ | refine Ops.load 1 rfl (by decide) rfl rfl (T.aggOk rfl) rfl ?_)
  refine Ops.buildL bd30 rfl (by decide) rfl rfl ?_
  refine Ops.alloc rfl (by decide) (T.zeroOk rfl) rfl (fun b3 => ?_)
  repeat (first | refine Run.seq ?_ | refine Run.region ?_ | refine Ops.nil ?_ | refine Ops.neqStr rfl (by decide) rfl rfl ?_ | refine Ops.pure T rfl (by decide) rfl ?_ | refine Ops.load 2 rfl (by decide) rfl rfl (T.aggOk rfl) rfl ?_ | refine Ops.store 0 rfl rfl rfl rfl rfl (T.sizeOk rfl) rfl (Nat.le_of_ble_eq_true rfl) rfl rfl ?_)
  cases h1 : decide (reg = []) with
  | true =>
    repeat (first | refine Run.seq ?_ | refine Run.region ?_ | refine Ops.nil ?_ | refine Run.skip ?_ | refine Run.cond_f rfl ?_ | refine Ops.not rfl (by decide) ?_ | refine Ops.leq rfl (by decide) rfl rfl ?_ | refine Ops.pure T rfl (by decide) rfl ?_ | refine Ops.lenS T rfl (by decide) rfl rfl ?_ | refine Ops.load 2 rfl (by decide) rfl rfl (T.aggOk rfl) rfl ?_)
    cases h2 : decide ((tag.length : Int) ≤ 200) with
    | true =>
      repeat (first | refine Run.seq ?_ | refine Run.region ?_ | refine Ops.nil ?_ | refine Run.cond_t rfl ?_ | refine Ops.pure T rfl (by decide) rfl ?_ | refine Ops.load 2 rfl (by decide) rfl rfl (T.aggOk rfl) rfl ?_ | refine Ops.loadN 0 rfl (by decide) rfl rfl (T.aggOk rfl) (T.sizeOk rfl) rfl rfl ?_ | refine Ops.store 0 rfl rfl rfl rfl rfl (T.sizeOk rfl) rfl (Nat.le_of_ble_eq_true rfl) rfl rfl ?_ | refine Ops.store 1 rfl rfl rfl rfl rfl (T.sizeOk rfl) rfl (Nat.le_of_ble_eq_true rfl) rfl rfl ?_)
      refine Run.retC T 1 (by rw [hCf]; exact Proofs.Tryz.func12) Proofs.Tryz.results12 rfl rfl rfl rfl rfl rfl (hR _ _ _ ?_)
      refine ⟨rfl, ?_⟩
      simp only [Ask.opts, h1, h2]
      rfl
    | false =>
      repeat (first | refine Run.seq ?_ | refine Run.region ?_ | refine Ops.nil ?_ | refine Run.skip ?_ | refine Run.cond_f rfl ?_ | refine Ops.loadN 0 rfl (by decide) rfl rfl (T.aggOk rfl) (T.sizeOk rfl) rfl rfl ?_ | refine Ops.store 1 rfl rfl rfl rfl rfl (T.sizeOk rfl) rfl (Nat.le_of_ble_eq_true rfl) rfl rfl ?_)
      refine Run.retC T 1 (by rw [hCf]; exact Proofs.Tryz.func12) Proofs.Tryz.results12 rfl rfl rfl rfl rfl rfl (hR _ _ _ ?_)
      refine ⟨rfl, ?_⟩
      simp only [Ask.opts, h1, h2]
      rfl
  | false =>
    repeat (first | refine Ops.pure T rfl (by decide) rfl ?_ | refine Ops.load 2 rfl (by decide) rfl rfl (T.aggOk rfl) rfl ?_)
    refine Ops.call ((spec_HostNamed I reg (by omega))) rfl (by decide) Proofs.Tryz.call15 rfl ?_
    rintro _ J1 l1 rfl
    repeat (first | refine Ops.nil ?_ | refine Ops.pure T rfl (by decide) rfl ?_)
    cases h3 : hostNamed reg with
    | true =>
      repeat (first | refine Run.seq ?_ | refine Run.region ?_ | refine Ops.nil ?_ | refine Run.cond_t rfl ?_ | refine Ops.leq rfl (by decide) rfl rfl ?_ | refine Ops.pure T rfl (by decide) rfl ?_ | refine Ops.lenS T rfl (by decide) rfl rfl ?_ | refine Ops.load 2 rfl (by decide) rfl rfl (T.aggOk rfl) rfl ?_ | refine Ops.store 0 rfl rfl rfl rfl rfl (T.sizeOk rfl) rfl (Nat.le_of_ble_eq_true rfl) rfl rfl ?_)
      cases h2 : decide ((tag.length : Int) ≤ 200) with
      | true =>
        repeat (first | refine Run.seq ?_ | refine Run.region ?_ | refine Ops.nil ?_ | refine Run.cond_t rfl ?_ | refine Ops.pure T rfl (by decide) rfl ?_ | refine Ops.load 2 rfl (by decide) rfl rfl (T.aggOk rfl) rfl ?_ | refine Ops.loadN 0 rfl (by decide) rfl rfl (T.aggOk rfl) (T.sizeOk rfl) rfl rfl ?_ | refine Ops.store 0 rfl rfl rfl rfl rfl (T.sizeOk rfl) rfl (Nat.le_of_ble_eq_true rfl) rfl rfl ?_ | refine Ops.store 1 rfl rfl rfl rfl rfl (T.sizeOk rfl) rfl (Nat.le_of_ble_eq_true rfl) rfl rfl ?_)
        refine Run.retC T 1 (by rw [hCf]; exact Proofs.Tryz.func12) Proofs.Tryz.results12 rfl rfl rfl rfl rfl rfl (hR _ _ _ ?_)
        refine ⟨rfl, ?_⟩
        simp only [Ask.opts, h1, h3, h2]
        rfl
      | false =>
        repeat (first | refine Run.seq ?_ | refine Run.region ?_ | refine Ops.nil ?_ | refine Run.skip ?_ | refine Run.cond_f rfl ?_ | refine Ops.loadN 0 rfl (by decide) rfl rfl (T.aggOk rfl) (T.sizeOk rfl) rfl rfl ?_ | refine Ops.store 1 rfl rfl rfl rfl rfl (T.sizeOk rfl) rfl (Nat.le_of_ble_eq_true rfl) rfl rfl ?_)
        refine Run.retC T 1 (by rw [hCf]; exact Proofs.Tryz.func12) Proofs.Tryz.results12 rfl rfl rfl rfl rfl rfl (hR _ _ _ ?_)
        refine ⟨rfl, ?_⟩
        simp only [Ask.opts, h1, h3, h2]
        rfl
    | false =>
      repeat (first | refine Run.seq ?_ | refine Run.region ?_ | refine Ops.nil ?_ | refine Run.skip ?_ | refine Run.cond_f rfl ?_ | refine Ops.leq rfl (by decide) rfl rfl ?_ | refine Ops.pure T rfl (by decide) rfl ?_ | refine Ops.lenS T rfl (by decide) rfl rfl ?_ | refine Ops.load 2 rfl (by decide) rfl rfl (T.aggOk rfl) rfl ?_)
      cases h2 : decide ((tag.length : Int) ≤ 200) with
      | true =>
        repeat (first | refine Run.seq ?_ | refine Run.region ?_ | refine Ops.nil ?_ | refine Run.cond_t rfl ?_ | refine Ops.pure T rfl (by decide) rfl ?_ | refine Ops.load 2 rfl (by decide) rfl rfl (T.aggOk rfl) rfl ?_ | refine Ops.loadN 0 rfl (by decide) rfl rfl (T.aggOk rfl) (T.sizeOk rfl) rfl rfl ?_ | refine Ops.store 0 rfl rfl rfl rfl rfl (T.sizeOk rfl) rfl (Nat.le_of_ble_eq_true rfl) rfl rfl ?_ | refine Ops.store 1 rfl rfl rfl rfl rfl (T.sizeOk rfl) rfl (Nat.le_of_ble_eq_true rfl) rfl rfl ?_)
        refine Run.retC T 1 (by rw [hCf]; exact Proofs.Tryz.func12) Proofs.Tryz.results12 rfl rfl rfl rfl rfl rfl (hR _ _ _ ?_)
        refine ⟨rfl, ?_⟩
        simp only [Ask.opts, h1, h3, h2]
        rfl
      | false =>
        repeat (first | refine Run.seq ?_ | refine Run.region ?_ | refine Ops.nil ?_ | refine Run.skip ?_ | refine Run.cond_f rfl ?_ | refine Ops.loadN 0 rfl (by decide) rfl rfl (T.aggOk rfl) (T.sizeOk rfl) rfl rfl ?_ | refine Ops.store 1 rfl rfl rfl rfl rfl (T.sizeOk rfl) rfl (Nat.le_of_ble_eq_true rfl) rfl rfl ?_)
        refine Run.retC T 1 (by rw [hCf]; exact Proofs.Tryz.func12) Proofs.Tryz.results12 rfl rfl rfl rfl rfl rfl (hR _ _ _ ?_)
        refine ⟨rfl, ?_⟩
        simp only [Ask.opts, h1, h3, h2]
        rfl
/-- names that differ by what a loose registry lets differ -/
theorem laws_sameName (I : Imm) (k : Int) (r p id nm tx sa sb sc cn ct rn : Tx) (hr : r.length ≤ 1099511627776) (h : loose r = false → sa = sb) :
    Pure Proofs.Tryz.prog 20 [.agg (Nm.mk k r p id nm tx sa sc cn ct rn).cs.toArray, .agg (Nm.mk k r p id nm tx sb sc cn ct rn).cs.toArray] I fun w J => w = .bool true := by
  refine Spec.enter 13 [(0, _), (1, _)] Proofs.Tryz.func20 rfl Proofs.Tryz.ntmps20 (by simp) rfl ?_
  intro C hCf hR hCI
  repeat (first | refine Run.seq ?_ | refine Run.region ?_)
  refine Ops.box rfl (by decide) rfl rfl (fun b1 => ?_)
  refine Ops.box rfl (by decide) rfl rfl (fun b2 => ?_)
  repeat (first | refine Run.seq ?_ | refine Run.region ?_ | refine Ops.nil ?_ | refine Ops.pure T rfl (by decide) rfl ?_ | refine Ops.load 1 rfl (by decide) rfl rfl (T.aggOk rfl) rfl ?_)
  refine Ops.call ((spec_LooseScheme I r (by omega))) rfl (by decide) Proofs.Tryz.call42 rfl ?_
  rintro _ J1 l1 rfl
  cases hl : loose r with
  | true =>
    repeat (first | refine Run.seq ?_ | refine Run.region ?_ | refine Ops.nil ?_ | refine Run.cond_t rfl ?_ | refine Ops.pure T rfl (by decide) rfl ?_ | refine Ops.loadN 0 rfl (by decide) rfl rfl (T.aggOk rfl) (T.sizeOk rfl) rfl rfl ?_ | refine Ops.loadN 1 rfl (by decide) rfl rfl (T.aggOk rfl) (T.sizeOk rfl) rfl rfl ?_ | refine Ops.store 0 rfl rfl rfl rfl rfl (T.sizeOk rfl) rfl (Nat.le_of_ble_eq_true rfl) rfl rfl ?_ | refine Ops.store 1 rfl rfl rfl rfl rfl (T.sizeOk rfl) rfl (Nat.le_of_ble_eq_true rfl) rfl rfl ?_)
    refine Ops.eqlAgg T [26] (by kernel_rfl) rfl rfl (by decide) rfl rfl rfl ?_
    simp only [beq_self_eq_true, Bool.and_self]
    repeat (first | refine Ops.nil ?_ | refine Ops.pure T rfl (by decide) rfl ?_)
    refine Run.fin (Run.ret1 (by rw [hCf]; exact Proofs.Tryz.func20) Proofs.Tryz.results20 rfl (hR _ _ _ ?_))
    exact ⟨rfl, rfl⟩
  | false =>
    obtain rfl := h hl
    repeat (first | refine Run.seq ?_ | refine Run.region ?_ | refine Ops.nil ?_ | refine Run.skip ?_ | refine Run.cond_f rfl ?_ | refine Ops.loadN 0 rfl (by decide) rfl rfl (T.aggOk rfl) (T.sizeOk rfl) rfl rfl ?_ | refine Ops.loadN 1 rfl (by decide) rfl rfl (T.aggOk rfl) (T.sizeOk rfl) rfl rfl ?_)
    refine Ops.eqlAgg T [26] (by kernel_rfl) rfl rfl (by decide) rfl rfl rfl ?_
    simp only [beq_self_eq_true, Bool.and_self]
    repeat (first | refine Ops.nil ?_ | refine Ops.pure T rfl (by decide) rfl ?_)
    refine Run.fin (Run.ret1 (by rw [hCf]; exact Proofs.Tryz.func20) Proofs.Tryz.results20 rfl (hR _ _ _ ?_))
    exact ⟨rfl, rfl⟩
theorem nmd_split (k : Int) (r p id : Tx) (hk : k = 1 ∨ k = 2 ∨ k = 3 ∨ k = 4) : ∃ nm, ∃ f : Tx → Tx, ∃ sc cn ct rn, ∀ b text, nmd b k r p id text = Nm.mk k r p id nm (f text) (schemeT b) sc cn ct rn := by
  rcases hk with rfl | rfl | rfl | rfl
  · exact ⟨_, fun _ => _, _, _, _, _, fun _ _ => rfl⟩
  · exact ⟨_, fun _ => _, _, _, _, _, fun _ _ => rfl⟩
  · exact ⟨_, fun t => t, _, _, _, _, fun _ _ => rfl⟩
  · exact ⟨_, fun t => t, _, _, _, _, fun _ _ => rfl⟩
end Go.V
/-
  The laws of names read: they return true.
-/
namespace Go.V
open Go.RowKit
set_option linter.unusedVariables false
set_option linter.unusedSimpArgs false
set_option maxRecDepth 10000
attribute [local irreducible] Run Ops
theorem ubuntu_parts : sParts ⟨false, false, [], []⟩ 0 [117, 98, 117, 110, 116, 117] = (3, hubT, [108, 105, 98, 114, 97, 114, 121, 47, 117, 98, 117, 110, 116, 117], latestT, true, false) := by kernel_rfl
set_option maxHeartbeats 2000000 in
theorem laws_nameAwake (I : Imm) : Pure Proofs.Tryz.prog 14 [] I fun w J => w = .bool true := by
  refine Spec.enter 16 [] Proofs.Tryz.func14 rfl Proofs.Tryz.ntmps14 (by simp) rfl ?_
  intro C hCf hR hCI
  repeat (first | refine Run.seq ?_ | refine Run.region ?_ | refine Ops.nil ?_ | refine Ops.pure T rfl (by decide) rfl ?_)
  refine Ops.buildL bd30 rfl (by decide) rfl rfl ?_
  refine Ops.call ((impl_NameParse I [117, 98, 117, 110, 116, 117] 0 ⟨false, false, [], []⟩ (.inl rfl) (by decide) (.inl rfl))) rfl (by decide) Proofs.Tryz.call11 rfl ?_
  rintro _ J1 l1 ⟨a, hres, hans, hlen⟩
  have hans2 := hans _ _ _ _ _ ubuntu_parts
  cases a with
  | none => exact absurd hans2 (by decide)
  | some n =>
    obtain ⟨_, hn⟩ := hans2
    have hres2 : _ = _ := hres
    subst hres2
    obtain ⟨nm, f, sc, cn, ct, rn, he⟩ := nmd_split 3 hubT [108, 105, 98, 114, 97, 114, 121, 47, 117, 98, 117, 110, 116, 117] latestT (by decide)
    have hnm : nm = [105, 110, 100, 101, 120, 46, 100, 111, 99, 107, 101, 114, 46, 105, 111, 47, 108, 105, 98, 114, 97, 114, 121, 47, 117, 98, 117, 110, 116, 117, 58, 108, 97, 116, 101, 115, 116] := by
      have h1 : (nmd true 3 hubT [108, 105, 98, 114, 97, 114, 121, 47, 117, 98, 117, 110, 116, 117] latestT []).name = nm := congrArg Nm.name (he true [])
      rw [← h1]
      rfl
    subst hnm
    rw [he] at hn
    subst hn
    repeat (first | refine Ops.pure T rfl (by decide) rfl ?_)
    refine Ops.alloc rfl (by decide) (T.zeroOk rfl) rfl (fun b1 => ?_)
    repeat (first | refine Run.seq ?_ | refine Run.region ?_ | refine Ops.nil ?_ | refine Ops.eqlStr rfl (by decide) rfl rfl ?_ | refine Ops.pure T rfl (by decide) rfl ?_ | refine Ops.load 0 rfl (by decide) rfl rfl (T.aggOk rfl) rfl ?_ | refine Ops.store 0 rfl rfl rfl rfl rfl (T.sizeOk rfl) rfl (Nat.le_of_ble_eq_true rfl) rfl rfl ?_)
    refine Run.fin (Run.ret1 (by rw [hCf]; exact Proofs.Tryz.func14) Proofs.Tryz.results14 rfl (hR _ _ _ ?_))
    exact ⟨rfl, rfl⟩
set_option maxHeartbeats 8000000 in
theorem laws_nameHolds (I : Imm) (x : Ask) (which : Int) (hx : x.fits = true) (hw : which = 0 ∨ which = 1 ∨ which = 2 ∨ which = 3 ∨ which = 4) : Pure Proofs.Tryz.prog 16 [.agg x.cs.toArray, .int .i64 which] I fun w J => w = .bool true := by
  obtain ⟨x1, x2, x3⟩ := Ask.fits_ok hx
  have hopt := fun J => laws_nameOpts J x ⟨by omega, by omega, by omega⟩
  have hro := x.regOk
  have htl := x.tagOk
  have hrl := regOk_len hro
  generalize x.opts = o at *
  obtain ⟨tx, st, ins, reg, tag⟩ := x
  simp only at x1 x2 x3
  refine Spec.enter 72 [(0, _), (1, _)] Proofs.Tryz.func16 rfl Proofs.Tryz.ntmps16 (by simp) rfl ?_
  intro C hCf hR hCI
  repeat (first | refine Run.seq ?_ | refine Run.region ?_)
  refine Ops.box rfl (by decide) rfl rfl (fun b1 => ?_)
  repeat (first | refine Run.seq ?_ | refine Run.region ?_ | refine Ops.nil ?_ | refine Ops.pure T rfl (by decide) rfl ?_ | refine Ops.loadN 0 rfl (by decide) rfl rfl (T.aggOk rfl) (T.sizeOk rfl) rfl rfl ?_)
  refine Ops.call ((hopt I)) rfl (by decide) Proofs.Tryz.call12 rfl ?_
  rintro _ J1 l1 rfl
  refine Ops.alloc rfl (by decide) (T.zeroOk rfl) rfl (fun b2 => ?_)
  repeat (first | refine Run.seq ?_ | refine Run.region ?_ | refine Ops.nil ?_ | refine Ops.pure T rfl (by decide) rfl ?_ | refine Ops.load 1 rfl (by decide) rfl rfl (T.aggOk rfl) rfl ?_ | refine Ops.loadN 0 rfl (by decide) rfl rfl (T.aggOk rfl) (T.sizeOk rfl) rfl rfl ?_ | refine Ops.store 0 rfl rfl rfl rfl rfl (T.sizeOk rfl) rfl (Nat.le_of_ble_eq_true rfl) rfl rfl ?_)
  refine Ops.call ((spec_NameRead J1 tx which o (by omega) hro htl hw)) rfl (by decide) Proofs.Tryz.call13 rfl ?_
  rintro _ J2 l2 rfl
  unfold nrV
  rcases hsp : sParts o which tx with ⟨k, r, p, t, ok, op⟩
  have hread : sRead o which tx = if !ok || op then (Nm.zero, ok, op) else (nmd (o.ins || localF r) k r p t tx, true, false) := by unfold sRead; rw [hsp]; rfl
  cases op with
  | true =>
    have hread2 : sRead o which tx = (Nm.zero, ok, true) := by rw [hread]; cases ok <;> rfl
    rw [hread2]
    repeat (first | refine Ops.pure T rfl (by decide) rfl ?_)
    refine Ops.alloc rfl (by decide) (T.zeroOk rfl) rfl (fun b3 => ?_)
    repeat (first | refine Run.seq ?_ | refine Run.region ?_ | refine Ops.nil ?_ | refine Ops.gtr rfl (by decide) rfl rfl ?_ | refine Ops.pure T rfl (by decide) rfl ?_ | refine Ops.lenS T rfl (by decide) rfl rfl ?_ | refine Ops.load 2 rfl (by decide) rfl rfl (T.aggOk rfl) rfl ?_ | refine Ops.store 0 rfl rfl rfl rfl rfl (T.sizeOk rfl) rfl (Nat.le_of_ble_eq_true rfl) rfl rfl ?_)
    cases h1 : decide ((1000 : Int) < tx.length) with
    | true =>
      repeat (first | refine Run.seq ?_ | refine Run.region ?_ | refine Ops.nil ?_ | refine Run.cond_t rfl ?_ | refine Ops.not rfl (by decide) ?_ | refine Ops.pure T rfl (by decide) rfl ?_)
      refine Ops.call ((laws_nameAwake _)) rfl (by decide) Proofs.Tryz.call14 rfl ?_
      rintro _ J5 l5 rfl
      repeat (first | refine Ops.nil ?_ | refine Ops.pure T rfl (by decide) rfl ?_)
      refine Run.fin (Run.ret1 (by rw [hCf]; exact Proofs.Tryz.func16) Proofs.Tryz.results16 rfl (hR _ _ _ ?_))
      exact ⟨rfl, rfl⟩
    | false =>
      repeat (first | refine Run.seq ?_ | refine Run.region ?_ | refine Ops.nil ?_ | refine Run.cond_t rfl ?_ | refine Ops.pure T rfl (by decide) rfl ?_)
      refine Ops.call ((laws_nameAwake _)) rfl (by decide) Proofs.Tryz.call14 rfl ?_
      rintro _ J5 l5 rfl
      repeat (first | refine Ops.nil ?_ | refine Ops.pure T rfl (by decide) rfl ?_)
      refine Run.fin (Run.ret1 (by rw [hCf]; exact Proofs.Tryz.func16) Proofs.Tryz.results16 rfl (hR _ _ _ ?_))
      exact ⟨rfl, rfl⟩
  | false =>
  have hpar := impl_NameParse J2 tx which o hro
  cases ok with
  | false =>
    have hread2 : sRead o which tx = (Nm.zero, false, false) := by rw [hread]; rfl
    rw [hread2]
    repeat (first | refine Ops.pure T rfl (by decide) rfl ?_)
    refine Ops.alloc rfl (by decide) (T.zeroOk rfl) rfl (fun b3 => ?_)
    repeat (first | refine Run.seq ?_ | refine Run.region ?_ | refine Ops.nil ?_ | refine Ops.gtr rfl (by decide) rfl rfl ?_ | refine Ops.pure T rfl (by decide) rfl ?_ | refine Ops.lenS T rfl (by decide) rfl rfl ?_ | refine Ops.load 2 rfl (by decide) rfl rfl (T.aggOk rfl) rfl ?_ | refine Ops.store 0 rfl rfl rfl rfl rfl (T.sizeOk rfl) rfl (Nat.le_of_ble_eq_true rfl) rfl rfl ?_)
    cases h1 : decide ((1000 : Int) < tx.length) with
    | true =>
      repeat (first | refine Run.seq ?_ | refine Run.region ?_ | refine Ops.nil ?_ | refine Run.cond_t rfl ?_ | refine Ops.not rfl (by decide) ?_ | refine Ops.pure T rfl (by decide) rfl ?_)
      refine Ops.call ((laws_nameAwake _)) rfl (by decide) Proofs.Tryz.call14 rfl ?_
      rintro _ J5 l5 rfl
      repeat (first | refine Ops.nil ?_ | refine Ops.pure T rfl (by decide) rfl ?_)
      refine Run.fin (Run.ret1 (by rw [hCf]; exact Proofs.Tryz.func16) Proofs.Tryz.results16 rfl (hR _ _ _ ?_))
      exact ⟨rfl, rfl⟩
    | false =>
    have h1' := of_decide_eq_false h1
    repeat (first | refine Run.seq ?_ | refine Run.region ?_ | refine Ops.nil ?_ | refine Run.skip ?_ | refine Run.cond_f rfl ?_ | refine Ops.pure T rfl (by decide) rfl ?_ | refine Ops.load 2 rfl (by decide) rfl rfl (T.aggOk rfl) rfl ?_ | refine Ops.loadN 1 rfl (by decide) rfl rfl (T.aggOk rfl) (T.sizeOk rfl) rfl rfl ?_)
    refine Ops.call ((hpar (by unfold nmBig; omega) hw)) rfl (by decide) Proofs.Tryz.call11 rfl ?_
    rintro _ J3 l3 ⟨a, hres, hans, hlen⟩
    have hans2 := hans _ _ _ _ _ hsp
    cases a with
    | some n => exact absurd hans2.1 (by decide)
    | none =>
      have hres2 : _ = _ := hres
      subst hres2
      repeat (first | refine Ops.pure T rfl (by decide) rfl ?_)
      refine Ops.alloc rfl (by decide) (T.zeroOk rfl) rfl (fun b4 => ?_)
      repeat (first | refine Run.seq ?_ | refine Run.region ?_ | refine Ops.nil ?_ | refine Run.cond_t rfl ?_ | refine Ops.pure T rfl (by decide) rfl ?_ | refine Ops.loadN 0 rfl (by decide) rfl rfl (T.aggOk rfl) (T.sizeOk rfl) rfl rfl ?_ | refine Ops.store 0 rfl rfl rfl rfl rfl (T.sizeOk rfl) rfl (Nat.le_of_ble_eq_true rfl) rfl rfl ?_)
      refine Ops.buildL bd26 rfl (by decide) rfl rfl ?_
      refine Ops.eqlAgg (r := true) T [26] (by kernel_rfl) rfl rfl (by decide) rfl rfl rfl ?_
      repeat (first | refine Ops.not rfl (by decide) ?_ | refine Ops.pure T rfl (by decide) rfl ?_)
      refine Ops.call ((laws_nameAwake _)) rfl (by decide) Proofs.Tryz.call14 rfl ?_
      rintro _ J5 l5 rfl
      repeat (first | refine Ops.nil ?_ | refine Ops.pure T rfl (by decide) rfl ?_)
      refine Run.fin (Run.ret1 (by rw [hCf]; exact Proofs.Tryz.func16) Proofs.Tryz.results16 rfl (hR _ _ _ ?_))
      exact ⟨rfl, rfl⟩
  | true =>
    obtain ⟨⟨q1, q2, q3, q4⟩, hk⟩ := sParts_len hro htl hsp
    have q5 := plain_len q1
    have hread2 : sRead o which tx = (nmd (o.ins || localF r) k r p t tx, true, false) := by rw [hread]; rfl
    rw [hread2]
    have hsch : loose r = false → schemeT (o.ins || pHttp r) = schemeT (o.ins || localF r) := fun hl => by rw [http_eq q1 hl]
    obtain ⟨nm, f, sc, cn, ct, rn, he⟩ := nmd_split k r p t hk
    rw [he]
    generalize schemeT (o.ins || localF r) = sb at *
    repeat (first | refine Ops.pure T rfl (by decide) rfl ?_)
    refine Ops.alloc rfl (by decide) (T.zeroOk rfl) rfl (fun b3 => ?_)
    repeat (first | refine Run.seq ?_ | refine Run.region ?_ | refine Ops.nil ?_ | refine Ops.gtr rfl (by decide) rfl rfl ?_ | refine Ops.pure T rfl (by decide) rfl ?_ | refine Ops.lenS T rfl (by decide) rfl rfl ?_ | refine Ops.load 2 rfl (by decide) rfl rfl (T.aggOk rfl) rfl ?_ | refine Ops.store 0 rfl rfl rfl rfl rfl (T.sizeOk rfl) rfl (Nat.le_of_ble_eq_true rfl) rfl rfl ?_)
    cases h1 : decide ((1000 : Int) < tx.length) with
    | true =>
      repeat (first | refine Run.seq ?_ | refine Run.region ?_ | refine Ops.nil ?_ | refine Run.cond_t rfl ?_ | refine Ops.not rfl (by decide) ?_ | refine Ops.pure T rfl (by decide) rfl ?_)
      refine Ops.call ((laws_nameAwake _)) rfl (by decide) Proofs.Tryz.call14 rfl ?_
      rintro _ J5 l5 rfl
      repeat (first | refine Ops.nil ?_ | refine Ops.pure T rfl (by decide) rfl ?_)
      refine Run.fin (Run.ret1 (by rw [hCf]; exact Proofs.Tryz.func16) Proofs.Tryz.results16 rfl (hR _ _ _ ?_))
      exact ⟨rfl, rfl⟩
    | false =>
    have h1' := of_decide_eq_false h1
    repeat (first | refine Run.seq ?_ | refine Run.region ?_ | refine Ops.nil ?_ | refine Run.skip ?_ | refine Run.cond_f rfl ?_ | refine Ops.pure T rfl (by decide) rfl ?_ | refine Ops.load 2 rfl (by decide) rfl rfl (T.aggOk rfl) rfl ?_ | refine Ops.loadN 1 rfl (by decide) rfl rfl (T.aggOk rfl) (T.sizeOk rfl) rfl rfl ?_)
    refine Ops.call ((hpar (by unfold nmBig; omega) hw)) rfl (by decide) Proofs.Tryz.call11 rfl ?_
    rintro _ J3 l3 ⟨a, hres, hans, hlen⟩
    have hans2 := hans _ _ _ _ _ hsp
    cases a with
    | none => exact absurd (show true = false from hans2) (by decide)
    | some n =>
      obtain ⟨_, hn⟩ := hans2
      have hres2 : _ = _ := hres
      subst hres2
      rw [he] at hn
      subst hn
      generalize schemeT (o.ins || pHttp r) = sa at *
      repeat (first | refine Ops.pure T rfl (by decide) rfl ?_)
      refine Ops.alloc rfl (by decide) (T.zeroOk rfl) rfl (fun b4 => ?_)
      repeat (first | refine Run.seq ?_ | refine Run.region ?_ | refine Ops.nil ?_ | refine Run.skip ?_ | refine Run.cond_f rfl ?_ | refine Ops.pure T rfl (by decide) rfl ?_ | refine Ops.loadN 0 rfl (by decide) rfl rfl (T.aggOk rfl) (T.sizeOk rfl) rfl rfl ?_ | refine Ops.loadN 1 rfl (by decide) rfl rfl (T.aggOk rfl) (T.sizeOk rfl) rfl rfl ?_ | refine Ops.store 0 rfl rfl rfl rfl rfl (T.sizeOk rfl) rfl (Nat.le_of_ble_eq_true rfl) rfl rfl ?_)
      refine Ops.call ((laws_sameName J3 k r p t nm (f tx) sa sb sc cn ct rn (by omega) hsch)) rfl (by decide) Proofs.Tryz.call20 rfl ?_
      rintro _ J4 l4 rfl
      repeat (first | refine Ops.pure T rfl (by decide) rfl ?_)
      refine Ops.call ((laws_nameAwake _)) rfl (by decide) Proofs.Tryz.call14 rfl ?_
      rintro _ J5 l5 rfl
      repeat (first | refine Ops.nil ?_ | refine Ops.pure T rfl (by decide) rfl ?_)
      refine Run.fin (Run.ret1 (by rw [hCf]; exact Proofs.Tryz.func16) Proofs.Tryz.results16 rfl (hR _ _ _ ?_))
      exact ⟨rfl, rfl⟩
abbrev cdAsk : Cd := .st (.pair .str (.pair .bool (.pair .bool (.pair .str .str))))
def askOf (x : cdAsk.ty) : Ask := let y : Tx × Bool × Bool × Tx × Tx := x; ⟨y.1, y.2.1, y.2.2.1, y.2.2.2.1, y.2.2.2.2⟩
theorem Val.ask {I : Imm} {v : Value} {x : cdAsk.ty} (h : Val cdAsk I v x) : v = .agg (askOf x).cs.toArray := by
  obtain ⟨cs, rfl, h⟩ := h
  obtain ⟨c1, c2, rfl, rfl, c3, c4, rfl, rfl, c5, c6, rfl, rfl, c7, c8, rfl, rfl, rfl⟩ := h
  rfl
set_option maxHeartbeats 2000000 in
theorem laws_FnNameReference (I : Imm) (v : Value) (x : cdAsk.ty) (hv : Val cdAsk I v x) (hx : cdAsk.ok x) : Pure Proofs.Tryz.prog 5 [v] I fun v _ => v = .bool true := by
  obtain rfl := hv.ask
  clear hv hx
  generalize askOf x = a at *
  have hf := laws_zzFits33 I a
  have hn := laws_nameHolds
  obtain ⟨tx, st, ins, reg, tag⟩ := a
  refine Spec.enter 8 [(0, _)] Proofs.Tryz.func5 rfl Proofs.Tryz.ntmps5 (by simp) rfl ?_
  intro C hCf hR hCI
  repeat (first | refine Run.seq ?_ | refine Run.region ?_)
  refine Ops.box rfl (by decide) rfl rfl (fun b => ?_)
  repeat (first | refine Run.seq ?_ | refine Run.region ?_ | refine Ops.nil ?_ | refine Ops.pure T rfl (by decide) rfl ?_ | refine Ops.loadN 0 rfl (by decide) rfl rfl (T.aggOk rfl) (T.sizeOk rfl) rfl rfl ?_)
  refine Ops.call (hf) rfl (by decide) Proofs.Tryz.call10 rfl ?_
  rintro _ J1 l1 rfl
  cases hb : (Ask.mk tx st ins reg tag).fits with
  | false =>
    repeat (first | refine Run.seq ?_ | refine Run.region ?_ | refine Ops.nil ?_ | refine Run.cond_t rfl ?_ | refine Ops.pure T rfl (by decide) rfl ?_)
    refine Run.fin (Run.ret1 (by rw [hCf]; exact Proofs.Tryz.func5) Proofs.Tryz.results5 rfl (hR _ _ _ ?_))
    exact ⟨rfl, rfl⟩
  | true =>
    repeat (first | refine Run.seq ?_ | refine Run.region ?_ | refine Ops.nil ?_ | refine Run.skip ?_ | refine Run.cond_f rfl ?_ | refine Ops.pure T rfl (by decide) rfl ?_ | refine Ops.loadN 0 rfl (by decide) rfl rfl (T.aggOk rfl) (T.sizeOk rfl) rfl rfl ?_)
    refine Ops.call ((hn J1 _ 0 hb (by decide))) rfl (by decide) Proofs.Tryz.call16 rfl ?_
    rintro _ J2 l2 rfl
    repeat (first | refine Ops.nil ?_ | refine Ops.pure T rfl (by decide) rfl ?_)
    refine Run.fin (Run.ret1 (by rw [hCf]; exact Proofs.Tryz.func5) Proofs.Tryz.results5 rfl (hR _ _ _ ?_))
    exact ⟨rfl, rfl⟩
set_option maxHeartbeats 2000000 in
theorem laws_FnNameRegistry (I : Imm) (v : Value) (x : cdAsk.ty) (hv : Val cdAsk I v x) (hx : cdAsk.ok x) : Pure Proofs.Tryz.prog 6 [v] I fun v _ => v = .bool true := by
  obtain rfl := hv.ask
  clear hv hx
  generalize askOf x = a at *
  have hf := laws_zzFits33 I a
  have hn := laws_nameHolds
  obtain ⟨tx, st, ins, reg, tag⟩ := a
  refine Spec.enter 8 [(0, _)] Proofs.Tryz.func6 rfl Proofs.Tryz.ntmps6 (by simp) rfl ?_
  intro C hCf hR hCI
  repeat (first | refine Run.seq ?_ | refine Run.region ?_)
  refine Ops.box rfl (by decide) rfl rfl (fun b => ?_)
  repeat (first | refine Run.seq ?_ | refine Run.region ?_ | refine Ops.nil ?_ | refine Ops.pure T rfl (by decide) rfl ?_ | refine Ops.loadN 0 rfl (by decide) rfl rfl (T.aggOk rfl) (T.sizeOk rfl) rfl rfl ?_)
  refine Ops.call (hf) rfl (by decide) Proofs.Tryz.call10 rfl ?_
  rintro _ J1 l1 rfl
  cases hb : (Ask.mk tx st ins reg tag).fits with
  | false =>
    repeat (first | refine Run.seq ?_ | refine Run.region ?_ | refine Ops.nil ?_ | refine Run.cond_t rfl ?_ | refine Ops.pure T rfl (by decide) rfl ?_)
    refine Run.fin (Run.ret1 (by rw [hCf]; exact Proofs.Tryz.func6) Proofs.Tryz.results6 rfl (hR _ _ _ ?_))
    exact ⟨rfl, rfl⟩
  | true =>
    repeat (first | refine Run.seq ?_ | refine Run.region ?_ | refine Ops.nil ?_ | refine Run.skip ?_ | refine Run.cond_f rfl ?_ | refine Ops.pure T rfl (by decide) rfl ?_ | refine Ops.loadN 0 rfl (by decide) rfl rfl (T.aggOk rfl) (T.sizeOk rfl) rfl rfl ?_)
    refine Ops.call ((hn J1 _ 1 hb (by decide))) rfl (by decide) Proofs.Tryz.call16 rfl ?_
    rintro _ J2 l2 rfl
    repeat (first | refine Ops.nil ?_ | refine Ops.pure T rfl (by decide) rfl ?_)
    refine Run.fin (Run.ret1 (by rw [hCf]; exact Proofs.Tryz.func6) Proofs.Tryz.results6 rfl (hR _ _ _ ?_))
    exact ⟨rfl, rfl⟩
set_option maxHeartbeats 2000000 in
theorem laws_FnNameRepository (I : Imm) (v : Value) (x : cdAsk.ty) (hv : Val cdAsk I v x) (hx : cdAsk.ok x) : Pure Proofs.Tryz.prog 7 [v] I fun v _ => v = .bool true := by
  obtain rfl := hv.ask
  clear hv hx
  generalize askOf x = a at *
  have hf := laws_zzFits33 I a
  have hn := laws_nameHolds
  obtain ⟨tx, st, ins, reg, tag⟩ := a
  refine Spec.enter 8 [(0, _)] Proofs.Tryz.func7 rfl Proofs.Tryz.ntmps7 (by simp) rfl ?_
  intro C hCf hR hCI
  repeat (first | refine Run.seq ?_ | refine Run.region ?_)
  refine Ops.box rfl (by decide) rfl rfl (fun b => ?_)
  repeat (first | refine Run.seq ?_ | refine Run.region ?_ | refine Ops.nil ?_ | refine Ops.pure T rfl (by decide) rfl ?_ | refine Ops.loadN 0 rfl (by decide) rfl rfl (T.aggOk rfl) (T.sizeOk rfl) rfl rfl ?_)
  refine Ops.call (hf) rfl (by decide) Proofs.Tryz.call10 rfl ?_
  rintro _ J1 l1 rfl
  cases hb : (Ask.mk tx st ins reg tag).fits with
  | false =>
    repeat (first | refine Run.seq ?_ | refine Run.region ?_ | refine Ops.nil ?_ | refine Run.cond_t rfl ?_ | refine Ops.pure T rfl (by decide) rfl ?_)
    refine Run.fin (Run.ret1 (by rw [hCf]; exact Proofs.Tryz.func7) Proofs.Tryz.results7 rfl (hR _ _ _ ?_))
    exact ⟨rfl, rfl⟩
  | true =>
    repeat (first | refine Run.seq ?_ | refine Run.region ?_ | refine Ops.nil ?_ | refine Run.skip ?_ | refine Run.cond_f rfl ?_ | refine Ops.pure T rfl (by decide) rfl ?_ | refine Ops.loadN 0 rfl (by decide) rfl rfl (T.aggOk rfl) (T.sizeOk rfl) rfl rfl ?_)
    refine Ops.call ((hn J1 _ 2 hb (by decide))) rfl (by decide) Proofs.Tryz.call16 rfl ?_
    rintro _ J2 l2 rfl
    repeat (first | refine Ops.nil ?_ | refine Ops.pure T rfl (by decide) rfl ?_)
    refine Run.fin (Run.ret1 (by rw [hCf]; exact Proofs.Tryz.func7) Proofs.Tryz.results7 rfl (hR _ _ _ ?_))
    exact ⟨rfl, rfl⟩
set_option maxHeartbeats 2000000 in
theorem laws_FnNameTag (I : Imm) (v : Value) (x : cdAsk.ty) (hv : Val cdAsk I v x) (hx : cdAsk.ok x) : Pure Proofs.Tryz.prog 8 [v] I fun v _ => v = .bool true := by
  obtain rfl := hv.ask
  clear hv hx
  generalize askOf x = a at *
  have hf := laws_zzFits33 I a
  have hn := laws_nameHolds
  obtain ⟨tx, st, ins, reg, tag⟩ := a
  refine Spec.enter 8 [(0, _)] Proofs.Tryz.func8 rfl Proofs.Tryz.ntmps8 (by simp) rfl ?_
  intro C hCf hR hCI
  repeat (first | refine Run.seq ?_ | refine Run.region ?_)
  refine Ops.box rfl (by decide) rfl rfl (fun b => ?_)
  repeat (first | refine Run.seq ?_ | refine Run.region ?_ | refine Ops.nil ?_ | refine Ops.pure T rfl (by decide) rfl ?_ | refine Ops.loadN 0 rfl (by decide) rfl rfl (T.aggOk rfl) (T.sizeOk rfl) rfl rfl ?_)
  refine Ops.call (hf) rfl (by decide) Proofs.Tryz.call10 rfl ?_
  rintro _ J1 l1 rfl
  cases hb : (Ask.mk tx st ins reg tag).fits with
  | false =>
    repeat (first | refine Run.seq ?_ | refine Run.region ?_ | refine Ops.nil ?_ | refine Run.cond_t rfl ?_ | refine Ops.pure T rfl (by decide) rfl ?_)
    refine Run.fin (Run.ret1 (by rw [hCf]; exact Proofs.Tryz.func8) Proofs.Tryz.results8 rfl (hR _ _ _ ?_))
    exact ⟨rfl, rfl⟩
  | true =>
    repeat (first | refine Run.seq ?_ | refine Run.region ?_ | refine Ops.nil ?_ | refine Run.skip ?_ | refine Run.cond_f rfl ?_ | refine Ops.pure T rfl (by decide) rfl ?_ | refine Ops.loadN 0 rfl (by decide) rfl rfl (T.aggOk rfl) (T.sizeOk rfl) rfl rfl ?_)
    refine Ops.call ((hn J1 _ 3 hb (by decide))) rfl (by decide) Proofs.Tryz.call16 rfl ?_
    rintro _ J2 l2 rfl
    repeat (first | refine Ops.nil ?_ | refine Ops.pure T rfl (by decide) rfl ?_)
    refine Run.fin (Run.ret1 (by rw [hCf]; exact Proofs.Tryz.func8) Proofs.Tryz.results8 rfl (hR _ _ _ ?_))
    exact ⟨rfl, rfl⟩
set_option maxHeartbeats 2000000 in
theorem laws_FnNameDigest (I : Imm) (v : Value) (x : cdAsk.ty) (hv : Val cdAsk I v x) (hx : cdAsk.ok x) : Pure Proofs.Tryz.prog 4 [v] I fun v _ => v = .bool true := by
  obtain rfl := hv.ask
  clear hv hx
  generalize askOf x = a at *
  have hf := laws_zzFits33 I a
  have hn := laws_nameHolds
  obtain ⟨tx, st, ins, reg, tag⟩ := a
  refine Spec.enter 8 [(0, _)] Proofs.Tryz.func4 rfl Proofs.Tryz.ntmps4 (by simp) rfl ?_
  intro C hCf hR hCI
  repeat (first | refine Run.seq ?_ | refine Run.region ?_)
  refine Ops.box rfl (by decide) rfl rfl (fun b => ?_)
  repeat (first | refine Run.seq ?_ | refine Run.region ?_ | refine Ops.nil ?_ | refine Ops.pure T rfl (by decide) rfl ?_ | refine Ops.loadN 0 rfl (by decide) rfl rfl (T.aggOk rfl) (T.sizeOk rfl) rfl rfl ?_)
  refine Ops.call (hf) rfl (by decide) Proofs.Tryz.call10 rfl ?_
  rintro _ J1 l1 rfl
  cases hb : (Ask.mk tx st ins reg tag).fits with
  | false =>
    repeat (first | refine Run.seq ?_ | refine Run.region ?_ | refine Ops.nil ?_ | refine Run.cond_t rfl ?_ | refine Ops.pure T rfl (by decide) rfl ?_)
    refine Run.fin (Run.ret1 (by rw [hCf]; exact Proofs.Tryz.func4) Proofs.Tryz.results4 rfl (hR _ _ _ ?_))
    exact ⟨rfl, rfl⟩
  | true =>
    repeat (first | refine Run.seq ?_ | refine Run.region ?_ | refine Ops.nil ?_ | refine Run.skip ?_ | refine Run.cond_f rfl ?_ | refine Ops.pure T rfl (by decide) rfl ?_ | refine Ops.loadN 0 rfl (by decide) rfl rfl (T.aggOk rfl) (T.sizeOk rfl) rfl rfl ?_)
    refine Ops.call ((hn J1 _ 4 hb (by decide))) rfl (by decide) Proofs.Tryz.call16 rfl ?_
    rintro _ J2 l2 rfl
    repeat (first | refine Ops.nil ?_ | refine Ops.pure T rfl (by decide) rfl ?_)
    refine Run.fin (Run.ret1 (by rw [hCf]; exact Proofs.Tryz.func4) Proofs.Tryz.results4 rfl (hR _ _ _ ?_))
    exact ⟨rfl, rfl⟩
end Go.V
