import Derived.Test.YtnoklmcaeijfaaaGreatBM10
import Derived.Shelf.Path.Join
import Derived.Test.YtnoklmcaeijfaaaGreatProg
import Derived.KernelRfl
import Derived.Lib.CleanSame
import Derived.Test.YtnoklmcaeijfaaaGreatBM6
/-
  A name read, as the document's function does.
-/
namespace Go.V
open Go.RowKit
set_option linter.unusedVariables false
set_option linter.unusedSimpArgs false
set_option maxRecDepth 10000
attribute [local irreducible] Run Ops
theorem spec_registryOf' (I : Imm) (s : Tx) (st ins : Bool) (reg tag : Tx) (hs : s.length ≤ 4620000000000000000) {r : Tx} {ok op : Bool} (hx : sReg st reg s = (r, ok, op)) : Pure Proofs.Tryz.prog 32 [str s, .agg (NOpt.mk st ins reg tag).cs.toArray] I fun w J => w = .tuple #[str r, .bool ok, .bool op] := by
  have h := spec_registryOf I s ⟨st, ins, reg, tag⟩ hs
  rw [show sReg (NOpt.mk st ins reg tag).strict (NOpt.mk st ins reg tag).reg s = (r, ok, op) from hx] at h
  exact h
theorem spec_repositoryOf2 (I : Imm) (s : Tx) (st ins : Bool) (reg tag : Tx) (hs : s.length ≤ 4620000000000000000) {r p : Tx} {ok op : Bool} (hx : sRepo st reg s = (r, p, ok, op)) : Pure Proofs.Tryz.prog 33 [str s, .agg (NOpt.mk st ins reg tag).cs.toArray] I fun w J => w = .tuple #[str r, str p, .bool ok, .bool op] := by
  have h := spec_repositoryOf I s ⟨st, ins, reg, tag⟩ hs
  rw [show sRepo (NOpt.mk st ins reg tag).strict (NOpt.mk st ins reg tag).reg s = (r, p, ok, op) from hx] at h
  exact h
theorem spec_tagOf' (I : Imm) (s : Tx) (st ins : Bool) (reg tag : Tx) (hs : s.length ≤ 4620000000000000000) {r p t : Tx} {ok op : Bool} (hx : sTag ⟨st, ins, reg, tag⟩ s = (r, p, t, ok, op)) : Pure Proofs.Tryz.prog 34 [str s, .agg (NOpt.mk st ins reg tag).cs.toArray] I fun w J => w = .tuple #[str r, str p, str t, .bool ok, .bool op] := by
  have h := spec_tagOf I s ⟨st, ins, reg, tag⟩ hs
  rw [hx] at h
  exact h
theorem spec_digestOf' (I : Imm) (s : Tx) (st ins : Bool) (reg tag : Tx) (hs : s.length ≤ 4620000000000000000) {r p t : Tx} {ok op : Bool} (hx : sDig ⟨st, ins, reg, tag⟩ s = (r, p, t, ok, op)) : Pure Proofs.Tryz.prog 35 [str s, .agg (NOpt.mk st ins reg tag).cs.toArray] I fun w J => w = .tuple #[str r, str p, str t, .bool ok, .bool op] := by
  have h := spec_digestOf I s ⟨st, ins, reg, tag⟩ hs
  rw [hx] at h
  exact h
def nrV (x : Nm × Bool × Bool) : Value := .tuple #[.agg x.1.cs.toArray, .bool x.2.1, .bool x.2.2]
set_option maxHeartbeats 8000000 in
theorem spec_NameRead (I : Imm) (s : Tx) (which : Int) (o : NOpt) (hs : s.length ≤ 4620000000000000000) (hro : regOk o.reg) (htl : o.tag.length ≤ 200) (hw : which = 0 ∨ which = 1 ∨ which = 2 ∨ which = 3 ∨ which = 4) :
    Pure Proofs.Tryz.prog 13 [str s, .int .i64 which, .agg o.cs.toArray] I fun w J => w = nrV (sRead o which s) := by
  obtain ⟨st, ins, reg, tag⟩ := o
  rcases hw with rfl | rfl | rfl | rfl | rfl
  · skip
    refine Spec.enter 95 [(0, _), (1, _), (2, _)] Proofs.Tryz.func13 rfl Proofs.Tryz.ntmps13 (by simp) rfl ?_
    intro C hCf hR hCI
    repeat (first | refine Run.seq ?_ | refine Run.region ?_)
    refine Ops.box rfl (by decide) rfl rfl (fun b1 => ?_)
    refine Ops.alloc rfl (by decide) (T.zeroOk rfl) rfl (fun b2 => ?_)
    repeat (first | refine Run.seq ?_ | refine Run.region ?_ | refine Ops.nil ?_ | refine Run.block ?_ | refine Run.cond_f rfl ?_ | refine Ops.eql rfl (by decide) rfl rfl ?_ | refine Ops.pure T rfl (by decide) rfl ?_ | refine Ops.loadN 1 rfl (by decide) rfl rfl (T.aggOk rfl) (T.sizeOk rfl) rfl rfl ?_)
    rcases hx : sTag ⟨st, ins, reg, tag⟩ s with ⟨r, p, t, ok, op⟩
    refine Ops.call ((spec_tagOf' I s st ins reg tag hs hx)) rfl (by decide) Proofs.Tryz.call34 rfl ?_
    rintro _ J1 l1 rfl
    repeat (first | refine Run.seq ?_ | refine Run.region ?_ | refine Ops.nil ?_ | refine Ops.pure T rfl (by decide) rfl ?_)
    cases ok with
    | true =>
      repeat (first | refine Run.seq ?_ | refine Run.region ?_ | refine Ops.nil ?_ | refine Run.skip ?_ | refine Run.inBlock ?_ | refine Run.cond_f rfl ?_ | refine Ops.not rfl (by decide) ?_ | refine Ops.pure T rfl (by decide) rfl ?_)
      have hparts : sParts ⟨st, ins, reg, tag⟩ 0 s = (3, r, p, t, true, op) := by
        simp only [sParts, show ¬ (0 : Int) = 1 by decide, show ¬ (0 : Int) = 2 by decide, show ¬ (0 : Int) = 3 by decide, show ¬ (0 : Int) = 4 by decide, if_false, hx]
        rfl
      have hread : sRead ⟨st, ins, reg, tag⟩ 0 s = if !true || op then (Nm.zero, true, op) else (nmd (ins || localF r) 3 r p t s, true, false) := by unfold sRead; rw [hparts]; rfl
      cases op with
      | true =>
        repeat (first | refine Run.seq ?_ | refine Run.region ?_ | refine Ops.nil ?_ | refine Run.cond_t rfl ?_ | refine Ops.pure T rfl (by decide) rfl ?_ | refine Ops.loadN 0 rfl (by decide) rfl rfl (T.aggOk rfl) (T.sizeOk rfl) rfl rfl ?_ | refine Ops.store 0 rfl rfl rfl rfl rfl (T.sizeOk rfl) rfl (Nat.le_of_ble_eq_true rfl) rfl rfl ?_)
        refine Run.retCTT T 0 (by rw [hCf]; exact Proofs.Tryz.func13) Proofs.Tryz.results13 rfl rfl rfl rfl rfl rfl rfl rfl (hR _ _ _ ?_)
        refine ⟨rfl, ?_⟩
        rw [hread]
        rfl
      | false =>
      obtain ⟨⟨q1, q2, q3, q4⟩, _⟩ := sParts_len hro htl hparts
      have q5 := plain_len q1
      repeat (first | refine Run.seq ?_ | refine Run.region ?_ | refine Run.skip ?_ | refine Run.cond_f rfl ?_ | refine Ops.pure T rfl (by decide) rfl ?_ | refine Ops.loadN 1 rfl (by decide) rfl rfl (T.aggOk rfl) (T.sizeOk rfl) rfl rfl ?_)
      refine Ops.call ((spec_named J1 3 (r) (p) (t) s st ins reg tag (by decide) (by omega) (by omega) (by omega))) rfl (by decide) Proofs.Tryz.call36 rfl ?_
      rintro _ J3 l3 rfl
      have hread2 : sRead ⟨st, ins, reg, tag⟩ 0 s = (nmd (ins || localF (r)) 3 (r) (p) (t) s, true, false) := hread
      clear hread
      generalize nmd (ins || localF (r)) 3 (r) (p) (t) s = nm at *
      obtain ⟨n0, n1, n2, n3, n4, n5, n6, n7, n8, n9, n10⟩ := nm
      have hread := hread2
      repeat (first | refine Ops.nil ?_ | refine Ops.pure T rfl (by decide) rfl ?_ | refine Ops.store 0 rfl rfl rfl rfl rfl (T.sizeOk rfl) rfl (Nat.le_of_ble_eq_true rfl) rfl rfl ?_)
      refine Run.retCTT T 0 (by rw [hCf]; exact Proofs.Tryz.func13) Proofs.Tryz.results13 rfl rfl rfl rfl rfl rfl rfl rfl (hR _ _ _ ?_)
      refine ⟨rfl, ?_⟩
      rw [hread]
      rfl
    | false =>
    cases op with
    | true =>
      have hparts : sParts ⟨st, ins, reg, tag⟩ 0 s = (3, r, p, t, false, true) := by
        simp only [sParts, show ¬ (0 : Int) = 1 by decide, show ¬ (0 : Int) = 2 by decide, show ¬ (0 : Int) = 3 by decide, show ¬ (0 : Int) = 4 by decide, if_false, hx]
        rfl
      have hread : sRead ⟨st, ins, reg, tag⟩ 0 s = (Nm.zero, false, true) := by unfold sRead; rw [hparts]; rfl
      repeat (first | refine Run.seq ?_ | refine Run.region ?_ | refine Ops.nil ?_ | refine Run.skip ?_ | refine Run.inBlock ?_ | refine Run.cond_t rfl ?_ | refine Run.cond_f rfl ?_ | refine Ops.not rfl (by decide) ?_ | refine Ops.pure T rfl (by decide) rfl ?_ | refine Ops.loadN 0 rfl (by decide) rfl rfl (T.aggOk rfl) (T.sizeOk rfl) rfl rfl ?_ | refine Ops.store 0 rfl rfl rfl rfl rfl (T.sizeOk rfl) rfl (Nat.le_of_ble_eq_true rfl) rfl rfl ?_)
      refine Run.retCTT T 0 (by rw [hCf]; exact Proofs.Tryz.func13) Proofs.Tryz.results13 rfl rfl rfl rfl rfl rfl rfl rfl (hR _ _ _ ?_)
      refine ⟨rfl, ?_⟩
      rw [hread]
      rfl
    | false =>
      repeat (first | refine Run.seq ?_ | refine Run.region ?_ | refine Ops.nil ?_ | refine Run.cond_t rfl ?_ | refine Ops.pure T rfl (by decide) rfl ?_ | refine Ops.loadN 1 rfl (by decide) rfl rfl (T.aggOk rfl) (T.sizeOk rfl) rfl rfl ?_)
      rcases hy : sDig ⟨st, ins, reg, tag⟩ s with ⟨r', p', t', ok, op⟩
      refine Ops.call ((spec_digestOf' J1 s st ins reg tag hs hy)) rfl (by decide) Proofs.Tryz.call35 rfl ?_
      rintro _ J2 l2 rfl
      have hparts : sParts ⟨st, ins, reg, tag⟩ 0 s = (4, r', p', t', ok, op) := by
        simp only [sParts, show ¬ (0 : Int) = 1 by decide, show ¬ (0 : Int) = 2 by decide, show ¬ (0 : Int) = 3 by decide, show ¬ (0 : Int) = 4 by decide, if_false, hx, hy]
        rfl
      repeat (first | refine Run.seq ?_ | refine Run.region ?_ | refine Ops.nil ?_ | refine Run.inBlock ?_ | refine Ops.pure T rfl (by decide) rfl ?_)
      have hread : sRead ⟨st, ins, reg, tag⟩ 0 s = if !ok || op then (Nm.zero, ok, op) else (nmd (ins || localF (r')) 4 (r') (p') (t') s, true, false) := by unfold sRead; rw [hparts]; rfl
      cases ok with
      | false =>
        repeat (first | refine Run.seq ?_ | refine Run.region ?_ | refine Ops.nil ?_ | refine Run.cond_t rfl ?_ | refine Ops.not rfl (by decide) ?_ | refine Ops.pure T rfl (by decide) rfl ?_ | refine Ops.loadN 0 rfl (by decide) rfl rfl (T.aggOk rfl) (T.sizeOk rfl) rfl rfl ?_ | refine Ops.store 0 rfl rfl rfl rfl rfl (T.sizeOk rfl) rfl (Nat.le_of_ble_eq_true rfl) rfl rfl ?_)
        refine Run.retCTT T 0 (by rw [hCf]; exact Proofs.Tryz.func13) Proofs.Tryz.results13 rfl rfl rfl rfl rfl rfl rfl rfl (hR _ _ _ ?_)
        refine ⟨rfl, ?_⟩
        rw [hread]
        rfl
      | true =>
      cases op with
      | true =>
        repeat (first | refine Run.seq ?_ | refine Run.region ?_ | refine Ops.nil ?_ | refine Run.cond_t rfl ?_ | refine Ops.pure T rfl (by decide) rfl ?_ | refine Ops.loadN 0 rfl (by decide) rfl rfl (T.aggOk rfl) (T.sizeOk rfl) rfl rfl ?_ | refine Ops.store 0 rfl rfl rfl rfl rfl (T.sizeOk rfl) rfl (Nat.le_of_ble_eq_true rfl) rfl rfl ?_)
        refine Run.retCTT T 0 (by rw [hCf]; exact Proofs.Tryz.func13) Proofs.Tryz.results13 rfl rfl rfl rfl rfl rfl rfl rfl (hR _ _ _ ?_)
        refine ⟨rfl, ?_⟩
        rw [hread]
        rfl
      | false =>
      obtain ⟨⟨q1, q2, q3, q4⟩, _⟩ := sParts_len hro htl hparts
      have q5 := plain_len q1
      repeat (first | refine Run.seq ?_ | refine Run.region ?_ | refine Ops.nil ?_ | refine Run.skip ?_ | refine Run.cond_f rfl ?_ | refine Ops.pure T rfl (by decide) rfl ?_ | refine Ops.loadN 1 rfl (by decide) rfl rfl (T.aggOk rfl) (T.sizeOk rfl) rfl rfl ?_)
      refine Ops.call ((spec_named J2 4 (r') (p') (t') s st ins reg tag (by decide) (by omega) (by omega) (by omega))) rfl (by decide) Proofs.Tryz.call36 rfl ?_
      rintro _ J3 l3 rfl
      have hread2 : sRead ⟨st, ins, reg, tag⟩ 0 s = (nmd (ins || localF (r')) 4 (r') (p') (t') s, true, false) := hread
      clear hread
      generalize nmd (ins || localF (r')) 4 (r') (p') (t') s = nm at *
      obtain ⟨n0, n1, n2, n3, n4, n5, n6, n7, n8, n9, n10⟩ := nm
      have hread := hread2
      repeat (first | refine Ops.nil ?_ | refine Ops.pure T rfl (by decide) rfl ?_ | refine Ops.store 0 rfl rfl rfl rfl rfl (T.sizeOk rfl) rfl (Nat.le_of_ble_eq_true rfl) rfl rfl ?_)
      refine Run.retCTT T 0 (by rw [hCf]; exact Proofs.Tryz.func13) Proofs.Tryz.results13 rfl rfl rfl rfl rfl rfl rfl rfl (hR _ _ _ ?_)
      refine ⟨rfl, ?_⟩
      rw [hread]
      rfl
  · skip
    refine Spec.enter 95 [(0, _), (1, _), (2, _)] Proofs.Tryz.func13 rfl Proofs.Tryz.ntmps13 (by simp) rfl ?_
    intro C hCf hR hCI
    repeat (first | refine Run.seq ?_ | refine Run.region ?_)
    refine Ops.box rfl (by decide) rfl rfl (fun b1 => ?_)
    refine Ops.alloc rfl (by decide) (T.zeroOk rfl) rfl (fun b2 => ?_)
    repeat (first | refine Run.seq ?_ | refine Run.region ?_ | refine Ops.nil ?_ | refine Run.block ?_ | refine Run.cond_t rfl ?_ | refine Ops.eql rfl (by decide) rfl rfl ?_ | refine Ops.pure T rfl (by decide) rfl ?_ | refine Ops.loadN 1 rfl (by decide) rfl rfl (T.aggOk rfl) (T.sizeOk rfl) rfl rfl ?_)
    rcases hx : sReg st reg s with ⟨r, ok, op⟩
    refine Ops.call ((spec_registryOf' I s st ins reg tag hs hx)) rfl (by decide) Proofs.Tryz.call32 rfl ?_
    rintro _ J1 l1 rfl
    have hparts : sParts ⟨st, ins, reg, tag⟩ 1 s = (1, r, [], [], ok, op) := by
      simp only [sParts, if_true, hx]
    repeat (first | refine Run.seq ?_ | refine Run.region ?_ | refine Ops.nil ?_ | refine Run.inBlock ?_ | refine Ops.pure T rfl (by decide) rfl ?_)
    have hread : sRead ⟨st, ins, reg, tag⟩ 1 s = if !ok || op then (Nm.zero, ok, op) else (nmd (ins || localF (r)) 1 (r) ([]) ([]) s, true, false) := by unfold sRead; rw [hparts]; rfl
    cases ok with
    | false =>
      repeat (first | refine Run.seq ?_ | refine Run.region ?_ | refine Ops.nil ?_ | refine Run.cond_t rfl ?_ | refine Ops.not rfl (by decide) ?_ | refine Ops.pure T rfl (by decide) rfl ?_ | refine Ops.loadN 0 rfl (by decide) rfl rfl (T.aggOk rfl) (T.sizeOk rfl) rfl rfl ?_ | refine Ops.store 0 rfl rfl rfl rfl rfl (T.sizeOk rfl) rfl (Nat.le_of_ble_eq_true rfl) rfl rfl ?_)
      refine Run.retCTT T 0 (by rw [hCf]; exact Proofs.Tryz.func13) Proofs.Tryz.results13 rfl rfl rfl rfl rfl rfl rfl rfl (hR _ _ _ ?_)
      refine ⟨rfl, ?_⟩
      rw [hread]
      rfl
    | true =>
    cases op with
    | true =>
      repeat (first | refine Run.seq ?_ | refine Run.region ?_ | refine Ops.nil ?_ | refine Run.cond_t rfl ?_ | refine Ops.pure T rfl (by decide) rfl ?_ | refine Ops.loadN 0 rfl (by decide) rfl rfl (T.aggOk rfl) (T.sizeOk rfl) rfl rfl ?_ | refine Ops.store 0 rfl rfl rfl rfl rfl (T.sizeOk rfl) rfl (Nat.le_of_ble_eq_true rfl) rfl rfl ?_)
      refine Run.retCTT T 0 (by rw [hCf]; exact Proofs.Tryz.func13) Proofs.Tryz.results13 rfl rfl rfl rfl rfl rfl rfl rfl (hR _ _ _ ?_)
      refine ⟨rfl, ?_⟩
      rw [hread]
      rfl
    | false =>
    obtain ⟨⟨q1, q2, q3, q4⟩, _⟩ := sParts_len hro htl hparts
    have q5 := plain_len q1
    repeat (first | refine Run.seq ?_ | refine Run.region ?_ | refine Ops.nil ?_ | refine Run.skip ?_ | refine Run.cond_f rfl ?_ | refine Ops.pure T rfl (by decide) rfl ?_ | refine Ops.loadN 1 rfl (by decide) rfl rfl (T.aggOk rfl) (T.sizeOk rfl) rfl rfl ?_)
    refine Ops.call ((spec_named J1 1 (r) ([]) ([]) s st ins reg tag (by decide) (by omega) (by omega) (by omega))) rfl (by decide) Proofs.Tryz.call36 rfl ?_
    rintro _ J3 l3 rfl
    have hread2 : sRead ⟨st, ins, reg, tag⟩ 1 s = (nmd (ins || localF (r)) 1 (r) ([]) ([]) s, true, false) := hread
    clear hread
    generalize nmd (ins || localF (r)) 1 (r) ([]) ([]) s = nm at *
    obtain ⟨n0, n1, n2, n3, n4, n5, n6, n7, n8, n9, n10⟩ := nm
    have hread := hread2
    repeat (first | refine Ops.nil ?_ | refine Ops.pure T rfl (by decide) rfl ?_ | refine Ops.store 0 rfl rfl rfl rfl rfl (T.sizeOk rfl) rfl (Nat.le_of_ble_eq_true rfl) rfl rfl ?_)
    refine Run.retCTT T 0 (by rw [hCf]; exact Proofs.Tryz.func13) Proofs.Tryz.results13 rfl rfl rfl rfl rfl rfl rfl rfl (hR _ _ _ ?_)
    refine ⟨rfl, ?_⟩
    rw [hread]
    rfl
  · skip
    refine Spec.enter 95 [(0, _), (1, _), (2, _)] Proofs.Tryz.func13 rfl Proofs.Tryz.ntmps13 (by simp) rfl ?_
    intro C hCf hR hCI
    repeat (first | refine Run.seq ?_ | refine Run.region ?_)
    refine Ops.box rfl (by decide) rfl rfl (fun b1 => ?_)
    refine Ops.alloc rfl (by decide) (T.zeroOk rfl) rfl (fun b2 => ?_)
    repeat (first | refine Run.seq ?_ | refine Run.region ?_ | refine Ops.nil ?_ | refine Run.block ?_ | refine Run.cond_t rfl ?_ | refine Run.cond_f rfl ?_ | refine Ops.eql rfl (by decide) rfl rfl ?_ | refine Ops.pure T rfl (by decide) rfl ?_ | refine Ops.loadN 1 rfl (by decide) rfl rfl (T.aggOk rfl) (T.sizeOk rfl) rfl rfl ?_)
    rcases hx : sRepo st reg s with ⟨r, p, ok, op⟩
    refine Ops.call ((spec_repositoryOf2 I s st ins reg tag hs hx)) rfl (by decide) Proofs.Tryz.call33 rfl ?_
    rintro _ J1 l1 rfl
    have hparts : sParts ⟨st, ins, reg, tag⟩ 2 s = (2, r, p, [], ok, op) := by
      simp only [sParts, show ¬ (2 : Int) = 1 by decide, if_false, if_true, hx]
    repeat (first | refine Run.seq ?_ | refine Run.region ?_ | refine Ops.nil ?_ | refine Run.inBlock ?_ | refine Ops.pure T rfl (by decide) rfl ?_)
    have hread : sRead ⟨st, ins, reg, tag⟩ 2 s = if !ok || op then (Nm.zero, ok, op) else (nmd (ins || localF (r)) 2 (r) (p) ([]) s, true, false) := by unfold sRead; rw [hparts]; rfl
    cases ok with
    | false =>
      repeat (first | refine Run.seq ?_ | refine Run.region ?_ | refine Ops.nil ?_ | refine Run.cond_t rfl ?_ | refine Ops.not rfl (by decide) ?_ | refine Ops.pure T rfl (by decide) rfl ?_ | refine Ops.loadN 0 rfl (by decide) rfl rfl (T.aggOk rfl) (T.sizeOk rfl) rfl rfl ?_ | refine Ops.store 0 rfl rfl rfl rfl rfl (T.sizeOk rfl) rfl (Nat.le_of_ble_eq_true rfl) rfl rfl ?_)
      refine Run.retCTT T 0 (by rw [hCf]; exact Proofs.Tryz.func13) Proofs.Tryz.results13 rfl rfl rfl rfl rfl rfl rfl rfl (hR _ _ _ ?_)
      refine ⟨rfl, ?_⟩
      rw [hread]
      rfl
    | true =>
    cases op with
    | true =>
      repeat (first | refine Run.seq ?_ | refine Run.region ?_ | refine Ops.nil ?_ | refine Run.cond_t rfl ?_ | refine Ops.pure T rfl (by decide) rfl ?_ | refine Ops.loadN 0 rfl (by decide) rfl rfl (T.aggOk rfl) (T.sizeOk rfl) rfl rfl ?_ | refine Ops.store 0 rfl rfl rfl rfl rfl (T.sizeOk rfl) rfl (Nat.le_of_ble_eq_true rfl) rfl rfl ?_)
      refine Run.retCTT T 0 (by rw [hCf]; exact Proofs.Tryz.func13) Proofs.Tryz.results13 rfl rfl rfl rfl rfl rfl rfl rfl (hR _ _ _ ?_)
      refine ⟨rfl, ?_⟩
      rw [hread]
      rfl
    | false =>
    obtain ⟨⟨q1, q2, q3, q4⟩, _⟩ := sParts_len hro htl hparts
    have q5 := plain_len q1
    repeat (first | refine Run.seq ?_ | refine Run.region ?_ | refine Ops.nil ?_ | refine Run.skip ?_ | refine Run.cond_f rfl ?_ | refine Ops.pure T rfl (by decide) rfl ?_ | refine Ops.loadN 1 rfl (by decide) rfl rfl (T.aggOk rfl) (T.sizeOk rfl) rfl rfl ?_)
    refine Ops.call ((spec_named J1 2 (r) (p) ([]) s st ins reg tag (by decide) (by omega) (by omega) (by omega))) rfl (by decide) Proofs.Tryz.call36 rfl ?_
    rintro _ J3 l3 rfl
    have hread2 : sRead ⟨st, ins, reg, tag⟩ 2 s = (nmd (ins || localF (r)) 2 (r) (p) ([]) s, true, false) := hread
    clear hread
    generalize nmd (ins || localF (r)) 2 (r) (p) ([]) s = nm at *
    obtain ⟨n0, n1, n2, n3, n4, n5, n6, n7, n8, n9, n10⟩ := nm
    have hread := hread2
    repeat (first | refine Ops.nil ?_ | refine Ops.pure T rfl (by decide) rfl ?_ | refine Ops.store 0 rfl rfl rfl rfl rfl (T.sizeOk rfl) rfl (Nat.le_of_ble_eq_true rfl) rfl rfl ?_)
    refine Run.retCTT T 0 (by rw [hCf]; exact Proofs.Tryz.func13) Proofs.Tryz.results13 rfl rfl rfl rfl rfl rfl rfl rfl (hR _ _ _ ?_)
    refine ⟨rfl, ?_⟩
    rw [hread]
    rfl
  · skip
    refine Spec.enter 95 [(0, _), (1, _), (2, _)] Proofs.Tryz.func13 rfl Proofs.Tryz.ntmps13 (by simp) rfl ?_
    intro C hCf hR hCI
    repeat (first | refine Run.seq ?_ | refine Run.region ?_)
    refine Ops.box rfl (by decide) rfl rfl (fun b1 => ?_)
    refine Ops.alloc rfl (by decide) (T.zeroOk rfl) rfl (fun b2 => ?_)
    repeat (first | refine Run.seq ?_ | refine Run.region ?_ | refine Ops.nil ?_ | refine Run.block ?_ | refine Run.cond_t rfl ?_ | refine Run.cond_f rfl ?_ | refine Ops.eql rfl (by decide) rfl rfl ?_ | refine Ops.pure T rfl (by decide) rfl ?_ | refine Ops.loadN 1 rfl (by decide) rfl rfl (T.aggOk rfl) (T.sizeOk rfl) rfl rfl ?_)
    rcases hx : sTag ⟨st, ins, reg, tag⟩ s with ⟨r, p, t, ok, op⟩
    refine Ops.call ((spec_tagOf' I s st ins reg tag hs hx)) rfl (by decide) Proofs.Tryz.call34 rfl ?_
    rintro _ J1 l1 rfl
    have hparts : sParts ⟨st, ins, reg, tag⟩ 3 s = (3, r, p, t, ok, op) := by
      simp only [sParts, show ¬ (3 : Int) = 1 by decide, show ¬ (3 : Int) = 2 by decide, if_false, if_true, hx]
    repeat (first | refine Run.seq ?_ | refine Run.region ?_ | refine Ops.nil ?_ | refine Run.inBlock ?_ | refine Ops.pure T rfl (by decide) rfl ?_)
    have hread : sRead ⟨st, ins, reg, tag⟩ 3 s = if !ok || op then (Nm.zero, ok, op) else (nmd (ins || localF (r)) 3 (r) (p) (t) s, true, false) := by unfold sRead; rw [hparts]; rfl
    cases ok with
    | false =>
      repeat (first | refine Run.seq ?_ | refine Run.region ?_ | refine Ops.nil ?_ | refine Run.cond_t rfl ?_ | refine Ops.not rfl (by decide) ?_ | refine Ops.pure T rfl (by decide) rfl ?_ | refine Ops.loadN 0 rfl (by decide) rfl rfl (T.aggOk rfl) (T.sizeOk rfl) rfl rfl ?_ | refine Ops.store 0 rfl rfl rfl rfl rfl (T.sizeOk rfl) rfl (Nat.le_of_ble_eq_true rfl) rfl rfl ?_)
      refine Run.retCTT T 0 (by rw [hCf]; exact Proofs.Tryz.func13) Proofs.Tryz.results13 rfl rfl rfl rfl rfl rfl rfl rfl (hR _ _ _ ?_)
      refine ⟨rfl, ?_⟩
      rw [hread]
      rfl
    | true =>
    cases op with
    | true =>
      repeat (first | refine Run.seq ?_ | refine Run.region ?_ | refine Ops.nil ?_ | refine Run.cond_t rfl ?_ | refine Ops.pure T rfl (by decide) rfl ?_ | refine Ops.loadN 0 rfl (by decide) rfl rfl (T.aggOk rfl) (T.sizeOk rfl) rfl rfl ?_ | refine Ops.store 0 rfl rfl rfl rfl rfl (T.sizeOk rfl) rfl (Nat.le_of_ble_eq_true rfl) rfl rfl ?_)
      refine Run.retCTT T 0 (by rw [hCf]; exact Proofs.Tryz.func13) Proofs.Tryz.results13 rfl rfl rfl rfl rfl rfl rfl rfl (hR _ _ _ ?_)
      refine ⟨rfl, ?_⟩
      rw [hread]
      rfl
    | false =>
    obtain ⟨⟨q1, q2, q3, q4⟩, _⟩ := sParts_len hro htl hparts
    have q5 := plain_len q1
    repeat (first | refine Run.seq ?_ | refine Run.region ?_ | refine Ops.nil ?_ | refine Run.skip ?_ | refine Run.cond_f rfl ?_ | refine Ops.pure T rfl (by decide) rfl ?_ | refine Ops.loadN 1 rfl (by decide) rfl rfl (T.aggOk rfl) (T.sizeOk rfl) rfl rfl ?_)
    refine Ops.call ((spec_named J1 3 (r) (p) (t) s st ins reg tag (by decide) (by omega) (by omega) (by omega))) rfl (by decide) Proofs.Tryz.call36 rfl ?_
    rintro _ J3 l3 rfl
    have hread2 : sRead ⟨st, ins, reg, tag⟩ 3 s = (nmd (ins || localF (r)) 3 (r) (p) (t) s, true, false) := hread
    clear hread
    generalize nmd (ins || localF (r)) 3 (r) (p) (t) s = nm at *
    obtain ⟨n0, n1, n2, n3, n4, n5, n6, n7, n8, n9, n10⟩ := nm
    have hread := hread2
    repeat (first | refine Ops.nil ?_ | refine Ops.pure T rfl (by decide) rfl ?_ | refine Ops.store 0 rfl rfl rfl rfl rfl (T.sizeOk rfl) rfl (Nat.le_of_ble_eq_true rfl) rfl rfl ?_)
    refine Run.retCTT T 0 (by rw [hCf]; exact Proofs.Tryz.func13) Proofs.Tryz.results13 rfl rfl rfl rfl rfl rfl rfl rfl (hR _ _ _ ?_)
    refine ⟨rfl, ?_⟩
    rw [hread]
    rfl
  · skip
    refine Spec.enter 95 [(0, _), (1, _), (2, _)] Proofs.Tryz.func13 rfl Proofs.Tryz.ntmps13 (by simp) rfl ?_
    intro C hCf hR hCI
    repeat (first | refine Run.seq ?_ | refine Run.region ?_)
    refine Ops.box rfl (by decide) rfl rfl (fun b1 => ?_)
    refine Ops.alloc rfl (by decide) (T.zeroOk rfl) rfl (fun b2 => ?_)
    repeat (first | refine Run.seq ?_ | refine Run.region ?_ | refine Ops.nil ?_ | refine Run.block ?_ | refine Run.cond_t rfl ?_ | refine Run.cond_f rfl ?_ | refine Ops.eql rfl (by decide) rfl rfl ?_ | refine Ops.pure T rfl (by decide) rfl ?_ | refine Ops.loadN 1 rfl (by decide) rfl rfl (T.aggOk rfl) (T.sizeOk rfl) rfl rfl ?_)
    rcases hx : sDig ⟨st, ins, reg, tag⟩ s with ⟨r, p, t, ok, op⟩
    refine Ops.call ((spec_digestOf' I s st ins reg tag hs hx)) rfl (by decide) Proofs.Tryz.call35 rfl ?_
    rintro _ J1 l1 rfl
    have hparts : sParts ⟨st, ins, reg, tag⟩ 4 s = (4, r, p, t, ok, op) := by
      simp only [sParts, show ¬ (4 : Int) = 1 by decide, show ¬ (4 : Int) = 2 by decide, show ¬ (4 : Int) = 3 by decide, if_false, if_true, hx]
    repeat (first | refine Run.seq ?_ | refine Run.region ?_ | refine Ops.nil ?_ | refine Run.inBlock ?_ | refine Ops.pure T rfl (by decide) rfl ?_)
    have hread : sRead ⟨st, ins, reg, tag⟩ 4 s = if !ok || op then (Nm.zero, ok, op) else (nmd (ins || localF (r)) 4 (r) (p) (t) s, true, false) := by unfold sRead; rw [hparts]; rfl
    cases ok with
    | false =>
      repeat (first | refine Run.seq ?_ | refine Run.region ?_ | refine Ops.nil ?_ | refine Run.cond_t rfl ?_ | refine Ops.not rfl (by decide) ?_ | refine Ops.pure T rfl (by decide) rfl ?_ | refine Ops.loadN 0 rfl (by decide) rfl rfl (T.aggOk rfl) (T.sizeOk rfl) rfl rfl ?_ | refine Ops.store 0 rfl rfl rfl rfl rfl (T.sizeOk rfl) rfl (Nat.le_of_ble_eq_true rfl) rfl rfl ?_)
      refine Run.retCTT T 0 (by rw [hCf]; exact Proofs.Tryz.func13) Proofs.Tryz.results13 rfl rfl rfl rfl rfl rfl rfl rfl (hR _ _ _ ?_)
      refine ⟨rfl, ?_⟩
      rw [hread]
      rfl
    | true =>
    cases op with
    | true =>
      repeat (first | refine Run.seq ?_ | refine Run.region ?_ | refine Ops.nil ?_ | refine Run.cond_t rfl ?_ | refine Ops.pure T rfl (by decide) rfl ?_ | refine Ops.loadN 0 rfl (by decide) rfl rfl (T.aggOk rfl) (T.sizeOk rfl) rfl rfl ?_ | refine Ops.store 0 rfl rfl rfl rfl rfl (T.sizeOk rfl) rfl (Nat.le_of_ble_eq_true rfl) rfl rfl ?_)
      refine Run.retCTT T 0 (by rw [hCf]; exact Proofs.Tryz.func13) Proofs.Tryz.results13 rfl rfl rfl rfl rfl rfl rfl rfl (hR _ _ _ ?_)
      refine ⟨rfl, ?_⟩
      rw [hread]
      rfl
    | false =>
    obtain ⟨⟨q1, q2, q3, q4⟩, _⟩ := sParts_len hro htl hparts
    have q5 := plain_len q1
    repeat (first | refine Run.seq ?_ | refine Run.region ?_ | refine Ops.nil ?_ | refine Run.skip ?_ | refine Run.cond_f rfl ?_ | refine Ops.pure T rfl (by decide) rfl ?_ | refine Ops.loadN 1 rfl (by decide) rfl rfl (T.aggOk rfl) (T.sizeOk rfl) rfl rfl ?_)
    refine Ops.call ((spec_named J1 4 (r) (p) (t) s st ins reg tag (by decide) (by omega) (by omega) (by omega))) rfl (by decide) Proofs.Tryz.call36 rfl ?_
    rintro _ J3 l3 rfl
    have hread2 : sRead ⟨st, ins, reg, tag⟩ 4 s = (nmd (ins || localF (r)) 4 (r) (p) (t) s, true, false) := hread
    clear hread
    generalize nmd (ins || localF (r)) 4 (r) (p) (t) s = nm at *
    obtain ⟨n0, n1, n2, n3, n4, n5, n6, n7, n8, n9, n10⟩ := nm
    have hread := hread2
    repeat (first | refine Ops.nil ?_ | refine Ops.pure T rfl (by decide) rfl ?_ | refine Ops.store 0 rfl rfl rfl rfl rfl (T.sizeOk rfl) rfl (Nat.le_of_ble_eq_true rfl) rfl rfl ?_)
    refine Run.retCTT T 0 (by rw [hCf]; exact Proofs.Tryz.func13) Proofs.Tryz.results13 rfl rfl rfl rfl rfl rfl rfl rfl (hR _ _ _ ?_)
    refine ⟨rfl, ?_⟩
    rw [hread]
    rfl
end Go.V
/-
  What the laws of names call: fits, options, names the same.
-/
namespace Go.V
open Go.RowKit
set_option linter.unusedVariables false
set_option linter.unusedSimpArgs false
set_option maxRecDepth 10000
attribute [local irreducible] Run Ops
structure Ask where
  text : Tx
  strict : Bool
  ins : Bool
  reg : Tx
  tag : Tx
def Ask.cs (x : Ask) : List Value := [str x.text, .bool x.strict, .bool x.ins, str x.reg, str x.tag]
def Ask.fits (x : Ask) : Bool := !decide ((2147483647 : Int) < x.text.length) && (!decide ((2147483647 : Int) < x.reg.length) && !decide ((2147483647 : Int) < x.tag.length))
theorem Ask.fits_ok {x : Ask} (h : x.fits = true) : x.text.length ≤ 2147483647 ∧ x.reg.length ≤ 2147483647 ∧ x.tag.length ≤ 2147483647 := by
  simp only [Ask.fits, Bool.and_eq_true, Bool.not_eq_true', decide_eq_false_iff_not] at h
  omega
def Ask.small (x : Ask) : Prop := x.text.length ≤ 1099511627776 ∧ x.reg.length ≤ 1099511627776 ∧ x.tag.length ≤ 1099511627776
theorem laws_zzFits33 (I : Imm) (x : Ask) : Pure Proofs.Tryz.prog 10 [.agg x.cs.toArray] I fun w J => w = .bool x.fits := by
  obtain ⟨tx, st, ins, reg, tag⟩ := x
  unfold Ask.fits
  refine Spec.enter 15 [(0, _)] Proofs.Tryz.func10 rfl Proofs.Tryz.ntmps10 (by simp) rfl ?_
  intro C hCf hR hCI
  repeat (first | refine Run.seq ?_ | refine Run.region ?_)
  refine Ops.box rfl (by decide) rfl rfl (fun b1 => ?_)
  repeat (first | refine Run.seq ?_ | refine Run.region ?_ | refine Ops.nil ?_ | refine Ops.gtr rfl (by decide) rfl rfl ?_ | refine Ops.pure T rfl (by decide) rfl ?_ | refine Ops.lenS T rfl (by decide) rfl rfl ?_ | refine Ops.load 0 rfl (by decide) rfl rfl (T.aggOk rfl) rfl ?_)
  cases h1 : decide ((2147483647 : Int) < tx.length) with
  | true =>
    repeat (first | refine Run.seq ?_ | refine Run.region ?_ | refine Ops.nil ?_ | refine Run.cond_t rfl ?_ | refine Ops.pure T rfl (by decide) rfl ?_)
    refine Run.fin (Run.ret1 (by rw [hCf]; exact Proofs.Tryz.func10) Proofs.Tryz.results10 rfl (hR _ _ _ ?_))
    exact ⟨rfl, by simp [h1]⟩
  | false =>
  repeat (first | refine Run.seq ?_ | refine Run.region ?_ | refine Ops.nil ?_ | refine Run.skip ?_ | refine Run.cond_f rfl ?_ | refine Ops.gtr rfl (by decide) rfl rfl ?_ | refine Ops.pure T rfl (by decide) rfl ?_ | refine Ops.lenS T rfl (by decide) rfl rfl ?_ | refine Ops.load 0 rfl (by decide) rfl rfl (T.aggOk rfl) rfl ?_)
  cases h2 : decide ((2147483647 : Int) < reg.length) with
  | true =>
    repeat (first | refine Run.seq ?_ | refine Run.region ?_ | refine Ops.nil ?_ | refine Run.cond_t rfl ?_ | refine Ops.pure T rfl (by decide) rfl ?_)
    refine Run.fin (Run.ret1 (by rw [hCf]; exact Proofs.Tryz.func10) Proofs.Tryz.results10 rfl (hR _ _ _ ?_))
    exact ⟨rfl, by simp [h1, h2]⟩
  | false =>
  repeat (first | refine Run.seq ?_ | refine Run.region ?_ | refine Ops.nil ?_ | refine Run.skip ?_ | refine Run.cond_f rfl ?_ | refine Ops.gtr rfl (by decide) rfl rfl ?_ | refine Ops.pure T rfl (by decide) rfl ?_ | refine Ops.lenS T rfl (by decide) rfl rfl ?_ | refine Ops.load 0 rfl (by decide) rfl rfl (T.aggOk rfl) rfl ?_)
  cases h3 : decide ((2147483647 : Int) < tag.length) with
  | true =>
    repeat (first | refine Run.seq ?_ | refine Run.region ?_ | refine Ops.nil ?_ | refine Run.cond_t rfl ?_ | refine Ops.pure T rfl (by decide) rfl ?_)
    refine Run.fin (Run.ret1 (by rw [hCf]; exact Proofs.Tryz.func10) Proofs.Tryz.results10 rfl (hR _ _ _ ?_))
    exact ⟨rfl, by simp [h1, h2, h3]⟩
  | false =>
    repeat (first | refine Run.seq ?_ | refine Run.region ?_ | refine Ops.nil ?_ | refine Run.skip ?_ | refine Run.cond_f rfl ?_ | refine Ops.pure T rfl (by decide) rfl ?_)
    refine Run.fin (Run.ret1 (by rw [hCf]; exact Proofs.Tryz.func10) Proofs.Tryz.results10 rfl (hR _ _ _ ?_))
    exact ⟨rfl, by simp [h1, h2, h3]⟩
def Ask.opts (x : Ask) : NOpt := ⟨x.strict, x.ins, if !decide (x.reg = []) && hostNamed x.reg then x.reg else [], if decide ((x.tag.length : Int) ≤ 200) then x.tag else []⟩
theorem Ask.regOk (x : Ask) : regOk x.opts.reg := by
  unfold Ask.opts V.regOk
  simp only
  split
  · rename_i h
    simp only [Bool.and_eq_true] at h
    exact .inr h.2
  · exact .inl rfl
theorem Ask.tagOk (x : Ask) : x.opts.tag.length ≤ 200 := by
  unfold Ask.opts
  simp only
  split
  · rename_i h
    have := of_decide_eq_true h
    omega
  · decide
set_option maxHeartbeats 2000000 in
theorem laws_nameOpts (I : Imm) (x : Ask) (hx : x.small) : Pure Proofs.Tryz.prog 12 [.agg x.cs.toArray] I fun w J => w = .agg x.opts.cs.toArray := by
  obtain ⟨tx, st, ins, reg, tag⟩ := x
  obtain ⟨x1, x2, x3⟩ := hx
  simp only at x1 x2 x3
  refine Spec.enter 28 [(0, _)] Proofs.Tryz.func12 rfl Proofs.Tryz.ntmps12 (by simp) rfl ?_
  intro C hCf hR hCI
  repeat (first | refine Run.seq ?_ | refine Run.region ?_)
  refine Ops.box rfl (by decide) rfl rfl (fun b1 => ?_)
  refine Ops.alloc rfl (by decide) (T.zeroOk rfl) rfl (fun b2 => ?_)
  repeat (first | refine Run.seq ?_ | refine Run.region ?_ | refine Ops.nil ?_ | refine Ops.pure T rfl (by decide) rfl ?_ | refine Ops.load 1 rfl (by decide) rfl rfl (T.aggOk rfl) rfl ?_)
  refine Ops.buildL bd30 rfl (by decide) rfl rfl ?_
  refine Ops.alloc rfl (by decide) (T.zeroOk rfl) rfl (fun b3 => ?_)
  repeat (first | refine Run.seq ?_ | refine Run.region ?_ | refine Ops.nil ?_ | refine Ops.neqStr rfl (by decide) rfl rfl ?_ | refine Ops.pure T rfl (by decide) rfl ?_ | refine Ops.load 2 rfl (by decide) rfl rfl (T.aggOk rfl) rfl ?_ | refine Ops.store 0 rfl rfl rfl rfl rfl (T.sizeOk rfl) rfl (Nat.le_of_ble_eq_true rfl) rfl rfl ?_)
  cases h1 : decide (reg = []) with
  | true =>
    repeat (first | refine Run.seq ?_ | refine Run.region ?_ | refine Ops.nil ?_ | refine Run.skip ?_ | refine Run.cond_f rfl ?_ | refine Ops.not rfl (by decide) ?_ | refine Ops.leq rfl (by decide) rfl rfl ?_ | refine Ops.pure T rfl (by decide) rfl ?_ | refine Ops.lenS T rfl (by decide) rfl rfl ?_ | refine Ops.load 2 rfl (by decide) rfl rfl (T.aggOk rfl) rfl ?_)
    cases h2 : decide ((tag.length : Int) ≤ 200) with
    | true =>
      repeat (first | refine Run.seq ?_ | refine Run.region ?_ | refine Ops.nil ?_ | refine Run.cond_t rfl ?_ | refine Ops.pure T rfl (by decide) rfl ?_ | refine Ops.load 2 rfl (by decide) rfl rfl (T.aggOk rfl) rfl ?_ | refine Ops.loadN 0 rfl (by decide) rfl rfl (T.aggOk rfl) (T.sizeOk rfl) rfl rfl ?_ | refine Ops.store 0 rfl rfl rfl rfl rfl (T.sizeOk rfl) rfl (Nat.le_of_ble_eq_true rfl) rfl rfl ?_ | refine Ops.store 1 rfl rfl rfl rfl rfl (T.sizeOk rfl) rfl (Nat.le_of_ble_eq_true rfl) rfl rfl ?_)
      refine Run.retC T 1 (by rw [hCf]; exact Proofs.Tryz.func12) Proofs.Tryz.results12 rfl rfl rfl rfl rfl rfl (hR _ _ _ ?_)
      refine ⟨rfl, ?_⟩
      simp only [Ask.opts, h1, h2]
      rfl
    | false =>
      repeat (first | refine Run.seq ?_ | refine Run.region ?_ | refine Ops.nil ?_ | refine Run.skip ?_ | refine Run.cond_f rfl ?_ | refine Ops.loadN 0 rfl (by decide) rfl rfl (T.aggOk rfl) (T.sizeOk rfl) rfl rfl ?_ | refine Ops.store 1 rfl rfl rfl rfl rfl (T.sizeOk rfl) rfl (Nat.le_of_ble_eq_true rfl) rfl rfl ?_)
      refine Run.retC T 1 (by rw [hCf]; exact Proofs.Tryz.func12) Proofs.Tryz.results12 rfl rfl rfl rfl rfl rfl (hR _ _ _ ?_)
      refine ⟨rfl, ?_⟩
      simp only [Ask.opts, h1, h2]
      rfl
  | false =>
    repeat (first | refine Ops.pure T rfl (by decide) rfl ?_ | refine Ops.load 2 rfl (by decide) rfl rfl (T.aggOk rfl) rfl ?_)
    refine Ops.call ((spec_HostNamed I reg (by omega))) rfl (by decide) Proofs.Tryz.call15 rfl ?_
    rintro _ J1 l1 rfl
    repeat (first | refine Ops.nil ?_ | refine Ops.pure T rfl (by decide) rfl ?_)
    cases h3 : hostNamed reg with
    | true =>
      repeat (first | refine Run.seq ?_ | refine Run.region ?_ | refine Ops.nil ?_ | refine Run.cond_t rfl ?_ | refine Ops.leq rfl (by decide) rfl rfl ?_ | refine Ops.pure T rfl (by decide) rfl ?_ | refine Ops.lenS T rfl (by decide) rfl rfl ?_ | refine Ops.load 2 rfl (by decide) rfl rfl (T.aggOk rfl) rfl ?_ | refine Ops.store 0 rfl rfl rfl rfl rfl (T.sizeOk rfl) rfl (Nat.le_of_ble_eq_true rfl) rfl rfl ?_)
      cases h2 : decide ((tag.length : Int) ≤ 200) with
      | true =>
        repeat (first | refine Run.seq ?_ | refine Run.region ?_ | refine Ops.nil ?_ | refine Run.cond_t rfl ?_ | refine Ops.pure T rfl (by decide) rfl ?_ | refine Ops.load 2 rfl (by decide) rfl rfl (T.aggOk rfl) rfl ?_ | refine Ops.loadN 0 rfl (by decide) rfl rfl (T.aggOk rfl) (T.sizeOk rfl) rfl rfl ?_ | refine Ops.store 0 rfl rfl rfl rfl rfl (T.sizeOk rfl) rfl (Nat.le_of_ble_eq_true rfl) rfl rfl ?_ | refine Ops.store 1 rfl rfl rfl rfl rfl (T.sizeOk rfl) rfl (Nat.le_of_ble_eq_true rfl) rfl rfl ?_)
        refine Run.retC T 1 (by rw [hCf]; exact Proofs.Tryz.func12) Proofs.Tryz.results12 rfl rfl rfl rfl rfl rfl (hR _ _ _ ?_)
        refine ⟨rfl, ?_⟩
        simp only [Ask.opts, h1, h3, h2]
        rfl
      | false =>
        repeat (first | refine Run.seq ?_ | refine Run.region ?_ | refine Ops.nil ?_ | refine Run.skip ?_ | refine Run.cond_f rfl ?_ | refine Ops.loadN 0 rfl (by decide) rfl rfl (T.aggOk rfl) (T.sizeOk rfl) rfl rfl ?_ | refine Ops.store 1 rfl rfl rfl rfl rfl (T.sizeOk rfl) rfl (Nat.le_of_ble_eq_true rfl) rfl rfl ?_)
        refine Run.retC T 1 (by rw [hCf]; exact Proofs.Tryz.func12) Proofs.Tryz.results12 rfl rfl rfl rfl rfl rfl (hR _ _ _ ?_)
        refine ⟨rfl, ?_⟩
        simp only [Ask.opts, h1, h3, h2]
        rfl
    | false =>
      repeat (first | refine Run.seq ?_ | refine Run.region ?_ | refine Ops.nil ?_ | refine Run.skip ?_ | refine Run.cond_f rfl ?_ | refine Ops.leq rfl (by decide) rfl rfl ?_ | refine Ops.pure T rfl (by decide) rfl ?_ | refine Ops.lenS T rfl (by decide) rfl rfl ?_ | refine Ops.load 2 rfl (by decide) rfl rfl (T.aggOk rfl) rfl ?_)
      cases h2 : decide ((tag.length : Int) ≤ 200) with
      | true =>
        repeat (first | refine Run.seq ?_ | refine Run.region ?_ | refine Ops.nil ?_ | refine Run.cond_t rfl ?_ | refine Ops.pure T rfl (by decide) rfl ?_ | refine Ops.load 2 rfl (by decide) rfl rfl (T.aggOk rfl) rfl ?_ | refine Ops.loadN 0 rfl (by decide) rfl rfl (T.aggOk rfl) (T.sizeOk rfl) rfl rfl ?_ | refine Ops.store 0 rfl rfl rfl rfl rfl (T.sizeOk rfl) rfl (Nat.le_of_ble_eq_true rfl) rfl rfl ?_ | refine Ops.store 1 rfl rfl rfl rfl rfl (T.sizeOk rfl) rfl (Nat.le_of_ble_eq_true rfl) rfl rfl ?_)
        refine Run.retC T 1 (by rw [hCf]; exact Proofs.Tryz.func12) Proofs.Tryz.results12 rfl rfl rfl rfl rfl rfl (hR _ _ _ ?_)
        refine ⟨rfl, ?_⟩
        simp only [Ask.opts, h1, h3, h2]
        rfl
      | false =>
        repeat (first | refine Run.seq ?_ | refine Run.region ?_ | refine Ops.nil ?_ | refine Run.skip ?_ | refine Run.cond_f rfl ?_ | refine Ops.loadN 0 rfl (by decide) rfl rfl (T.aggOk rfl) (T.sizeOk rfl) rfl rfl ?_ | refine Ops.store 1 rfl rfl rfl rfl rfl (T.sizeOk rfl) rfl (Nat.le_of_ble_eq_true rfl) rfl rfl ?_)
        refine Run.retC T 1 (by rw [hCf]; exact Proofs.Tryz.func12) Proofs.Tryz.results12 rfl rfl rfl rfl rfl rfl (hR _ _ _ ?_)
        refine ⟨rfl, ?_⟩
        simp only [Ask.opts, h1, h3, h2]
        rfl
/-- names that differ by what a loose registry lets differ -/
theorem laws_sameName (I : Imm) (k : Int) (r p id nm tx sa sb sc cn ct rn : Tx) (hr : r.length ≤ 1099511627776) (h : loose r = false → sa = sb) :
    Pure Proofs.Tryz.prog 20 [.agg (Nm.mk k r p id nm tx sa sc cn ct rn).cs.toArray, .agg (Nm.mk k r p id nm tx sb sc cn ct rn).cs.toArray] I fun w J => w = .bool true := by
  refine Spec.enter 13 [(0, _), (1, _)] Proofs.Tryz.func20 rfl Proofs.Tryz.ntmps20 (by simp) rfl ?_
  intro C hCf hR hCI
  repeat (first | refine Run.seq ?_ | refine Run.region ?_)
  refine Ops.box rfl (by decide) rfl rfl (fun b1 => ?_)
  refine Ops.box rfl (by decide) rfl rfl (fun b2 => ?_)
  repeat (first | refine Run.seq ?_ | refine Run.region ?_ | refine Ops.nil ?_ | refine Ops.pure T rfl (by decide) rfl ?_ | refine Ops.load 1 rfl (by decide) rfl rfl (T.aggOk rfl) rfl ?_)
  refine Ops.call ((spec_LooseScheme I r (by omega))) rfl (by decide) Proofs.Tryz.call42 rfl ?_
  rintro _ J1 l1 rfl
  cases hl : loose r with
  | true =>
    repeat (first | refine Run.seq ?_ | refine Run.region ?_ | refine Ops.nil ?_ | refine Run.cond_t rfl ?_ | refine Ops.pure T rfl (by decide) rfl ?_ | refine Ops.loadN 0 rfl (by decide) rfl rfl (T.aggOk rfl) (T.sizeOk rfl) rfl rfl ?_ | refine Ops.loadN 1 rfl (by decide) rfl rfl (T.aggOk rfl) (T.sizeOk rfl) rfl rfl ?_ | refine Ops.store 0 rfl rfl rfl rfl rfl (T.sizeOk rfl) rfl (Nat.le_of_ble_eq_true rfl) rfl rfl ?_ | refine Ops.store 1 rfl rfl rfl rfl rfl (T.sizeOk rfl) rfl (Nat.le_of_ble_eq_true rfl) rfl rfl ?_)
    refine Ops.eqlAgg T [26] (by kernel_rfl) rfl rfl (by decide) rfl rfl rfl ?_
    simp only [beq_self_eq_true, Bool.and_self]
    repeat (first | refine Ops.nil ?_ | refine Ops.pure T rfl (by decide) rfl ?_)
    refine Run.fin (Run.ret1 (by rw [hCf]; exact Proofs.Tryz.func20) Proofs.Tryz.results20 rfl (hR _ _ _ ?_))
    exact ⟨rfl, rfl⟩
  | false =>
    obtain rfl := h hl
    repeat (first | refine Run.seq ?_ | refine Run.region ?_ | refine Ops.nil ?_ | refine Run.skip ?_ | refine Run.cond_f rfl ?_ | refine Ops.loadN 0 rfl (by decide) rfl rfl (T.aggOk rfl) (T.sizeOk rfl) rfl rfl ?_ | refine Ops.loadN 1 rfl (by decide) rfl rfl (T.aggOk rfl) (T.sizeOk rfl) rfl rfl ?_)
    refine Ops.eqlAgg T [26] (by kernel_rfl) rfl rfl (by decide) rfl rfl rfl ?_
    simp only [beq_self_eq_true, Bool.and_self]
    repeat (first | refine Ops.nil ?_ | refine Ops.pure T rfl (by decide) rfl ?_)
    refine Run.fin (Run.ret1 (by rw [hCf]; exact Proofs.Tryz.func20) Proofs.Tryz.results20 rfl (hR _ _ _ ?_))
    exact ⟨rfl, rfl⟩
theorem nmd_split (k : Int) (r p id : Tx) (hk : k = 1 ∨ k = 2 ∨ k = 3 ∨ k = 4) : ∃ nm, ∃ f : Tx → Tx, ∃ sc cn ct rn, ∀ b text, nmd b k r p id text = Nm.mk k r p id nm (f text) (schemeT b) sc cn ct rn := by
  rcases hk with rfl | rfl | rfl | rfl
  · exact ⟨_, fun _ => _, _, _, _, _, fun _ _ => rfl⟩
  · exact ⟨_, fun _ => _, _, _, _, _, fun _ _ => rfl⟩
  · exact ⟨_, fun t => t, _, _, _, _, fun _ _ => rfl⟩
  · exact ⟨_, fun t => t, _, _, _, _, fun _ _ => rfl⟩
end Go.V
/-
  The laws of names read: they return true.
-/
namespace Go.V
open Go.RowKit
set_option linter.unusedVariables false
set_option linter.unusedSimpArgs false
set_option maxRecDepth 10000
attribute [local irreducible] Run Ops
theorem ubuntu_parts : sParts ⟨false, false, [], []⟩ 0 [117, 98, 117, 110, 116, 117] = (3, hubT, [108, 105, 98, 114, 97, 114, 121, 47, 117, 98, 117, 110, 116, 117], latestT, true, false) := by kernel_rfl
set_option maxHeartbeats 2000000 in
theorem laws_nameAwake (I : Imm) : Pure Proofs.Tryz.prog 14 [] I fun w J => w = .bool true := by
  refine Spec.enter 16 [] Proofs.Tryz.func14 rfl Proofs.Tryz.ntmps14 (by simp) rfl ?_
  intro C hCf hR hCI
  repeat (first | refine Run.seq ?_ | refine Run.region ?_ | refine Ops.nil ?_ | refine Ops.pure T rfl (by decide) rfl ?_)
  refine Ops.buildL bd30 rfl (by decide) rfl rfl ?_
  refine Ops.call ((impl_NameParse I [117, 98, 117, 110, 116, 117] 0 ⟨false, false, [], []⟩ (.inl rfl) (by decide) (.inl rfl))) rfl (by decide) Proofs.Tryz.call11 rfl ?_
  rintro _ J1 l1 ⟨a, hres, hans, hlen⟩
  have hans2 := hans _ _ _ _ _ ubuntu_parts
  cases a with
  | none => exact absurd hans2 (by decide)
  | some n =>
    obtain ⟨_, hn⟩ := hans2
    have hres2 : _ = _ := hres
    subst hres2
    obtain ⟨nm, f, sc, cn, ct, rn, he⟩ := nmd_split 3 hubT [108, 105, 98, 114, 97, 114, 121, 47, 117, 98, 117, 110, 116, 117] latestT (by decide)
    have hnm : nm = [105, 110, 100, 101, 120, 46, 100, 111, 99, 107, 101, 114, 46, 105, 111, 47, 108, 105, 98, 114, 97, 114, 121, 47, 117, 98, 117, 110, 116, 117, 58, 108, 97, 116, 101, 115, 116] := by
      have h1 : (nmd true 3 hubT [108, 105, 98, 114, 97, 114, 121, 47, 117, 98, 117, 110, 116, 117] latestT []).name = nm := congrArg Nm.name (he true [])
      rw [← h1]
      rfl
    subst hnm
    rw [he] at hn
    subst hn
    repeat (first | refine Ops.pure T rfl (by decide) rfl ?_)
    refine Ops.alloc rfl (by decide) (T.zeroOk rfl) rfl (fun b1 => ?_)
    repeat (first | refine Run.seq ?_ | refine Run.region ?_ | refine Ops.nil ?_ | refine Ops.eqlStr rfl (by decide) rfl rfl ?_ | refine Ops.pure T rfl (by decide) rfl ?_ | refine Ops.load 0 rfl (by decide) rfl rfl (T.aggOk rfl) rfl ?_ | refine Ops.store 0 rfl rfl rfl rfl rfl (T.sizeOk rfl) rfl (Nat.le_of_ble_eq_true rfl) rfl rfl ?_)
    refine Run.fin (Run.ret1 (by rw [hCf]; exact Proofs.Tryz.func14) Proofs.Tryz.results14 rfl (hR _ _ _ ?_))
    exact ⟨rfl, rfl⟩
abbrev cdAsk : Cd := .st (.pair .str (.pair .bool (.pair .bool (.pair .str .str))))
def askOf (x : cdAsk.ty) : Ask := let y : Tx × Bool × Bool × Tx × Tx := x; ⟨y.1, y.2.1, y.2.2.1, y.2.2.2.1, y.2.2.2.2⟩
theorem Val.ask {I : Imm} {v : Value} {x : cdAsk.ty} (h : Val cdAsk I v x) : v = .agg (askOf x).cs.toArray := by
  obtain ⟨cs, rfl, h⟩ := h
  obtain ⟨c1, c2, rfl, rfl, c3, c4, rfl, rfl, c5, c6, rfl, rfl, c7, c8, rfl, rfl, rfl⟩ := h
  rfl
end Go.V
/-
  The law of names read again: it returns true.
-/
namespace Go.V
open Go.RowKit
set_option linter.unusedVariables false
set_option linter.unusedSimpArgs false
set_option maxRecDepth 10000
attribute [local irreducible] Run Ops
def NmAns2 (o : NOpt) (which : Int) (s : Tx) (m : Nm) (b : Bool) : Prop := ∀ k r p t ok, sParts o which s = (k, r, p, t, ok, false) → ok = b ∧ (b = true → m = nmd (o.ins || pHttp r) k r p t s)
theorem impl_NameParse2 (I : Imm) (s : Tx) (which : Int) (o : NOpt) (hro : regOk o.reg) (hsz : nmBig s o ≤ 137438950000) (hw : which = 0 ∨ which = 1 ∨ which = 2 ∨ which = 3 ∨ which = 4) : Pure Proofs.Tryz.prog 11 [str s, .int .i64 which, .agg o.cs.toArray] I fun w J =>
    ∃ m b, w = .tuple #[.agg m.cs.toArray, .bool b, .bool (!b)] ∧ NmAns2 o which s m b := by
  refine (impl_NameParse I s which o hro hsz hw).mono ?_
  rintro w J _ ⟨a, hres, hans, _⟩
  cases a with
  | none => exact ⟨Nm.zero, false, hres, fun k r p t ok h => ⟨hans k r p t ok h, fun e => by cases e⟩⟩
  | some n => exact ⟨n, true, hres, fun k r p t ok h => ⟨(hans k r p t ok h).1, fun _ => (hans k r p t ok h).2⟩⟩
theorem nmd_name_len {b : Bool} {k : Int} {r p t s : Tx} (hk : k = 1 ∨ k = 2 ∨ k = 3 ∨ k = 4) : (nmd b k r p t s).name.length ≤ r.length + p.length + t.length + 2 := by
  unfold nmd
  rcases hk with rfl | rfl | rfl | rfl <;> simp [repoT] <;> omega
set_option maxHeartbeats 8000000 in
theorem laws_FnNameAgain (I : Imm) (v : Value) (x : cdAsk.ty) (hv : Val cdAsk I v x) (hx : cdAsk.ok x) (v' : Value) (y : Int) (hv' : Val (.int .u8) I v' y) (hy : (Cd.int .u8).ok y) : Pure Proofs.Tryz.prog 3 [v, v'] I fun v _ => v = .bool true := by
  obtain rfl := hv.ask
  obtain rfl : v' = .int .u8 y := hv'.int
  have hy' : 0 ≤ y ∧ y ≤ 255 := okU8 hy
  clear hv hx hv'
  generalize askOf x = a at *
  have hf := laws_zzFits33 I a
  have hopt0 := fun J => laws_nameOpts J a
  have hro := a.regOk
  have htl := a.tagOk
  have hrl := regOk_len hro
  have hoi : a.opts.ins = a.ins := rfl
  have hot : a.tag = [] → a.opts.tag = [] := fun e => by unfold Ask.opts; simp only [e]; rfl
  have hfit : a.fits = true → _ := Ask.fits_ok (x := a)
  generalize a.opts = o at *
  generalize hb : a.fits = fit at *
  obtain ⟨tx, st, ins, reg, tag⟩ := a
  simp only at hoi hot hfit
  subst hoi
  refine Spec.enter 97 [(0, _), (1, _)] Proofs.Tryz.func3 rfl Proofs.Tryz.ntmps3 (by simp) rfl ?_
  intro C hCf hR hCI
  repeat (first | refine Run.seq ?_ | refine Run.region ?_)
  refine Ops.box rfl (by decide) rfl rfl (fun b1 => ?_)
  repeat (first | refine Run.seq ?_ | refine Run.region ?_ | refine Ops.nil ?_ | refine Ops.pure T rfl (by decide) rfl ?_ | refine Ops.loadN 0 rfl (by decide) rfl rfl (T.aggOk rfl) (T.sizeOk rfl) rfl rfl ?_)
  refine Ops.call (hf) rfl (by decide) Proofs.Tryz.call10 rfl ?_
  rintro _ J1 l1 rfl
  cases fit with
  | false =>
    repeat (first | refine Run.seq ?_ | refine Run.region ?_ | refine Ops.nil ?_ | refine Run.cond_t rfl ?_ | refine Ops.pure T rfl (by decide) rfl ?_)
    refine Run.fin (Run.ret1 (by rw [hCf]; exact Proofs.Tryz.func3) Proofs.Tryz.results3 rfl (hR _ _ _ ?_))
    exact ⟨rfl, rfl⟩
  | true =>
  obtain ⟨x1, x2, x3⟩ := hfit rfl
  have hopt := fun J => hopt0 J ⟨by simp only; omega, by simp only; omega, by simp only; omega⟩
  clear hopt0 hf
  repeat (first | refine Run.seq ?_ | refine Run.region ?_ | refine Ops.nil ?_ | refine Run.skip ?_ | refine Run.cond_f rfl ?_ | refine Ops.pure T rfl (by decide) rfl ?_)
  refine Ops.convInt rfl (by decide) (T.undOk rfl) (T.undOk rfl) rfl (wI (by omega) (by omega)) ?_
  refine Ops.rem rfl (by decide) rfl rfl (by decide) (Int.tmod_eq_emod_of_nonneg hy'.1) ?_
  have hw : y % 5 = 0 ∨ y % 5 = 1 ∨ y % 5 = 2 ∨ y % 5 = 3 ∨ y % 5 = 4 := by omega
  generalize y % 5 = which at *
  repeat (first | refine Run.seq ?_ | refine Ops.nil ?_ | refine Ops.pure T rfl (by decide) rfl ?_)
  refine Run.keep [2, 5] [_, _] rfl ?_
  refine Run.piece (fun env' L' I' => ∃ b2 m okb, env' = [(2, .pointer (some ⟨b1, 0, none⟩)), (5, .int .i64 which), (6, .pointer (some ⟨b2, 0, none⟩)), (7, .bool okb)] ∧ L' = [(b2, blk m.cs 26), (b1, blk (Ask.mk tx st o.ins reg tag).cs 23)] ∧ NmAns2 o which tx m okb) ?_ ?_
  · intro k' fin
    refine Run.regionAny (Holds J1 [(b1, blk (Ask.mk tx st o.ins reg tag).cs 23)]) (bl 14 0) (by kernel_rfl) (by kernel_rfl) ?_
    refine RAny.tk 0 (bl 14 1) rfl (by kernel_rfl) (by decide) (fun W h => h.holds (Le.refl _) (by first | exact mp rfl | exact mq rfl)) (Yld.eval T rfl rfl) ?_
    first | refine RAny.tk 1 (bl 14 3) rfl (by kernel_rfl) (by decide) (fun W h => h.holds (Le.refl _) (by first | exact mp rfl | exact mq rfl)) (Yld.load 0 T rfl rfl rfl rfl rfl) ?_ | refine RAny.tk 1 (bl 14 3) rfl (by kernel_rfl) (by decide) (fun W h => h.holds (Le.refl _) (by first | exact mp rfl | exact mq rfl)) (Yld.load 1 T rfl rfl rfl rfl rfl) ?_ | refine RAny.tk 1 (bl 14 3) rfl (by kernel_rfl) (by decide) (fun W h => h.holds (Le.refl _) (by first | exact mp rfl | exact mq rfl)) (Yld.load 2 T rfl rfl rfl rfl rfl) ?_
    refine RAny.tk 2 (bl 14 7) rfl (by kernel_rfl) (by decide) (fun W h => h.holds (Le.refl _) (by first | exact mp rfl | exact mq rfl)) (Yld.eval T rfl rfl) ?_
    first | refine RAny.tk 3 (bl 14 15) rfl (by kernel_rfl) (by decide) (fun W h => h.holds (Le.refl _) (by first | exact mp rfl | exact mq rfl)) (Yld.loadN 0 T rfl rfl rfl rfl rfl rfl rfl) ?_ | refine RAny.tk 3 (bl 14 15) rfl (by kernel_rfl) (by decide) (fun W h => h.holds (Le.refl _) (by first | exact mp rfl | exact mq rfl)) (Yld.loadN 1 T rfl rfl rfl rfl rfl rfl rfl) ?_ | refine RAny.tk 3 (bl 14 15) rfl (by kernel_rfl) (by decide) (fun W h => h.holds (Le.refl _) (by first | exact mp rfl | exact mq rfl)) (Yld.loadN 2 T rfl rfl rfl rfl rfl rfl rfl) ?_
    refine RAny.two 4 10 (bl 14 31) (bl 14 1039) rfl rfl (by kernel_rfl) rfl rfl (by decide) (by decide) (Eff.call (hopt J1) Proofs.Tryz.call12 rfl fun x1 K1 m1 hx1 => ⟨fun W h => h.holds m1 (by first | exact mp rfl | exact mq rfl), ?_⟩) (Eff.alloc (T.zeroOk rfl) rfl fun b2 => ⟨fun W h => h.holds (Le.refl _) (by first | exact mp rfl | exact mq rfl), ?_⟩)
    skip
    · skip
      skip
      subst hx1
      refine RAny.two 5 10 (bl 14 63) (bl 14 1055) rfl rfl (by kernel_rfl) rfl rfl (by decide) (by decide) (Eff.call ((fun J => impl_NameParse2 J tx which o hro (by unfold nmBig; omega) hw) K1) Proofs.Tryz.call11 rfl fun x2 K2 m2 hx2 => ⟨fun W h => h.holds (m1.trans m2) (by first | exact mp rfl | exact mq rfl), ?_⟩) (Eff.alloc (T.zeroOk rfl) rfl fun b2 => ⟨fun W h => h.holds m1 (by first | exact mp rfl | exact mq rfl), ?_⟩)
      skip
      · skip
        skip
        obtain ⟨m, okb, rfl, hans⟩ := hx2
        skip
        refine RAny.tk 6 (bl 14 127) rfl (by kernel_rfl) (by decide) (fun W h => h.holds (m1.trans m2) (by first | exact mp rfl | exact mq rfl)) (Yld.eval T rfl rfl) ?_
        refine RAny.tk 7 (bl 14 255) rfl (by kernel_rfl) (by decide) (fun W h => h.holds (m1.trans m2) (by first | exact mp rfl | exact mq rfl)) (Yld.eval T rfl rfl) ?_
        refine RAny.tk 8 (bl 14 511) rfl (by kernel_rfl) (by decide) (fun W h => h.holds (m1.trans m2) (by first | exact mp rfl | exact mq rfl)) (Yld.eval T rfl rfl) ?_
        refine RAny.tk 9 (bl 14 1023) rfl (by kernel_rfl) (by decide) (fun W h => h.holds (m1.trans m2) (by first | exact mp rfl | exact mq rfl)) (Yld.eval T rfl rfl) ?_
        refine RAny.on 10 (bl 14 2047) rfl (by kernel_rfl) rfl (by decide) (Eff.alloc (T.zeroOk rfl) rfl fun b2 => ⟨fun W h => h.holds (m1.trans m2) (by first | exact mp rfl | exact mq rfl), ?_⟩)
        refine RAny.os 11 (bl 14 4095) rfl (by kernel_rfl) rfl (Eff.store 0 rfl rfl rfl rfl (T.sizeOk rfl) rfl (Nat.le_of_ble_eq_true rfl) rfl rfl ⟨fun W h => h.holds (m1.trans m2) (by first | exact mp rfl | exact mq rfl), ?_⟩)
        refine RAny.on 12 (bl 14 8191) rfl (by kernel_rfl) rfl (by decide) (Eff.assign rfl ⟨fun W h => h.holds (m1.trans m2) (by first | exact mp rfl | exact mq rfl), ?_⟩)
        refine RAny.on 13 (bl 14 16383) rfl (by kernel_rfl) rfl (by decide) (Eff.assign rfl ⟨fun W h => h.holds (m1.trans m2) (by first | exact mp rfl | exact mq rfl), ?_⟩)
        refine RAny.done _ (by kernel_rfl) ?_
        refine Run.keep [2, 5, 6, 7] [_, _, _, _] rfl ?_
        exact fin _ _ _ ⟨b2, m, okb, rfl, rfl, hans⟩
      · skip
        skip
        skip
        refine RAny.on 5 (bl 14 1087) rfl (by kernel_rfl) rfl (by decide) (Eff.call ((fun J => impl_NameParse2 J tx which o hro (by unfold nmBig; omega) hw) K1) Proofs.Tryz.call11 rfl fun x2 K2 m2 hx2 => ⟨fun W h => h.holds (m1.trans m2) (by first | exact mp rfl | exact mq rfl), ?_⟩)
        obtain ⟨m, okb, rfl, hans⟩ := hx2
        skip
        refine RAny.tk 6 (bl 14 1151) rfl (by kernel_rfl) (by decide) (fun W h => h.holds (m1.trans m2) (by first | exact mp rfl | exact mq rfl)) (Yld.eval T rfl rfl) ?_
        refine RAny.tk 7 (bl 14 1279) rfl (by kernel_rfl) (by decide) (fun W h => h.holds (m1.trans m2) (by first | exact mp rfl | exact mq rfl)) (Yld.eval T rfl rfl) ?_
        refine RAny.tk 8 (bl 14 1535) rfl (by kernel_rfl) (by decide) (fun W h => h.holds (m1.trans m2) (by first | exact mp rfl | exact mq rfl)) (Yld.eval T rfl rfl) ?_
        refine RAny.tk 9 (bl 14 2047) rfl (by kernel_rfl) (by decide) (fun W h => h.holds (m1.trans m2) (by first | exact mp rfl | exact mq rfl)) (Yld.eval T rfl rfl) ?_
        refine RAny.os 11 (bl 14 4095) rfl (by kernel_rfl) rfl (Eff.store 0 rfl rfl rfl rfl (T.sizeOk rfl) rfl (Nat.le_of_ble_eq_true rfl) rfl rfl ⟨fun W h => h.holds (m1.trans m2) (by first | exact mp rfl | exact mq rfl), ?_⟩)
        refine RAny.on 12 (bl 14 8191) rfl (by kernel_rfl) rfl (by decide) (Eff.assign rfl ⟨fun W h => h.holds (m1.trans m2) (by first | exact mp rfl | exact mq rfl), ?_⟩)
        refine RAny.on 13 (bl 14 16383) rfl (by kernel_rfl) rfl (by decide) (Eff.assign rfl ⟨fun W h => h.holds (m1.trans m2) (by first | exact mp rfl | exact mq rfl), ?_⟩)
        refine RAny.done _ (by kernel_rfl) ?_
        refine Run.keep [2, 5, 6, 7] [_, _, _, _] rfl ?_
        exact fin _ _ _ ⟨b2, m, okb, rfl, rfl, hans⟩
    · skip
      skip
      skip
      refine RAny.on 4 (bl 14 1055) rfl (by kernel_rfl) rfl (by decide) (Eff.call (hopt J1) Proofs.Tryz.call12 rfl fun x1 K1 m1 hx1 => ⟨fun W h => h.holds m1 (by first | exact mp rfl | exact mq rfl), ?_⟩)
      subst hx1
      refine RAny.on 5 (bl 14 1087) rfl (by kernel_rfl) rfl (by decide) (Eff.call ((fun J => impl_NameParse2 J tx which o hro (by unfold nmBig; omega) hw) K1) Proofs.Tryz.call11 rfl fun x2 K2 m2 hx2 => ⟨fun W h => h.holds (m1.trans m2) (by first | exact mp rfl | exact mq rfl), ?_⟩)
      obtain ⟨m, okb, rfl, hans⟩ := hx2
      skip
      refine RAny.tk 6 (bl 14 1151) rfl (by kernel_rfl) (by decide) (fun W h => h.holds (m1.trans m2) (by first | exact mp rfl | exact mq rfl)) (Yld.eval T rfl rfl) ?_
      refine RAny.tk 7 (bl 14 1279) rfl (by kernel_rfl) (by decide) (fun W h => h.holds (m1.trans m2) (by first | exact mp rfl | exact mq rfl)) (Yld.eval T rfl rfl) ?_
      refine RAny.tk 8 (bl 14 1535) rfl (by kernel_rfl) (by decide) (fun W h => h.holds (m1.trans m2) (by first | exact mp rfl | exact mq rfl)) (Yld.eval T rfl rfl) ?_
      refine RAny.tk 9 (bl 14 2047) rfl (by kernel_rfl) (by decide) (fun W h => h.holds (m1.trans m2) (by first | exact mp rfl | exact mq rfl)) (Yld.eval T rfl rfl) ?_
      refine RAny.os 11 (bl 14 4095) rfl (by kernel_rfl) rfl (Eff.store 0 rfl rfl rfl rfl (T.sizeOk rfl) rfl (Nat.le_of_ble_eq_true rfl) rfl rfl ⟨fun W h => h.holds (m1.trans m2) (by first | exact mp rfl | exact mq rfl), ?_⟩)
      refine RAny.on 12 (bl 14 8191) rfl (by kernel_rfl) rfl (by decide) (Eff.assign rfl ⟨fun W h => h.holds (m1.trans m2) (by first | exact mp rfl | exact mq rfl), ?_⟩)
      refine RAny.on 13 (bl 14 16383) rfl (by kernel_rfl) rfl (by decide) (Eff.assign rfl ⟨fun W h => h.holds (m1.trans m2) (by first | exact mp rfl | exact mq rfl), ?_⟩)
      refine RAny.done _ (by kernel_rfl) ?_
      refine Run.keep [2, 5, 6, 7] [_, _, _, _] rfl ?_
      exact fin _ _ _ ⟨b2, m, okb, rfl, rfl, hans⟩
  rintro env L J2 ⟨b2, m, okb, rfl, rfl, hans⟩
  repeat (first | refine Run.seq ?_)
  refine Run.piece (fun env' L' I' => ∃ b3 cs, env' = [(2, .pointer (some ⟨b1, 0, none⟩)), (6, .pointer (some ⟨b2, 0, none⟩)), (7, .bool okb), (11, .bool (sRead o which tx).2.2)] ∧ L' = [(b3, cs), (b2, blk m.cs 26), (b1, blk (Ask.mk tx st o.ins reg tag).cs 23)]) ?_ ?_
  · intro k' fin
    refine Run.regionAny (Holds J2 [(b2, blk m.cs 26), (b1, blk (Ask.mk tx st o.ins reg tag).cs 23)]) (bl 14 0) (by kernel_rfl) (by kernel_rfl) ?_
    refine RAny.tk 0 (bl 14 1) rfl (by kernel_rfl) (by decide) (fun W h => h.holds (Le.refl _) (by first | exact mp rfl | exact mq rfl)) (Yld.eval T rfl rfl) ?_
    first | refine RAny.tk 1 (bl 14 3) rfl (by kernel_rfl) (by decide) (fun W h => h.holds (Le.refl _) (by first | exact mp rfl | exact mq rfl)) (Yld.load 0 T rfl rfl rfl rfl rfl) ?_ | refine RAny.tk 1 (bl 14 3) rfl (by kernel_rfl) (by decide) (fun W h => h.holds (Le.refl _) (by first | exact mp rfl | exact mq rfl)) (Yld.load 1 T rfl rfl rfl rfl rfl) ?_ | refine RAny.tk 1 (bl 14 3) rfl (by kernel_rfl) (by decide) (fun W h => h.holds (Le.refl _) (by first | exact mp rfl | exact mq rfl)) (Yld.load 2 T rfl rfl rfl rfl rfl) ?_
    refine RAny.tk 2 (bl 14 7) rfl (by kernel_rfl) (by decide) (fun W h => h.holds (Le.refl _) (by first | exact mp rfl | exact mq rfl)) (Yld.eval T rfl rfl) ?_
    first | refine RAny.tk 3 (bl 14 15) rfl (by kernel_rfl) (by decide) (fun W h => h.holds (Le.refl _) (by first | exact mp rfl | exact mq rfl)) (Yld.loadN 0 T rfl rfl rfl rfl rfl rfl rfl) ?_ | refine RAny.tk 3 (bl 14 15) rfl (by kernel_rfl) (by decide) (fun W h => h.holds (Le.refl _) (by first | exact mp rfl | exact mq rfl)) (Yld.loadN 1 T rfl rfl rfl rfl rfl rfl rfl) ?_ | refine RAny.tk 3 (bl 14 15) rfl (by kernel_rfl) (by decide) (fun W h => h.holds (Le.refl _) (by first | exact mp rfl | exact mq rfl)) (Yld.loadN 2 T rfl rfl rfl rfl rfl rfl rfl) ?_
    refine RAny.two 4 10 (bl 14 31) (bl 14 1039) rfl rfl (by kernel_rfl) rfl rfl (by decide) (by decide) (Eff.call (hopt J2) Proofs.Tryz.call12 rfl fun x1 K1 m1 hx1 => ⟨fun W h => h.holds m1 (by first | exact mp rfl | exact mq rfl), ?_⟩) (Eff.alloc (T.zeroOk rfl) rfl fun b2 => ⟨fun W h => h.holds (Le.refl _) (by first | exact mp rfl | exact mq rfl), ?_⟩)
    skip
    · skip
      skip
      subst hx1
      refine RAny.two 5 10 (bl 14 63) (bl 14 1055) rfl rfl (by kernel_rfl) rfl rfl (by decide) (by decide) (Eff.call ((fun J => spec_NameRead J tx which o (by omega) hro htl hw) K1) Proofs.Tryz.call13 rfl fun x2 K2 m2 hx2 => ⟨fun W h => h.holds (m1.trans m2) (by first | exact mp rfl | exact mq rfl), ?_⟩) (Eff.alloc (T.zeroOk rfl) rfl fun b2 => ⟨fun W h => h.holds m1 (by first | exact mp rfl | exact mq rfl), ?_⟩)
      skip
      · skip
        skip
        subst hx2; unfold nrV
        skip
        refine RAny.tk 6 (bl 14 127) rfl (by kernel_rfl) (by decide) (fun W h => h.holds (m1.trans m2) (by first | exact mp rfl | exact mq rfl)) (Yld.eval T rfl rfl) ?_
        refine RAny.tk 7 (bl 14 255) rfl (by kernel_rfl) (by decide) (fun W h => h.holds (m1.trans m2) (by first | exact mp rfl | exact mq rfl)) (Yld.eval T rfl rfl) ?_
        refine RAny.tk 8 (bl 14 511) rfl (by kernel_rfl) (by decide) (fun W h => h.holds (m1.trans m2) (by first | exact mp rfl | exact mq rfl)) (Yld.eval T rfl rfl) ?_
        refine RAny.tk 9 (bl 14 1023) rfl (by kernel_rfl) (by decide) (fun W h => h.holds (m1.trans m2) (by first | exact mp rfl | exact mq rfl)) (Yld.eval T rfl rfl) ?_
        refine RAny.on 10 (bl 14 2047) rfl (by kernel_rfl) rfl (by decide) (Eff.alloc (T.zeroOk rfl) rfl fun b2 => ⟨fun W h => h.holds (m1.trans m2) (by first | exact mp rfl | exact mq rfl), ?_⟩)
        refine RAny.os 11 (bl 14 4095) rfl (by kernel_rfl) rfl (Eff.store 0 rfl rfl rfl rfl (T.sizeOk rfl) rfl (Nat.le_of_ble_eq_true rfl) rfl rfl ⟨fun W h => h.holds (m1.trans m2) (by first | exact mp rfl | exact mq rfl), ?_⟩)
        refine RAny.on 12 (bl 14 8191) rfl (by kernel_rfl) rfl (by decide) (Eff.assign rfl ⟨fun W h => h.holds (m1.trans m2) (by first | exact mp rfl | exact mq rfl), ?_⟩)
        refine RAny.on 13 (bl 14 16383) rfl (by kernel_rfl) rfl (by decide) (Eff.assign rfl ⟨fun W h => h.holds (m1.trans m2) (by first | exact mp rfl | exact mq rfl), ?_⟩)
        refine RAny.done _ (by kernel_rfl) ?_
        refine Run.keep [2, 6, 7, 11] [_, _, _, _] rfl ?_
        exact fin _ _ _ ⟨b2, _, rfl, rfl⟩
      · skip
        skip
        skip
        refine RAny.on 5 (bl 14 1087) rfl (by kernel_rfl) rfl (by decide) (Eff.call ((fun J => spec_NameRead J tx which o (by omega) hro htl hw) K1) Proofs.Tryz.call13 rfl fun x2 K2 m2 hx2 => ⟨fun W h => h.holds (m1.trans m2) (by first | exact mp rfl | exact mq rfl), ?_⟩)
        subst hx2; unfold nrV
        skip
        refine RAny.tk 6 (bl 14 1151) rfl (by kernel_rfl) (by decide) (fun W h => h.holds (m1.trans m2) (by first | exact mp rfl | exact mq rfl)) (Yld.eval T rfl rfl) ?_
        refine RAny.tk 7 (bl 14 1279) rfl (by kernel_rfl) (by decide) (fun W h => h.holds (m1.trans m2) (by first | exact mp rfl | exact mq rfl)) (Yld.eval T rfl rfl) ?_
        refine RAny.tk 8 (bl 14 1535) rfl (by kernel_rfl) (by decide) (fun W h => h.holds (m1.trans m2) (by first | exact mp rfl | exact mq rfl)) (Yld.eval T rfl rfl) ?_
        refine RAny.tk 9 (bl 14 2047) rfl (by kernel_rfl) (by decide) (fun W h => h.holds (m1.trans m2) (by first | exact mp rfl | exact mq rfl)) (Yld.eval T rfl rfl) ?_
        refine RAny.os 11 (bl 14 4095) rfl (by kernel_rfl) rfl (Eff.store 0 rfl rfl rfl rfl (T.sizeOk rfl) rfl (Nat.le_of_ble_eq_true rfl) rfl rfl ⟨fun W h => h.holds (m1.trans m2) (by first | exact mp rfl | exact mq rfl), ?_⟩)
        refine RAny.on 12 (bl 14 8191) rfl (by kernel_rfl) rfl (by decide) (Eff.assign rfl ⟨fun W h => h.holds (m1.trans m2) (by first | exact mp rfl | exact mq rfl), ?_⟩)
        refine RAny.on 13 (bl 14 16383) rfl (by kernel_rfl) rfl (by decide) (Eff.assign rfl ⟨fun W h => h.holds (m1.trans m2) (by first | exact mp rfl | exact mq rfl), ?_⟩)
        refine RAny.done _ (by kernel_rfl) ?_
        refine Run.keep [2, 6, 7, 11] [_, _, _, _] rfl ?_
        exact fin _ _ _ ⟨b2, _, rfl, rfl⟩
    · skip
      skip
      skip
      refine RAny.on 4 (bl 14 1055) rfl (by kernel_rfl) rfl (by decide) (Eff.call (hopt J2) Proofs.Tryz.call12 rfl fun x1 K1 m1 hx1 => ⟨fun W h => h.holds m1 (by first | exact mp rfl | exact mq rfl), ?_⟩)
      subst hx1
      refine RAny.on 5 (bl 14 1087) rfl (by kernel_rfl) rfl (by decide) (Eff.call ((fun J => spec_NameRead J tx which o (by omega) hro htl hw) K1) Proofs.Tryz.call13 rfl fun x2 K2 m2 hx2 => ⟨fun W h => h.holds (m1.trans m2) (by first | exact mp rfl | exact mq rfl), ?_⟩)
      subst hx2; unfold nrV
      skip
      refine RAny.tk 6 (bl 14 1151) rfl (by kernel_rfl) (by decide) (fun W h => h.holds (m1.trans m2) (by first | exact mp rfl | exact mq rfl)) (Yld.eval T rfl rfl) ?_
      refine RAny.tk 7 (bl 14 1279) rfl (by kernel_rfl) (by decide) (fun W h => h.holds (m1.trans m2) (by first | exact mp rfl | exact mq rfl)) (Yld.eval T rfl rfl) ?_
      refine RAny.tk 8 (bl 14 1535) rfl (by kernel_rfl) (by decide) (fun W h => h.holds (m1.trans m2) (by first | exact mp rfl | exact mq rfl)) (Yld.eval T rfl rfl) ?_
      refine RAny.tk 9 (bl 14 2047) rfl (by kernel_rfl) (by decide) (fun W h => h.holds (m1.trans m2) (by first | exact mp rfl | exact mq rfl)) (Yld.eval T rfl rfl) ?_
      refine RAny.os 11 (bl 14 4095) rfl (by kernel_rfl) rfl (Eff.store 0 rfl rfl rfl rfl (T.sizeOk rfl) rfl (Nat.le_of_ble_eq_true rfl) rfl rfl ⟨fun W h => h.holds (m1.trans m2) (by first | exact mp rfl | exact mq rfl), ?_⟩)
      refine RAny.on 12 (bl 14 8191) rfl (by kernel_rfl) rfl (by decide) (Eff.assign rfl ⟨fun W h => h.holds (m1.trans m2) (by first | exact mp rfl | exact mq rfl), ?_⟩)
      refine RAny.on 13 (bl 14 16383) rfl (by kernel_rfl) rfl (by decide) (Eff.assign rfl ⟨fun W h => h.holds (m1.trans m2) (by first | exact mp rfl | exact mq rfl), ?_⟩)
      refine RAny.done _ (by kernel_rfl) ?_
      refine Run.keep [2, 6, 7, 11] [_, _, _, _] rfl ?_
      exact fin _ _ _ ⟨b2, _, rfl, rfl⟩
  rintro env L J3 ⟨b3, cs3, rfl, rfl⟩
  repeat (first | refine Run.seq ?_ | refine Run.region ?_ | refine Ops.pure T rfl (by decide) rfl ?_)
  rcases hsp : sParts o which tx with ⟨k, r, p, t, ok, op⟩
  have hread : sRead o which tx = if !ok || op then (Nm.zero, ok, op) else (nmd (o.ins || localF r) k r p t tx, true, false) := by unfold sRead; rw [hsp]; rfl
  have hop : (sRead o which tx).2.2 = op := by rw [hread]; cases ok <;> cases op <;> rfl
  rw [hop]
  cases okb with
  | false =>
    repeat (first | refine Run.seq ?_ | refine Run.region ?_ | refine Ops.nil ?_ | refine Run.cond_t rfl ?_ | refine Ops.not rfl (by decide) ?_ | refine Ops.pure T rfl (by decide) rfl ?_)
    refine Ops.call ((laws_nameAwake _)) rfl (by decide) Proofs.Tryz.call14 rfl ?_
    rintro _ Jz lz rfl
    repeat (first | refine Ops.nil ?_ | refine Ops.pure T rfl (by decide) rfl ?_)
    refine Run.fin (Run.ret1 (by rw [hCf]; exact Proofs.Tryz.func3) Proofs.Tryz.results3 rfl (hR _ _ _ ?_))
    exact ⟨rfl, rfl⟩
  | true =>
  cases op with
  | true =>
    repeat (first | refine Run.seq ?_ | refine Run.region ?_ | refine Ops.nil ?_ | refine Run.cond_t rfl ?_ | refine Ops.not rfl (by decide) ?_ | refine Ops.pure T rfl (by decide) rfl ?_)
    refine Ops.call ((laws_nameAwake _)) rfl (by decide) Proofs.Tryz.call14 rfl ?_
    rintro _ Jz lz rfl
    repeat (first | refine Ops.nil ?_ | refine Ops.pure T rfl (by decide) rfl ?_)
    refine Run.fin (Run.ret1 (by rw [hCf]; exact Proofs.Tryz.func3) Proofs.Tryz.results3 rfl (hR _ _ _ ?_))
    exact ⟨rfl, rfl⟩
  | false =>
  obtain ⟨rfl, hm⟩ := hans _ _ _ _ _ hsp
  obtain ⟨⟨q1, q2, q3, q4⟩, hk⟩ := sParts_len hro htl hsp
  have q5 := plain_len q1
  have hnl := nmd_name_len (b := o.ins || pHttp r) (r := r) (p := p) (t := t) (s := tx) hk
  obtain ⟨nm, f, sc, cn, ct, rn, he⟩ := nmd_split k r p t hk
  have hm := hm rfl
  have hag := fun htag hl => again (which := which) (ins := o.ins) hro (by omega) hsp htag hl (o.ins || pHttp r) tx
  rw [he] at hm hag hnl
  simp only at hag hnl
  subst hm
  repeat (first | refine Ops.gtr rfl (by decide) rfl rfl ?_ | refine Ops.pure T rfl (by decide) rfl ?_ | refine Ops.lenS T rfl (by decide) rfl rfl ?_ | refine Ops.load 2 rfl (by decide) rfl rfl (T.aggOk rfl) rfl ?_)
  cases h1 : decide ((1000 : Int) < tx.length) with
  | true =>
    repeat (first | refine Run.seq ?_ | refine Run.region ?_ | refine Ops.nil ?_ | refine Run.cond_t rfl ?_ | refine Ops.not rfl (by decide) ?_ | refine Ops.pure T rfl (by decide) rfl ?_)
    refine Ops.call ((laws_nameAwake _)) rfl (by decide) Proofs.Tryz.call14 rfl ?_
    rintro _ Jz lz rfl
    repeat (first | refine Ops.nil ?_ | refine Ops.pure T rfl (by decide) rfl ?_)
    refine Run.fin (Run.ret1 (by rw [hCf]; exact Proofs.Tryz.func3) Proofs.Tryz.results3 rfl (hR _ _ _ ?_))
    exact ⟨rfl, rfl⟩
  | false =>
  repeat (first | refine Ops.neqStr rfl (by decide) rfl rfl ?_ | refine Ops.pure T rfl (by decide) rfl ?_ | refine Ops.load 2 rfl (by decide) rfl rfl (T.aggOk rfl) rfl ?_)
  cases h2 : decide (tag = []) with
  | false =>
    repeat (first | refine Run.seq ?_ | refine Run.region ?_ | refine Ops.nil ?_ | refine Run.cond_t rfl ?_ | refine Ops.not rfl (by decide) ?_ | refine Ops.pure T rfl (by decide) rfl ?_)
    refine Ops.call ((laws_nameAwake _)) rfl (by decide) Proofs.Tryz.call14 rfl ?_
    rintro _ Jz lz rfl
    repeat (first | refine Ops.nil ?_ | refine Ops.pure T rfl (by decide) rfl ?_)
    refine Run.fin (Run.ret1 (by rw [hCf]; exact Proofs.Tryz.func3) Proofs.Tryz.results3 rfl (hR _ _ _ ?_))
    exact ⟨rfl, rfl⟩
  | true =>
  have h2' := hot (of_decide_eq_true h2)
  repeat (first | refine Ops.nil ?_ | refine Ops.gtr rfl (by decide) rfl rfl ?_ | refine Ops.pure T rfl (by decide) rfl ?_ | refine Ops.lenS T rfl (by decide) rfl rfl ?_ | refine Ops.load 1 rfl (by decide) rfl rfl (T.aggOk rfl) rfl ?_)
  cases h3 : decide ((255 : Int) < p.length) with
  | true =>
    repeat (first | refine Run.seq ?_ | refine Run.region ?_ | refine Run.cond_t rfl ?_)
    refine Ops.call ((laws_nameAwake _)) rfl (by decide) Proofs.Tryz.call14 rfl ?_
    rintro _ Jz lz rfl
    repeat (first | refine Ops.nil ?_ | refine Ops.pure T rfl (by decide) rfl ?_)
    refine Run.fin (Run.ret1 (by rw [hCf]; exact Proofs.Tryz.func3) Proofs.Tryz.results3 rfl (hR _ _ _ ?_))
    exact ⟨rfl, rfl⟩
  | false =>
  obtain ⟨_, _, hag⟩ := hag h2' (by have := of_decide_eq_false h3; omega)
  repeat (first | refine Run.seq ?_ | refine Run.region ?_ | refine Run.skip ?_ | refine Run.cond_f rfl ?_ | refine Ops.pure T rfl (by decide) rfl ?_ | refine Ops.load 1 rfl (by decide) rfl rfl (T.aggOk rfl) rfl ?_ | refine Ops.load 2 rfl (by decide) rfl rfl (T.aggOk rfl) rfl ?_)
  refine Ops.buildL bd30 rfl (by decide) rfl rfl ?_
  refine Ops.call ((impl_NameParse2 J3 nm k ⟨true, o.ins, [], []⟩ (.inl rfl) (by unfold nmBig; simp only [List.length_nil]; omega) (.inr hk))) rfl (by decide) Proofs.Tryz.call11 rfl ?_
  rintro _ J4 l4 ⟨m2, ok2, rfl, hans2⟩
  obtain ⟨rfl, hm2⟩ := hans2 _ _ _ _ _ hag
  have hm2 := hm2 rfl
  simp only at hm2
  rw [he] at hm2
  subst hm2
  repeat (first | refine Ops.pure T rfl (by decide) rfl ?_)
  refine Ops.alloc rfl (by decide) (T.zeroOk rfl) rfl (fun b4 => ?_)
  repeat (first | refine Run.seq ?_ | refine Run.region ?_ | refine Ops.nil ?_ | refine Ops.pure T rfl (by decide) rfl ?_ | refine Ops.load 2 rfl (by decide) rfl rfl (T.aggOk rfl) rfl ?_ | refine Ops.store 0 rfl rfl rfl rfl rfl (T.sizeOk rfl) rfl (Nat.le_of_ble_eq_true rfl) rfl rfl ?_)
  refine Ops.call ((spec_HostNamed J4 r (by omega))) rfl (by decide) Proofs.Tryz.call15 rfl ?_
  rintro _ J5 l5 rfl
  cases hh : hostNamed r with
  | true =>
    skip
    repeat (first | refine Run.seq ?_ | refine Run.region ?_ | refine Ops.nil ?_ | refine Run.skip ?_ | refine Run.cond_f rfl ?_ | refine Ops.not rfl (by decide) ?_ | refine Ops.pure T rfl (by decide) rfl ?_ | refine Ops.loadN 0 rfl (by decide) rfl rfl (T.aggOk rfl) (T.sizeOk rfl) rfl rfl ?_ | refine Ops.loadN 2 rfl (by decide) rfl rfl (T.aggOk rfl) (T.sizeOk rfl) rfl rfl ?_ | refine Ops.store 0 rfl rfl rfl rfl rfl (T.sizeOk rfl) rfl (Nat.le_of_ble_eq_true rfl) rfl rfl ?_ | refine Ops.store 2 rfl rfl rfl rfl rfl (T.sizeOk rfl) rfl (Nat.le_of_ble_eq_true rfl) rfl rfl ?_)
    refine Ops.eqlAgg T [26] (by kernel_rfl) rfl rfl (by decide) rfl rfl rfl ?_
    simp only [beq_self_eq_true, Bool.and_self]
    repeat (first | refine Ops.pure T rfl (by decide) rfl ?_)
    refine Ops.call ((laws_nameAwake _)) rfl (by decide) Proofs.Tryz.call14 rfl ?_
    rintro _ Jz lz rfl
    repeat (first | refine Ops.nil ?_ | refine Ops.pure T rfl (by decide) rfl ?_)
    refine Run.fin (Run.ret1 (by rw [hCf]; exact Proofs.Tryz.func3) Proofs.Tryz.results3 rfl (hR _ _ _ ?_))
    exact ⟨rfl, rfl⟩
  | false =>
    repeat (first | refine Ops.nil ?_ | refine Ops.neq rfl (by decide) rfl rfl ?_ | refine Ops.pure T rfl (by decide) rfl ?_ | refine Ops.load 2 rfl (by decide) rfl rfl (T.aggOk rfl) rfl ?_)
    cases hk1 : decide (k = 1) with
    | true =>
      skip
      repeat (first | refine Run.seq ?_ | refine Run.region ?_ | refine Ops.nil ?_ | refine Run.skip ?_ | refine Run.cond_f rfl ?_ | refine Ops.pure T rfl (by decide) rfl ?_ | refine Ops.loadN 0 rfl (by decide) rfl rfl (T.aggOk rfl) (T.sizeOk rfl) rfl rfl ?_ | refine Ops.loadN 2 rfl (by decide) rfl rfl (T.aggOk rfl) (T.sizeOk rfl) rfl rfl ?_ | refine Ops.store 0 rfl rfl rfl rfl rfl (T.sizeOk rfl) rfl (Nat.le_of_ble_eq_true rfl) rfl rfl ?_ | refine Ops.store 2 rfl rfl rfl rfl rfl (T.sizeOk rfl) rfl (Nat.le_of_ble_eq_true rfl) rfl rfl ?_)
      refine Ops.eqlAgg T [26] (by kernel_rfl) rfl rfl (by decide) rfl rfl rfl ?_
      simp only [beq_self_eq_true, Bool.and_self]
      repeat (first | refine Ops.pure T rfl (by decide) rfl ?_)
      refine Ops.call ((laws_nameAwake _)) rfl (by decide) Proofs.Tryz.call14 rfl ?_
      rintro _ Jz lz rfl
      repeat (first | refine Ops.nil ?_ | refine Ops.pure T rfl (by decide) rfl ?_)
      refine Run.fin (Run.ret1 (by rw [hCf]; exact Proofs.Tryz.func3) Proofs.Tryz.results3 rfl (hR _ _ _ ?_))
      exact ⟨rfl, rfl⟩
    | false =>
      repeat (first | refine Run.seq ?_ | refine Run.region ?_ | refine Run.cond_t rfl ?_)
      refine Ops.call ((laws_nameAwake _)) rfl (by decide) Proofs.Tryz.call14 rfl ?_
      rintro _ Jz lz rfl
      repeat (first | refine Ops.nil ?_ | refine Ops.pure T rfl (by decide) rfl ?_)
      refine Run.fin (Run.ret1 (by rw [hCf]; exact Proofs.Tryz.func3) Proofs.Tryz.results3 rfl (hR _ _ _ ?_))
      exact ⟨rfl, rfl⟩
end Go.V
/-
  A summary of the library, at this program: which number stands where.
-/
namespace Go.V
open Go.Shelf Go.Proofs
set_option linter.unusedVariables false
set_option maxRecDepth 100000
def ren31 : Go.Shelf.Ren := ⟨fun | 30 => 106 | 31 => 88 | 46 => 116 | 47 => 117 | 48 => 118 | n => n, fun | 0 => 0 | 3 => 3 | 4 => 4 | 5 => 5 | 9 => 9 | 26 => 36 | 30 => 111 | 42 => 129 | 48 => 135 | n => n, fun n => n⟩
theorem lays31 : Lays.p31 Proofs.Tryz.prog ren31 := {
  mixed := by kernel_rfl
  f30 := Proofs.Tryz.func106.trans (congrArg some (by kernel_rfl))
  f31 := Proofs.Tryz.func88.trans (congrArg some (by kernel_rfl))
  f46 := Proofs.Tryz.func116.trans (congrArg some (by kernel_rfl))
  f47 := Proofs.Tryz.func117.trans (congrArg some (by kernel_rfl))
  f48 := Proofs.Tryz.func118.trans (congrArg some (by kernel_rfl))
  t0 := Proofs.Tryz.underlying0
  a0 := Proofs.Tryz.isAgg0
  z0 := Proofs.Tryz.sizeOf0
  v0 := Proofs.Tryz.zeroValue0
  t3 := Proofs.Tryz.underlying3
  a3 := Proofs.Tryz.isAgg3
  z3 := Proofs.Tryz.sizeOf3
  v3 := Proofs.Tryz.zeroValue3
  t4 := Proofs.Tryz.underlying4
  a4 := Proofs.Tryz.isAgg4
  z4 := Proofs.Tryz.sizeOf4
  v4 := Proofs.Tryz.zeroValue4
  t5 := Proofs.Tryz.underlying5
  a5 := Proofs.Tryz.isAgg5
  z5 := Proofs.Tryz.sizeOf5
  v5 := Proofs.Tryz.zeroValue5
  t9 := Proofs.Tryz.underlying9
  a9 := Proofs.Tryz.isAgg9
  z9 := Proofs.Tryz.sizeOf9
  v9 := Proofs.Tryz.zeroValue9
  t26 := Proofs.Tryz.underlying36
  a26 := Proofs.Tryz.isAgg36
  z26 := Proofs.Tryz.sizeOf36
  v26 := Proofs.Tryz.zeroValue36
  t30 := Proofs.Tryz.underlying111
  a30 := Proofs.Tryz.isAgg111
  z30 := Proofs.Tryz.sizeOf111
  v30 := Proofs.Tryz.zeroValue111
  t42 := Proofs.Tryz.underlying129
  a42 := Proofs.Tryz.isAgg129
  z42 := Proofs.Tryz.sizeOf129
  v42 := Proofs.Tryz.zeroValue129
  t48 := Proofs.Tryz.underlying135
  a48 := Proofs.Tryz.isAgg135
  z48 := Proofs.Tryz.sizeOf135
  v48 := Proofs.Tryz.zeroValue135 }
end Go.V
/-
  Parts of a path joined: plain Lean, and the library's proved summary.
-/
namespace Go.V
open Go.RowKit Go.Shelf Go.Lib
set_option linter.unusedVariables false
set_option linter.unusedSimpArgs false
set_option maxRecDepth 10000
attribute [local irreducible] Run Ops
def goodPart (x : Tx) : Prop := allIn smallT x = true ∧ x ≠ [] ∧ x ≠ [46] ∧ x ≠ [46, 46]
theorem goodPart.no {x : Tx} (h : goodPart x) : hasB 47 x = false := allIn_not 47 h.1 (by decide)
theorem els_spl : ∀ s : Tx, Pa.els s = spl 47 s
  | [] => rfl
  | b :: r => by
    simp only [Pa.els, spl, els_spl r]
    cases spl 47 r <;> rfl
theorem joinStep_els {b x : Tx} (hb : b ≠ []) (h : hasB 47 x = false) : spl 47 (Pa.joinStep b x) = spl 47 b ++ [x] := by
  unfold Pa.joinStep
  rw [if_neg hb]
  exact spl_app2 47 x h b
theorem joinStep_ne {b x : Tx} (hb : b ≠ []) : Pa.joinStep b x ≠ [] := by
  unfold Pa.joinStep
  rw [if_neg hb]
  simp
theorem fold_els : ∀ (xs : Txts) (b : Tx), b ≠ [] → (∀ x ∈ xs, goodPart x) → spl 47 (xs.foldl Pa.joinStep b) = spl 47 b ++ xs ∧ xs.foldl Pa.joinStep b ≠ []
  | [], b, hb, _ => by simp [hb]
  | x :: r, b, hb, h => by
    obtain ⟨h1, h2⟩ := fold_els r (Pa.joinStep b x) (joinStep_ne hb) (fun y hy => h y (List.mem_cons_of_mem _ hy))
    refine ⟨?_, h2⟩
    rw [List.foldl_cons, h1, joinStep_els hb (h x List.mem_cons_self).no, List.append_assoc]
    rfl
theorem joinBuf_els {xs : Txts} (hne : xs ≠ []) (h : ∀ x ∈ xs, goodPart x) : spl 47 (Pa.joinBuf xs) = xs ∧ Pa.joinBuf xs ≠ [] := by
  cases xs with
  | nil => exact absurd rfl hne
  | cons x r =>
    have hx := h x List.mem_cons_self
    obtain ⟨h1, h2⟩ := fold_els r x hx.2.1 (fun y hy => h y (List.mem_cons_of_mem _ hy))
    have e : Pa.joinBuf (x :: r) = r.foldl Pa.joinStep x := by
      unfold Pa.joinBuf
      rw [List.foldl_cons]
      rfl
    rw [e]
    refine ⟨?_, h2⟩
    rw [h1, spl_none (ix_none.2 hx.no)]
    rfl
theorem inter_spl : ∀ s : Tx, [47].intercalate (spl 47 s) = s
  | [] => rfl
  | b :: r => by
    have ih := inter_spl r
    simp only [spl]
    by_cases h : b = 47
    · rw [if_pos h]
      cases hr : spl 47 r with
      | nil => exact absurd hr (spl_pos 47 r)
      | cons y ys =>
        rw [hr] at ih
        simp only [List.intercalate, List.intersperse, List.flatten_cons, List.nil_append, List.singleton_append] at ih ⊢
        rw [ih, h]
    · rw [if_neg h]
      cases hr : spl 47 r with
      | nil => exact absurd hr (spl_pos 47 r)
      | cons y ys =>
        rw [hr] at ih
        cases ys with
        | nil => simp [List.intercalate, List.intersperse] at ih ⊢; rw [ih]
        | cons z zs => simp [List.intercalate, List.intersperse] at ih ⊢; rw [ih]
theorem clean_step : ∀ (xs : Txts) (st : Txts), (∀ x ∈ xs, goodPart x) → xs.foldl (Pa.cleanStep false) st = xs.reverse ++ st
  | [], st, _ => rfl
  | x :: r, st, h => by
    obtain ⟨_, h1, h2, h3⟩ := h x List.mem_cons_self
    rw [List.foldl_cons, clean_step r _ (fun y hy => h y (List.mem_cons_of_mem _ hy)), show Pa.cleanStep false st x = x :: st by simp [Pa.cleanStep, h1, h2, h3], List.reverse_cons, List.append_assoc]
    rfl
theorem clean_parts {s : Tx} (hne : s ≠ []) (h : ∀ x ∈ spl 47 s, goodPart x) : Pa.clean s = s := by
  have hh : (s.head? == some 47) = false := by
    cases s with
    | nil => rfl
    | cons b r =>
      by_cases hb : b = 47
      · subst hb
        have := h [] (by simp [spl])
        exact absurd rfl this.2.1
      · simp [hb]
  rw [Pa.clean_eq_cleanEls]
  unfold Pa.cleanEls
  rw [if_neg hne]
  simp only [hh, els_spl, clean_step _ _ h, List.append_nil, List.reverse_reverse, inter_spl, Bool.false_eq_true, if_false]
  rw [if_neg hne]
theorem joinL_parts {xs : Txts} (h : ∀ x ∈ xs, goodPart x) : Pa.joinL xs = Pa.joinBuf xs := by
  cases xs with
  | nil => rfl
  | cons x r =>
    obtain ⟨h1, h2⟩ := joinBuf_els (List.cons_ne_nil x r) h
    unfold Pa.joinL
    rw [if_neg h2]
    exact clean_parts h2 (by rw [h1]; exact h)
theorem fold_chars : ∀ (xs : Txts) (b : Tx), allIn (smallT ++ [47]) b = true → (∀ x ∈ xs, goodPart x) → allIn (smallT ++ [47]) (xs.foldl Pa.joinStep b) = true
  | [], b, hb, _ => hb
  | x :: r, b, hb, h => by
    refine fold_chars r _ ?_ (fun y hy => h y (List.mem_cons_of_mem _ hy))
    have hx := (h x List.mem_cons_self).1
    have hx' : allIn (smallT ++ [47]) x = true := by
      unfold allIn at hx ⊢
      rw [List.all_eq_true] at hx ⊢
      intro c hc
      have := hx c hc
      rw [List.contains_iff_mem] at this ⊢
      exact List.mem_append_left _ this
    unfold Pa.joinStep
    split
    · exact hx'
    · unfold allIn at *
      rw [List.all_append, hb, List.all_cons, hx']
      decide
theorem joinBuf_chars {xs : Txts} (h : ∀ x ∈ xs, goodPart x) : allIn (smallT ++ [47]) (Pa.joinBuf xs) = true := fold_chars xs [] (by decide) h
theorem fold_len : ∀ (xs : Txts) (b : Tx), Pa.lens xs + b.length ≤ (xs.foldl Pa.joinStep b).length ∧ ((∀ x ∈ xs, goodPart x) → xs.length + b.length ≤ (xs.foldl Pa.joinStep b).length)
  | [], b => by simp [Pa.lens]
  | x :: r, b => by
    obtain ⟨h1, h2⟩ := fold_len r (Pa.joinStep b x)
    have e : b.length + x.length ≤ (Pa.joinStep b x).length := by
      unfold Pa.joinStep
      split
      · rename_i hb; subst hb; simp
      · simp
    refine ⟨?_, fun h => ?_⟩
    · rw [List.foldl_cons]
      have : Pa.lens (x :: r) = x.length + Pa.lens r := by simp [Pa.lens]
      omega
    · rw [List.foldl_cons]
      have := h2 (fun y hy => h y (List.mem_cons_of_mem _ hy))
      have hx : 1 ≤ x.length := List.length_pos_iff.2 (h x List.mem_cons_self).2.1
      simp only [List.length_cons]
      omega
theorem joinBuf_len {xs : Txts} : Pa.lens xs ≤ (Pa.joinBuf xs).length ∧ ((∀ x ∈ xs, goodPart x) → xs.length ≤ (Pa.joinBuf xs).length) := by
  obtain ⟨h1, h2⟩ := fold_len xs []
  exact ⟨by simpa [Pa.joinBuf] using h1, fun h => by simpa [Pa.joinBuf] using h2 h⟩
theorem layph31 : Proofs.Lays.ph31 Proofs.Tryz.prog ren31 := { lays31 with info5 := by kernel_rfl }
theorem path_Join (I : Imm) (xs : Txts) (v : Value) (hS : Sl tStr I v xs) (hne : xs ≠ []) (hlen : Pa.lens xs + xs.length ≤ 281474976710656) : Pure Proofs.Tryz.prog 88 [v] I fun w J => w = str (Pa.joinL xs) ∧ J = I := by
  refine Pure.ofBelow fun w hf => ?_
  obtain ⟨b, off, c, rfl, hcap, hb, hc⟩ := hS.cell hf.imm hne
  have em : ∀ l : Txts, (l.map fun x => (⟨x.toArray⟩ : ByteArray)).map (·.data.toList) = l := by
    intro l
    rw [List.map_map]
    conv => rhs; rw [← List.map_id l]
    exact List.map_congr_left fun x _ => bb_toList x
  have := Proofs.Any.path_Join layph31 b off c (xs.map fun x => ⟨x.toArray⟩) w (by
    intro j z hz
    rw [List.getElem?_map] at hz
    obtain ⟨q, hq, rfl⟩ := Option.map_eq_some_iff.1 hz
    exact hc j q hq) hb (by rw [em, List.length_map]; exact hlen)
  rw [em, List.length_map] at this
  exact this
end Go.V
/-
  Parts of a path: are they good, do they fit?
-/
namespace Go.V
open Go.RowKit
set_option linter.unusedVariables false
set_option linter.unusedSimpArgs false
set_option maxRecDepth 10000
attribute [local irreducible] Run Ops
def fitL (xs : List (List UInt8)) : Prop := xs.length ≤ 2147483647 ∧ ∀ x ∈ xs, x.length ≤ 2147483647
theorem laws_zzFits12 (I : Imm) (xs : List (List UInt8)) (v : Value) (hS : Sl tStr I v xs) : Pure Proofs.Tryz.prog 17 [v] I fun w J => ∃ r, w = .bool r ∧ (r = true → fitL xs) := by
  refine Spec.enter 18 [(0, _)] Proofs.Tryz.func17 rfl Proofs.Tryz.ntmps17 (by simp) rfl ?_
  intro C hCf hR hCI
  repeat (first | refine Run.seq ?_ | refine Run.region ?_ | refine Ops.nil ?_ | refine Ops.pure T rfl (by decide) rfl ?_)
  refine Ops.lenSl (hS) rfl (by decide) rfl (T.undOk rfl) ?_
  repeat (first | refine Ops.nil ?_ | refine Ops.gtr rfl (by decide) rfl rfl ?_)
  refine Run.cond rfl rfl (fun h => ?_) (fun h => ?_)
  all_goals (try rw [h])
  all_goals (try simp only [decide_eq_true_eq, decide_eq_false_iff_not, Bool.not_eq_true', Bool.not_eq_false', Bool.and_eq_true, Bool.or_eq_true, Bool.and_eq_false_imp, Bool.or_eq_false_iff] at h)
  · skip
    repeat (first | refine Run.seq ?_ | refine Run.region ?_ | refine Ops.nil ?_ | refine Ops.pure T rfl (by decide) rfl ?_)
    refine Run.fin (Run.ret1 (by rw [hCf]; exact Proofs.Tryz.func17) Proofs.Tryz.results17 rfl (hR _ _ _ ?_))
    exact ⟨rfl, false, rfl, by simp⟩
  repeat (first | refine Run.seq ?_ | refine Run.region ?_ | refine Run.skip ?_ | refine Ops.pure T rfl (by decide) rfl ?_)
  refine Ops.lenSl (hS) rfl (by decide) rfl (T.undOk rfl) ?_
  repeat (first | refine Ops.nil ?_ | refine Run.block ?_ | refine Ops.pure T rfl (by decide) rfl ?_)
  refine Run.keep [8, 9, 10] [_, _, _] rfl ?_
  refine Run.rounds (fun m env L J => ∃ i : Nat, m = xs.length - i ∧ i ≤ xs.length ∧ (∀ x ∈ xs.take i, x.length ≤ 2147483647) ∧ env = [(8, v), (9, .int .i64 xs.length), (10, .int .i64 i)] ∧ L = [] ∧ J = I) xs.length ⟨0, by omega, by omega, by simp, rfl, rfl, rfl⟩ ?_
  rintro m env L J ⟨i, rfl, hi, hall, rfl, rfl, rfl⟩ ih
  repeat (first | refine Run.seq ?_ | refine Run.region ?_ | refine Ops.nil ?_ | refine Ops.lss rfl (by decide) rfl rfl ?_)
  refine Run.cond rfl rfl (fun h2 => ?_) (fun h2 => ?_)
  all_goals (try rw [h2])
  all_goals (try simp only [decide_eq_true_eq, decide_eq_false_iff_not, Bool.not_eq_true', Bool.not_eq_false', Bool.and_eq_true, Bool.or_eq_true, Bool.and_eq_false_imp, Bool.or_eq_false_iff] at h2)
  · skip
    repeat (first | refine Run.seq ?_ | refine Run.region ?_ | refine Run.skip ?_ | refine Run.block ?_)
    refine Ops.indexSl hS rfl (by decide) rfl rfl (T.undOk rfl) (T.sizeOk rfl) (by first | omega | (simp only [List.length_cons, List.length_nil] ; omega) | (simp; omega)) (by first | omega | (simp only [List.length_cons, List.length_nil] ; omega) | (simp; omega)) ?_
    rintro b_ off_ x cs_ hx hr_ hA_
    obtain rfl : cs_ = [_] := hr_
    refine Ops.loadI rfl (by decide) rfl hA_ (T.aggOk rfl) ?_
    rw [Int.toNat_natCast] at hx
    repeat (first | refine Run.seq ?_ | refine Run.region ?_ | refine Ops.nil ?_ | refine Ops.gtr rfl (by decide) rfl rfl ?_ | refine Ops.pure T rfl (by decide) rfl ?_ | refine Ops.lenS T rfl (by decide) rfl rfl ?_)
    refine Run.cond rfl rfl (fun h3 => ?_) (fun h3 => ?_)
    all_goals (try rw [h3])
    all_goals (try simp only [decide_eq_true_eq, decide_eq_false_iff_not, Bool.not_eq_true', Bool.not_eq_false', Bool.and_eq_true, Bool.or_eq_true, Bool.and_eq_false_imp, Bool.or_eq_false_iff] at h3)
    · skip
      repeat (first | refine Run.seq ?_ | refine Run.region ?_ | refine Ops.nil ?_ | refine Ops.pure T rfl (by decide) rfl ?_)
      refine Run.fin (Run.ret1 (by rw [hCf]; exact Proofs.Tryz.func17) Proofs.Tryz.results17 rfl (hR _ _ _ ?_))
      exact ⟨rfl, false, rfl, by simp⟩
    · skip
      repeat (first | refine Run.region ?_ | refine Ops.nil ?_ | refine Run.skip ?_ | refine Run.inBlock ?_ | refine Ops.add rfl (by decide) rfl rfl (wI (by first | omega | (simp only [List.length_cons, List.length_nil] ; omega) | (simp; omega)) (by first | omega | (simp only [List.length_cons, List.length_nil] ; omega) | (simp; omega))) ?_ | refine Ops.pure T rfl (by decide) rfl ?_)
      refine Run.keep [8, 9, 10] [_, _, _] rfl ?_
      refine ih (xs.length - (i + 1)) _ _ _ (by omega) ⟨i + 1, rfl, by omega, ?_, rfl, rfl, rfl⟩
      intro y hy
      rw [List.take_add_one, hx] at hy
      rcases List.mem_append.1 hy with hy | hy
      · exact hall y hy
      · simp at hy; subst hy; omega
  · have : i = xs.length := by omega
    subst this
    repeat (first | refine Run.seq ?_ | refine Run.region ?_ | refine Ops.nil ?_ | refine Run.exit rfl ?_ | refine Ops.pure T rfl (by decide) rfl ?_)
    refine Run.fin (Run.ret1 (by rw [hCf]; exact Proofs.Tryz.func17) Proofs.Tryz.results17 rfl (hR _ _ _ ?_))
    exact ⟨rfl, true, rfl, fun _ => ⟨by omega, by simpa using hall⟩⟩
theorem small_all : ∀ n < 256, smallT.contains (UInt8.ofNat n) = (decide (97 ≤ n ∧ n ≤ 122) || decide (48 ≤ n ∧ n ≤ 57) || decide (n = 95) || decide (n = 45) || decide (n = 46)) := by decide +kernel
theorem small_iff (c : UInt8) : smallT.contains c = true ↔ (97 ≤ c.toNat ∧ c.toNat ≤ 122) ∨ (48 ≤ c.toNat ∧ c.toNat ≤ 57) ∨ c.toNat = 95 ∨ c.toNat = 45 ∨ c.toNat = 46 := by
  have h := small_all c.toNat (UInt8.toNat_lt c)
  rw [UInt8.ofNat_toNat] at h
  rw [h]
  simp only [Bool.or_eq_true, decide_eq_true_eq]
  omega
theorem allIn_snoc {cs x : Tx} {i : Nat} (hi : i < x.length) (h : allIn cs (x.take i) = true) (hc : cs.contains (x.getD i 0) = true) : allIn cs (x.take (i + 1)) = true := by
  unfold allIn at *
  have e : x.getD i 0 = x[i] := by simp [List.getD_eq_getElem?_getD, hi]
  rw [e] at hc
  rw [List.take_succ_eq_append_getElem hi, List.all_append, h, List.all_cons, hc]
  rfl
theorem allIn_bad {cs x : Tx} {i : Nat} (hi : i < x.length) (hc : ¬ cs.contains (x.getD i 0) = true) : allIn cs x = false := by
  have e : x.getD i 0 = x[i] := by simp [List.getD_eq_getElem?_getD, hi]
  rw [e] at hc
  cases h : allIn cs x with
  | false => rfl
  | true =>
    unfold allIn at h
    exact absurd (List.all_eq_true.1 h _ (List.getElem_mem hi)) hc
def gp (x : Tx) : Bool := allIn smallT x && (!decide (x = []) && (!decide (x = [46]) && !decide (x = [46, 46])))
theorem gp_good {x : Tx} (h : gp x = true) : goodPart x := by
  simp only [gp, Bool.and_eq_true, Bool.not_eq_true', decide_eq_false_iff_not] at h
  exact h
set_option maxHeartbeats 4000000 in
theorem laws_partGood (I : Imm) (x : Tx) (hx : x.length ≤ 4620000000000000000) : Pure Proofs.Tryz.prog 18 [str x] I fun w J => w = .bool (gp x) := by
  refine Spec.enter 51 [(0, _)] Proofs.Tryz.func18 rfl Proofs.Tryz.ntmps18 (by simp) rfl ?_
  intro C hCf hR hCI
  repeat (first | refine Run.seq ?_ | refine Run.region ?_ | refine Ops.nil ?_ | refine Run.block ?_ | refine Ops.pure T rfl (by decide) rfl ?_ | refine Ops.lenS T rfl (by decide) rfl rfl ?_)
  refine Run.keep [0, 5, 6, 7] [_, _, _, _] rfl ?_
  refine Run.rounds (fun m env L J => ∃ i : Nat, m = x.length - i ∧ i ≤ x.length ∧ allIn smallT (x.take i) = true ∧ env = [(0, str x), (5, str x), (6, .int .i64 x.length), (7, .int .i64 i)] ∧ L = [] ∧ J = I) x.length ⟨0, by omega, by omega, by simp [allIn], rfl, rfl, rfl⟩ ?_
  rintro m env L J ⟨i, rfl, hi, hall, rfl, rfl, rfl⟩ ih
  repeat (first | refine Run.seq ?_ | refine Run.region ?_ | refine Ops.nil ?_ | refine Ops.lss rfl (by decide) rfl rfl ?_)
  refine Run.cond rfl rfl (fun h2 => ?_) (fun h2 => ?_)
  all_goals (try rw [h2])
  all_goals (try simp only [decide_eq_true_eq, decide_eq_false_iff_not, Bool.not_eq_true', Bool.not_eq_false', Bool.and_eq_true, Bool.or_eq_true, Bool.and_eq_false_imp, Bool.or_eq_false_iff] at h2)
  · have hi' : i < x.length := by omega
    repeat (first | refine Run.seq ?_ | refine Run.region ?_ | refine Ops.nil ?_ | refine Run.skip ?_ | refine Run.block ?_ | refine Ops.geq rfl (by decide) rfl rfl ?_ | refine Ops.pure T rfl (by decide) rfl ?_ | refine Ops.indexStr rfl (by decide) (T.undOk rfl) rfl rfl (by first | omega | (simp only [List.length_cons, List.length_nil] ; omega) | (simp; omega)) (by first | omega | (simp only [List.length_cons, List.length_nil] ; omega) | (simp; omega)) ?_)
    have ei : ((i : Int)).toNat = i := by omega
    rw [ei]
    generalize hc : x.getD i 0 = c at *
    skip
    cases b1 : decide ((97 : Int) ≤ (c.toNat : Int)) with
    | false =>
      have b1' := of_decide_eq_false b1
      repeat (first | refine Ops.not rfl (by decide) ?_ | refine Ops.geq rfl (by decide) rfl rfl ?_ | refine Ops.pure T rfl (by decide) rfl ?_)
      cases d1 : decide ((48 : Int) ≤ (c.toNat : Int)) with
      | false =>
        have d1' := of_decide_eq_false d1
        repeat (first | refine Ops.not rfl (by decide) ?_ | refine Ops.eql rfl (by decide) rfl rfl ?_ | refine Ops.pure T rfl (by decide) rfl ?_)
        cases e1 : decide ((c.toNat : Int) = 95) with
        | true =>
          have e1' := of_decide_eq_true e1
          repeat (first | refine Run.region ?_ | refine Ops.nil ?_ | refine Run.skip ?_ | refine Run.inBlock ?_ | refine Run.cond_f rfl ?_ | refine Ops.not rfl (by decide) ?_ | refine Ops.add rfl (by decide) rfl rfl (wI (by first | omega | (simp only [List.length_cons, List.length_nil] ; omega) | (simp; omega)) (by first | omega | (simp only [List.length_cons, List.length_nil] ; omega) | (simp; omega))) ?_ | refine Ops.pure T rfl (by decide) rfl ?_)
          refine Run.keep [0, 5, 6, 7] [_, _, _, _] rfl ?_
          refine ih (x.length - (i + 1)) _ _ _ (by omega) ⟨i + 1, rfl, by omega, allIn_snoc hi' hall ((small_iff _).2 (by rw [hc]; omega)), rfl, rfl, rfl⟩
        | false =>
        have e1' := of_decide_eq_false e1
        repeat (first | refine Ops.eql rfl (by decide) rfl rfl ?_ | refine Ops.pure T rfl (by decide) rfl ?_)
        cases e2 : decide ((c.toNat : Int) = 45) with
        | true =>
          have e2' := of_decide_eq_true e2
          repeat (first | refine Run.region ?_ | refine Ops.nil ?_ | refine Run.skip ?_ | refine Run.inBlock ?_ | refine Run.cond_f rfl ?_ | refine Ops.not rfl (by decide) ?_ | refine Ops.add rfl (by decide) rfl rfl (wI (by first | omega | (simp only [List.length_cons, List.length_nil] ; omega) | (simp; omega)) (by first | omega | (simp only [List.length_cons, List.length_nil] ; omega) | (simp; omega))) ?_ | refine Ops.pure T rfl (by decide) rfl ?_)
          refine Run.keep [0, 5, 6, 7] [_, _, _, _] rfl ?_
          refine ih (x.length - (i + 1)) _ _ _ (by omega) ⟨i + 1, rfl, by omega, allIn_snoc hi' hall ((small_iff _).2 (by rw [hc]; omega)), rfl, rfl, rfl⟩
        | false =>
        have e2' := of_decide_eq_false e2
        repeat (first | refine Ops.nil ?_ | refine Ops.eql rfl (by decide) rfl rfl ?_ | refine Ops.pure T rfl (by decide) rfl ?_)
        cases e3 : decide ((c.toNat : Int) = 46) with
        | true =>
          have e3' := of_decide_eq_true e3
          repeat (first | refine Run.region ?_ | refine Ops.nil ?_ | refine Run.skip ?_ | refine Run.inBlock ?_ | refine Run.cond_f rfl ?_ | refine Ops.add rfl (by decide) rfl rfl (wI (by first | omega | (simp only [List.length_cons, List.length_nil] ; omega) | (simp; omega)) (by first | omega | (simp only [List.length_cons, List.length_nil] ; omega) | (simp; omega))) ?_ | refine Ops.pure T rfl (by decide) rfl ?_)
          refine Run.keep [0, 5, 6, 7] [_, _, _, _] rfl ?_
          refine ih (x.length - (i + 1)) _ _ _ (by omega) ⟨i + 1, rfl, by omega, allIn_snoc hi' hall ((small_iff _).2 (by rw [hc]; omega)), rfl, rfl, rfl⟩
        | false =>
        have e3' := of_decide_eq_false e3
        repeat (first | refine Run.seq ?_ | refine Run.region ?_ | refine Ops.nil ?_ | refine Run.cond_t rfl ?_ | refine Ops.pure T rfl (by decide) rfl ?_)
        refine Run.fin (Run.ret1 (by rw [hCf]; exact Proofs.Tryz.func18) Proofs.Tryz.results18 rfl (hR _ _ _ ?_))
        refine ⟨rfl, ?_⟩
        unfold gp
        rw [allIn_bad hi' (by rw [small_iff, hc]; omega)]
        rfl
      | true =>
        have d1' := of_decide_eq_true d1
        repeat (first | refine Ops.leq rfl (by decide) rfl rfl ?_ | refine Ops.pure T rfl (by decide) rfl ?_)
        cases d2 : decide ((c.toNat : Int) ≤ 57) with
        | true =>
          have d2' := of_decide_eq_true d2
          repeat (first | refine Run.region ?_ | refine Ops.nil ?_ | refine Run.skip ?_ | refine Run.inBlock ?_ | refine Run.cond_f rfl ?_ | refine Ops.not rfl (by decide) ?_ | refine Ops.add rfl (by decide) rfl rfl (wI (by first | omega | (simp only [List.length_cons, List.length_nil] ; omega) | (simp; omega)) (by first | omega | (simp only [List.length_cons, List.length_nil] ; omega) | (simp; omega))) ?_ | refine Ops.pure T rfl (by decide) rfl ?_)
          refine Run.keep [0, 5, 6, 7] [_, _, _, _] rfl ?_
          refine ih (x.length - (i + 1)) _ _ _ (by omega) ⟨i + 1, rfl, by omega, allIn_snoc hi' hall ((small_iff _).2 (by rw [hc]; omega)), rfl, rfl, rfl⟩
        | false =>
          have d2' := of_decide_eq_false d2
          repeat (first | refine Ops.eql rfl (by decide) rfl rfl ?_ | refine Ops.pure T rfl (by decide) rfl ?_)
          cases e1 : decide ((c.toNat : Int) = 95) with
          | true =>
            have e1' := of_decide_eq_true e1
            repeat (first | refine Run.region ?_ | refine Ops.nil ?_ | refine Run.skip ?_ | refine Run.inBlock ?_ | refine Run.cond_f rfl ?_ | refine Ops.not rfl (by decide) ?_ | refine Ops.add rfl (by decide) rfl rfl (wI (by first | omega | (simp only [List.length_cons, List.length_nil] ; omega) | (simp; omega)) (by first | omega | (simp only [List.length_cons, List.length_nil] ; omega) | (simp; omega))) ?_ | refine Ops.pure T rfl (by decide) rfl ?_)
            refine Run.keep [0, 5, 6, 7] [_, _, _, _] rfl ?_
            refine ih (x.length - (i + 1)) _ _ _ (by omega) ⟨i + 1, rfl, by omega, allIn_snoc hi' hall ((small_iff _).2 (by rw [hc]; omega)), rfl, rfl, rfl⟩
          | false =>
          have e1' := of_decide_eq_false e1
          repeat (first | refine Ops.eql rfl (by decide) rfl rfl ?_ | refine Ops.pure T rfl (by decide) rfl ?_)
          cases e2 : decide ((c.toNat : Int) = 45) with
          | true =>
            have e2' := of_decide_eq_true e2
            repeat (first | refine Run.region ?_ | refine Ops.nil ?_ | refine Run.skip ?_ | refine Run.inBlock ?_ | refine Run.cond_f rfl ?_ | refine Ops.not rfl (by decide) ?_ | refine Ops.add rfl (by decide) rfl rfl (wI (by first | omega | (simp only [List.length_cons, List.length_nil] ; omega) | (simp; omega)) (by first | omega | (simp only [List.length_cons, List.length_nil] ; omega) | (simp; omega))) ?_ | refine Ops.pure T rfl (by decide) rfl ?_)
            refine Run.keep [0, 5, 6, 7] [_, _, _, _] rfl ?_
            refine ih (x.length - (i + 1)) _ _ _ (by omega) ⟨i + 1, rfl, by omega, allIn_snoc hi' hall ((small_iff _).2 (by rw [hc]; omega)), rfl, rfl, rfl⟩
          | false =>
          have e2' := of_decide_eq_false e2
          repeat (first | refine Ops.nil ?_ | refine Ops.eql rfl (by decide) rfl rfl ?_ | refine Ops.pure T rfl (by decide) rfl ?_)
          cases e3 : decide ((c.toNat : Int) = 46) with
          | true =>
            have e3' := of_decide_eq_true e3
            repeat (first | refine Run.region ?_ | refine Ops.nil ?_ | refine Run.skip ?_ | refine Run.inBlock ?_ | refine Run.cond_f rfl ?_ | refine Ops.add rfl (by decide) rfl rfl (wI (by first | omega | (simp only [List.length_cons, List.length_nil] ; omega) | (simp; omega)) (by first | omega | (simp only [List.length_cons, List.length_nil] ; omega) | (simp; omega))) ?_ | refine Ops.pure T rfl (by decide) rfl ?_)
            refine Run.keep [0, 5, 6, 7] [_, _, _, _] rfl ?_
            refine ih (x.length - (i + 1)) _ _ _ (by omega) ⟨i + 1, rfl, by omega, allIn_snoc hi' hall ((small_iff _).2 (by rw [hc]; omega)), rfl, rfl, rfl⟩
          | false =>
          have e3' := of_decide_eq_false e3
          repeat (first | refine Run.seq ?_ | refine Run.region ?_ | refine Ops.nil ?_ | refine Run.cond_t rfl ?_ | refine Ops.pure T rfl (by decide) rfl ?_)
          refine Run.fin (Run.ret1 (by rw [hCf]; exact Proofs.Tryz.func18) Proofs.Tryz.results18 rfl (hR _ _ _ ?_))
          refine ⟨rfl, ?_⟩
          unfold gp
          rw [allIn_bad hi' (by rw [small_iff, hc]; omega)]
          rfl
    | true =>
      have b1' := of_decide_eq_true b1
      repeat (first | refine Ops.leq rfl (by decide) rfl rfl ?_ | refine Ops.pure T rfl (by decide) rfl ?_)
      cases b2 : decide ((c.toNat : Int) ≤ 122) with
      | true =>
        have b2' := of_decide_eq_true b2
        repeat (first | refine Run.region ?_ | refine Ops.nil ?_ | refine Run.skip ?_ | refine Run.inBlock ?_ | refine Run.cond_f rfl ?_ | refine Ops.not rfl (by decide) ?_ | refine Ops.notU rfl (by decide) ?_ | refine Ops.add rfl (by decide) rfl rfl (wI (by first | omega | (simp only [List.length_cons, List.length_nil] ; omega) | (simp; omega)) (by first | omega | (simp only [List.length_cons, List.length_nil] ; omega) | (simp; omega))) ?_ | refine Ops.pure T rfl (by decide) rfl ?_)
        refine Run.keep [0, 5, 6, 7] [_, _, _, _] rfl ?_
        refine ih (x.length - (i + 1)) _ _ _ (by omega) ⟨i + 1, rfl, by omega, allIn_snoc hi' hall ((small_iff _).2 (by rw [hc]; omega)), rfl, rfl, rfl⟩
      | false =>
        have b2' := of_decide_eq_false b2
        repeat (first | refine Ops.geq rfl (by decide) rfl rfl ?_ | refine Ops.pure T rfl (by decide) rfl ?_)
        cases d1 : decide ((48 : Int) ≤ (c.toNat : Int)) with
        | false =>
          have d1' := of_decide_eq_false d1
          repeat (first | refine Ops.not rfl (by decide) ?_ | refine Ops.eql rfl (by decide) rfl rfl ?_ | refine Ops.pure T rfl (by decide) rfl ?_)
          cases e1 : decide ((c.toNat : Int) = 95) with
          | true =>
            have e1' := of_decide_eq_true e1
            repeat (first | refine Run.region ?_ | refine Ops.nil ?_ | refine Run.skip ?_ | refine Run.inBlock ?_ | refine Run.cond_f rfl ?_ | refine Ops.not rfl (by decide) ?_ | refine Ops.add rfl (by decide) rfl rfl (wI (by first | omega | (simp only [List.length_cons, List.length_nil] ; omega) | (simp; omega)) (by first | omega | (simp only [List.length_cons, List.length_nil] ; omega) | (simp; omega))) ?_ | refine Ops.pure T rfl (by decide) rfl ?_)
            refine Run.keep [0, 5, 6, 7] [_, _, _, _] rfl ?_
            refine ih (x.length - (i + 1)) _ _ _ (by omega) ⟨i + 1, rfl, by omega, allIn_snoc hi' hall ((small_iff _).2 (by rw [hc]; omega)), rfl, rfl, rfl⟩
          | false =>
          have e1' := of_decide_eq_false e1
          repeat (first | refine Ops.eql rfl (by decide) rfl rfl ?_ | refine Ops.pure T rfl (by decide) rfl ?_)
          cases e2 : decide ((c.toNat : Int) = 45) with
          | true =>
            have e2' := of_decide_eq_true e2
            repeat (first | refine Run.region ?_ | refine Ops.nil ?_ | refine Run.skip ?_ | refine Run.inBlock ?_ | refine Run.cond_f rfl ?_ | refine Ops.not rfl (by decide) ?_ | refine Ops.add rfl (by decide) rfl rfl (wI (by first | omega | (simp only [List.length_cons, List.length_nil] ; omega) | (simp; omega)) (by first | omega | (simp only [List.length_cons, List.length_nil] ; omega) | (simp; omega))) ?_ | refine Ops.pure T rfl (by decide) rfl ?_)
            refine Run.keep [0, 5, 6, 7] [_, _, _, _] rfl ?_
            refine ih (x.length - (i + 1)) _ _ _ (by omega) ⟨i + 1, rfl, by omega, allIn_snoc hi' hall ((small_iff _).2 (by rw [hc]; omega)), rfl, rfl, rfl⟩
          | false =>
          have e2' := of_decide_eq_false e2
          repeat (first | refine Ops.nil ?_ | refine Ops.eql rfl (by decide) rfl rfl ?_ | refine Ops.pure T rfl (by decide) rfl ?_)
          cases e3 : decide ((c.toNat : Int) = 46) with
          | true =>
            have e3' := of_decide_eq_true e3
            repeat (first | refine Run.region ?_ | refine Ops.nil ?_ | refine Run.skip ?_ | refine Run.inBlock ?_ | refine Run.cond_f rfl ?_ | refine Ops.add rfl (by decide) rfl rfl (wI (by first | omega | (simp only [List.length_cons, List.length_nil] ; omega) | (simp; omega)) (by first | omega | (simp only [List.length_cons, List.length_nil] ; omega) | (simp; omega))) ?_ | refine Ops.pure T rfl (by decide) rfl ?_)
            refine Run.keep [0, 5, 6, 7] [_, _, _, _] rfl ?_
            refine ih (x.length - (i + 1)) _ _ _ (by omega) ⟨i + 1, rfl, by omega, allIn_snoc hi' hall ((small_iff _).2 (by rw [hc]; omega)), rfl, rfl, rfl⟩
          | false =>
          have e3' := of_decide_eq_false e3
          repeat (first | refine Run.seq ?_ | refine Run.region ?_ | refine Ops.nil ?_ | refine Run.cond_t rfl ?_ | refine Ops.pure T rfl (by decide) rfl ?_)
          refine Run.fin (Run.ret1 (by rw [hCf]; exact Proofs.Tryz.func18) Proofs.Tryz.results18 rfl (hR _ _ _ ?_))
          refine ⟨rfl, ?_⟩
          unfold gp
          rw [allIn_bad hi' (by rw [small_iff, hc]; omega)]
          rfl
        | true =>
          have d1' := of_decide_eq_true d1
          repeat (first | refine Ops.leq rfl (by decide) rfl rfl ?_ | refine Ops.pure T rfl (by decide) rfl ?_)
          cases d2 : decide ((c.toNat : Int) ≤ 57) with
          | true =>
            have d2' := of_decide_eq_true d2
            repeat (first | refine Run.region ?_ | refine Ops.nil ?_ | refine Run.skip ?_ | refine Run.inBlock ?_ | refine Run.cond_f rfl ?_ | refine Ops.not rfl (by decide) ?_ | refine Ops.add rfl (by decide) rfl rfl (wI (by first | omega | (simp only [List.length_cons, List.length_nil] ; omega) | (simp; omega)) (by first | omega | (simp only [List.length_cons, List.length_nil] ; omega) | (simp; omega))) ?_ | refine Ops.pure T rfl (by decide) rfl ?_)
            refine Run.keep [0, 5, 6, 7] [_, _, _, _] rfl ?_
            refine ih (x.length - (i + 1)) _ _ _ (by omega) ⟨i + 1, rfl, by omega, allIn_snoc hi' hall ((small_iff _).2 (by rw [hc]; omega)), rfl, rfl, rfl⟩
          | false =>
            have d2' := of_decide_eq_false d2
            repeat (first | refine Ops.eql rfl (by decide) rfl rfl ?_ | refine Ops.pure T rfl (by decide) rfl ?_)
            cases e1 : decide ((c.toNat : Int) = 95) with
            | true =>
              have e1' := of_decide_eq_true e1
              repeat (first | refine Run.region ?_ | refine Ops.nil ?_ | refine Run.skip ?_ | refine Run.inBlock ?_ | refine Run.cond_f rfl ?_ | refine Ops.not rfl (by decide) ?_ | refine Ops.add rfl (by decide) rfl rfl (wI (by first | omega | (simp only [List.length_cons, List.length_nil] ; omega) | (simp; omega)) (by first | omega | (simp only [List.length_cons, List.length_nil] ; omega) | (simp; omega))) ?_ | refine Ops.pure T rfl (by decide) rfl ?_)
              refine Run.keep [0, 5, 6, 7] [_, _, _, _] rfl ?_
              refine ih (x.length - (i + 1)) _ _ _ (by omega) ⟨i + 1, rfl, by omega, allIn_snoc hi' hall ((small_iff _).2 (by rw [hc]; omega)), rfl, rfl, rfl⟩
            | false =>
            have e1' := of_decide_eq_false e1
            repeat (first | refine Ops.eql rfl (by decide) rfl rfl ?_ | refine Ops.pure T rfl (by decide) rfl ?_)
            cases e2 : decide ((c.toNat : Int) = 45) with
            | true =>
              have e2' := of_decide_eq_true e2
              repeat (first | refine Run.region ?_ | refine Ops.nil ?_ | refine Run.skip ?_ | refine Run.inBlock ?_ | refine Run.cond_f rfl ?_ | refine Ops.not rfl (by decide) ?_ | refine Ops.add rfl (by decide) rfl rfl (wI (by first | omega | (simp only [List.length_cons, List.length_nil] ; omega) | (simp; omega)) (by first | omega | (simp only [List.length_cons, List.length_nil] ; omega) | (simp; omega))) ?_ | refine Ops.pure T rfl (by decide) rfl ?_)
              refine Run.keep [0, 5, 6, 7] [_, _, _, _] rfl ?_
              refine ih (x.length - (i + 1)) _ _ _ (by omega) ⟨i + 1, rfl, by omega, allIn_snoc hi' hall ((small_iff _).2 (by rw [hc]; omega)), rfl, rfl, rfl⟩
            | false =>
            have e2' := of_decide_eq_false e2
            repeat (first | refine Ops.nil ?_ | refine Ops.eql rfl (by decide) rfl rfl ?_ | refine Ops.pure T rfl (by decide) rfl ?_)
            cases e3 : decide ((c.toNat : Int) = 46) with
            | true =>
              have e3' := of_decide_eq_true e3
              repeat (first | refine Run.region ?_ | refine Ops.nil ?_ | refine Run.skip ?_ | refine Run.inBlock ?_ | refine Run.cond_f rfl ?_ | refine Ops.add rfl (by decide) rfl rfl (wI (by first | omega | (simp only [List.length_cons, List.length_nil] ; omega) | (simp; omega)) (by first | omega | (simp only [List.length_cons, List.length_nil] ; omega) | (simp; omega))) ?_ | refine Ops.pure T rfl (by decide) rfl ?_)
              refine Run.keep [0, 5, 6, 7] [_, _, _, _] rfl ?_
              refine ih (x.length - (i + 1)) _ _ _ (by omega) ⟨i + 1, rfl, by omega, allIn_snoc hi' hall ((small_iff _).2 (by rw [hc]; omega)), rfl, rfl, rfl⟩
            | false =>
            have e3' := of_decide_eq_false e3
            repeat (first | refine Run.seq ?_ | refine Run.region ?_ | refine Ops.nil ?_ | refine Run.cond_t rfl ?_ | refine Ops.pure T rfl (by decide) rfl ?_)
            refine Run.fin (Run.ret1 (by rw [hCf]; exact Proofs.Tryz.func18) Proofs.Tryz.results18 rfl (hR _ _ _ ?_))
            refine ⟨rfl, ?_⟩
            unfold gp
            rw [allIn_bad hi' (by rw [small_iff, hc]; omega)]
            rfl
  · have : i = x.length := by omega
    subst this
    rw [List.take_length] at hall
    repeat (first | refine Run.seq ?_ | refine Run.region ?_ | refine Run.exit rfl ?_ | refine Ops.neqStr rfl (by decide) rfl rfl ?_ | refine Ops.pure T rfl (by decide) rfl ?_)
    cases c1 : decide (x = []) with
    | true =>
      repeat (first | refine Ops.nil ?_ | refine Ops.not rfl (by decide) ?_ | refine Ops.pure T rfl (by decide) rfl ?_)
      refine Run.fin (Run.ret1 (by rw [hCf]; exact Proofs.Tryz.func18) Proofs.Tryz.results18 rfl (hR _ _ _ ?_))
      exact ⟨rfl, by simp only [gp, hall, c1]; rfl⟩
    | false =>
    repeat (first | refine Ops.neqStr rfl (by decide) rfl rfl ?_ | refine Ops.pure T rfl (by decide) rfl ?_)
    cases c2 : decide (x = [46]) with
    | true =>
      repeat (first | refine Ops.nil ?_ | refine Ops.not rfl (by decide) ?_ | refine Ops.pure T rfl (by decide) rfl ?_)
      refine Run.fin (Run.ret1 (by rw [hCf]; exact Proofs.Tryz.func18) Proofs.Tryz.results18 rfl (hR _ _ _ ?_))
      exact ⟨rfl, by simp only [gp, hall, c1, c2]; rfl⟩
    | false =>
    repeat (first | refine Ops.nil ?_ | refine Ops.neqStr rfl (by decide) rfl rfl ?_ | refine Ops.pure T rfl (by decide) rfl ?_)
    cases c3 : decide (x = [46, 46]) with
    | true =>
      skip
      refine Run.fin (Run.ret1 (by rw [hCf]; exact Proofs.Tryz.func18) Proofs.Tryz.results18 rfl (hR _ _ _ ?_))
      exact ⟨rfl, by simp only [gp, hall, c1, c2, c3]; rfl⟩
    | false =>
      skip
      refine Run.fin (Run.ret1 (by rw [hCf]; exact Proofs.Tryz.func18) Proofs.Tryz.results18 rfl (hR _ _ _ ?_))
      exact ⟨rfl, by simp only [gp, hall, c1, c2, c3]; rfl⟩
end Go.V
