import Derived.Test.YtandfbmdopbikaaGreatDoorXM12
import Derived.Test.YtandfbmdopbikaaGreatDoorXM11
namespace Go.V
open Go.Proofs.Tryz
open Go.RowKit
set_option linter.unusedVariables false
set_option linter.unusedSimpArgs false
set_option maxRecDepth 10000
attribute [local irreducible] Run Ops
theorem pvs (a0 a1 a2 a3 : Nat) : privO (some [a0, a1, a2, a3]) = (decide ((a0 : Int) = 10) || (decide ((a0 : Int) = 172) && decide ((16 : Int) ≤ (a1 : Int)) && decide ((a1 : Int) < 32)) || (decide ((a0 : Int) = 192) && decide ((a1 : Int) = 168))) := by
  show (decide (a0 = 10) || (decide (a0 = 172) && decide (16 ≤ a1) && decide (a1 < 32)) || (decide (a0 = 192) && decide (a1 = 168))) = _
  rw [← nat_dec a0 10, ← nat_dec a0 172, ← nat_dec a0 192, ← nat_dec a1 168, show decide (16 ≤ a1) = decide ((16 : Int) ≤ (a1 : Int)) by rw [decide_eq_decide]; omega, show decide (a1 < 32) = decide ((a1 : Int) < 32) by rw [decide_eq_decide]; omega]
  rfl
set_option maxHeartbeats 8000000 in
theorem spec_Local (I : Imm) (s : Tx) (hs : s.length ≤ 4620000000000000000) : Pure prog 52 [str s] I fun w J => w = .bool (localF s) := by
  refine Spec.enter 69 [(0, _)] func52 rfl ntmps52 (by simp) rfl ?_
  intro C hCf hR hCI
  repeat (first | refine Run.seq ?_ | refine Run.region ?_ | refine Ops.nil ?_ | refine Ops.pure T rfl (by decide) rfl ?_)
  refine Ops.call ((spec_firstOf s 58 I (by omega))) rfl (by decide) call47 rfl ?_
  rintro _ J1 l1 rfl
  cases hk : ix 58 s with
  | none =>
    rw [ixI_none hk]
    have hho : hostOf s = s := by simp [hostOf, hk]
    have hhl : (s : Tx).length ≤ s.length := by first | (simp; done) | (simp; omega) | omega
    repeat (first | refine Run.seq ?_ | refine Run.region ?_ | refine Ops.nil ?_ | refine Run.skip ?_ | refine Run.cond_f rfl ?_ | refine Ops.eqlStr rfl (by decide) rfl rfl ?_ | refine Ops.geq rfl (by decide) rfl rfl ?_ | refine Ops.pure T rfl (by decide) rfl ?_)
    cases e1 : decide ((s) = [108, 111, 99, 97, 108, 104, 111, 115, 116]) with
    | true =>
      have e1' : decide ((s) = localhostT) = true := e1
      repeat (first | refine Run.seq ?_ | refine Run.region ?_ | refine Ops.nil ?_ | refine Run.cond_t rfl ?_ | refine Ops.not rfl (by decide) ?_ | refine Ops.pure T rfl (by decide) rfl ?_)
      refine Run.fin (Run.ret1 (by rw [hCf]; exact func52) results52 rfl (hR _ _ _ ?_))
      refine ⟨rfl, ?_⟩
      simp only [localF, hho, e1']
      rfl
    | false =>
    have e1' : decide ((s) = localhostT) = false := e1
    repeat (first | refine Ops.nil ?_ | refine Ops.eqlStr rfl (by decide) rfl rfl ?_ | refine Ops.pure T rfl (by decide) rfl ?_)
    cases e2 : decide ((s) = [49, 50, 55, 46, 48, 46, 48, 46, 49]) with
    | true =>
      repeat (first | refine Run.seq ?_ | refine Run.region ?_ | refine Ops.nil ?_ | refine Run.cond_t rfl ?_ | refine Ops.pure T rfl (by decide) rfl ?_)
      refine Run.fin (Run.ret1 (by rw [hCf]; exact func52) results52 rfl (hR _ _ _ ?_))
      refine ⟨rfl, ?_⟩
      simp only [localF, hho, e1', e2]
      rfl
    | false =>
    repeat (first | refine Run.seq ?_ | refine Run.region ?_ | refine Ops.nil ?_ | refine Run.skip ?_ | refine Run.cond_f rfl ?_ | refine Ops.geq rfl (by decide) rfl rfl ?_ | refine Ops.pure T rfl (by decide) rfl ?_ | refine Ops.lenS T rfl (by decide) rfl rfl ?_)
    have esuf : endsT [46, 108, 111, 99, 97, 108, 104, 111, 115, 116] (s) = (decide ((10 : Int) ≤ ((s).length : Int)) && decide ((s).drop ((s).length - 10) = [46, 108, 111, 99, 97, 108, 104, 111, 115, 116])) := by
      unfold endsT
      rw [show decide (([46, 108, 111, 99, 97, 108, 104, 111, 115, 116] : Tx).length ≤ (s).length) = decide ((10 : Int) ≤ ((s).length : Int)) by rw [decide_eq_decide]; simp only [List.length_cons, List.length_nil]; omega]
      rfl
    cases e3 : decide ((10 : Int) ≤ ((s).length : Int)) with
    | false =>
      have e3' : endsT [46, 108, 111, 99, 97, 108, 104, 111, 115, 116] (s) = false := by rw [esuf, e3]; rfl
      repeat (first | refine Run.seq ?_ | refine Run.region ?_ | refine Ops.nil ?_ | refine Run.skip ?_ | refine Run.cond_f rfl ?_ | refine Ops.not rfl (by decide) ?_ | refine Ops.pure T rfl (by decide) rfl ?_)
      refine Ops.call ((spec_quad J1 (s) (by omega))) rfl (by decide) call89 rfl ?_
      rintro _ J4 l4 ⟨⟨a0, a1, a2, a3⟩, rfl, hq⟩
      repeat (first | refine Ops.pure T rfl (by decide) rfl ?_)
      refine Ops.alloc rfl (by decide) (T.zeroOk rfl) rfl (fun b2 => ?_)
      repeat (first | refine Run.seq ?_ | refine Run.region ?_ | refine Ops.nil ?_ | refine Ops.pure T rfl (by decide) rfl ?_ | refine Ops.store 0 rfl rfl rfl rfl rfl (T.sizeOk rfl) rfl (Nat.le_of_ble_eq_true rfl) rfl rfl ?_)
      cases hi : quadF (s) with
      | none =>
        repeat (first | refine Ops.nil ?_ | refine Ops.not rfl (by decide) ?_ | refine Ops.notU rfl (by decide) ?_ | refine Ops.pure T rfl (by decide) rfl ?_)
        refine Run.fin (Run.ret1 (by rw [hCf]; exact func52) results52 rfl (hR _ _ _ ?_))
        refine ⟨rfl, ?_⟩
        simp only [localF, hho, e1', e2, e3', hi]
        rfl
      | some l' =>
        obtain rfl := hq l' hi
        have hpv := pvs a0 a1 a2 a3
        have hi2 : privO (quadF (s)) = privO (some [a0, a1, a2, a3]) := by rw [hi]; rfl
        skip
        refine Ops.indexArr T rfl (by decide) rfl rfl rfl rfl (by decide) (by decide) ?_
        repeat (first | refine Ops.eql rfl (by decide) rfl rfl ?_ | refine Ops.pure T rfl (by decide) rfl ?_ | refine Ops.load 0 rfl (by decide) rfl rfl (T.aggOk rfl) rfl ?_)
        cases h1 : decide ((a0 : Int) = 10) with
        | true =>
          repeat (first | refine Ops.nil ?_ | refine Ops.not rfl (by decide) ?_ | refine Ops.notU rfl (by decide) ?_ | refine Ops.pure T rfl (by decide) rfl ?_)
          refine Run.fin (Run.ret1 (by rw [hCf]; exact func52) results52 rfl (hR _ _ _ ?_))
          refine ⟨rfl, ?_⟩
          simp only [localF, hho, e1', e2, e3', hi2, hpv, h1]
          rfl
        | false =>
          skip
          refine Ops.indexArr T rfl (by decide) rfl rfl rfl rfl (by decide) (by decide) ?_
          repeat (first | refine Ops.eql rfl (by decide) rfl rfl ?_ | refine Ops.pure T rfl (by decide) rfl ?_ | refine Ops.load 0 rfl (by decide) rfl rfl (T.aggOk rfl) rfl ?_)
          cases h2 : decide ((a0 : Int) = 172) with
          | false =>
            repeat (first | refine Ops.not rfl (by decide) ?_ | refine Ops.pure T rfl (by decide) rfl ?_)
            refine Ops.indexArr T rfl (by decide) rfl rfl rfl rfl (by decide) (by decide) ?_
            repeat (first | refine Ops.eql rfl (by decide) rfl rfl ?_ | refine Ops.pure T rfl (by decide) rfl ?_ | refine Ops.load 0 rfl (by decide) rfl rfl (T.aggOk rfl) rfl ?_)
            cases h4 : decide ((a0 : Int) = 192) with
            | false =>
              repeat (first | refine Ops.nil ?_ | refine Ops.not rfl (by decide) ?_ | refine Ops.pure T rfl (by decide) rfl ?_)
              refine Run.fin (Run.ret1 (by rw [hCf]; exact func52) results52 rfl (hR _ _ _ ?_))
              refine ⟨rfl, ?_⟩
              simp only [localF, hho, e1', e2, e3', hi2, hpv, h1, h2, h4]
              rfl
            | true =>
              skip
              refine Ops.indexArr T rfl (by decide) rfl rfl rfl rfl (by decide) (by decide) ?_
              repeat (first | refine Ops.nil ?_ | refine Ops.eql rfl (by decide) rfl rfl ?_ | refine Ops.pure T rfl (by decide) rfl ?_ | refine Ops.load 0 rfl (by decide) rfl rfl (T.aggOk rfl) rfl ?_)
              cases h5 : decide ((a1 : Int) = 168) with
              | false =>
                skip
                refine Run.fin (Run.ret1 (by rw [hCf]; exact func52) results52 rfl (hR _ _ _ ?_))
                refine ⟨rfl, ?_⟩
                simp only [localF, hho, e1', e2, e3', hi2, hpv, h1, h2, h4, h5]
                rfl
              | true =>
                skip
                refine Run.fin (Run.ret1 (by rw [hCf]; exact func52) results52 rfl (hR _ _ _ ?_))
                refine ⟨rfl, ?_⟩
                simp only [localF, hho, e1', e2, e3', hi2, hpv, h1, h2, h4, h5]
                rfl
          | true =>
            skip
            refine Ops.indexArr T rfl (by decide) rfl rfl rfl rfl (by decide) (by decide) ?_
            repeat (first | refine Ops.geq rfl (by decide) rfl rfl ?_ | refine Ops.pure T rfl (by decide) rfl ?_ | refine Ops.load 0 rfl (by decide) rfl rfl (T.aggOk rfl) rfl ?_)
            cases h3 : decide ((16 : Int) ≤ (a1 : Int)) with
            | false =>
              repeat (first | refine Ops.not rfl (by decide) ?_ | refine Ops.pure T rfl (by decide) rfl ?_)
              refine Ops.indexArr T rfl (by decide) rfl rfl rfl rfl (by decide) (by decide) ?_
              repeat (first | refine Ops.eql rfl (by decide) rfl rfl ?_ | refine Ops.pure T rfl (by decide) rfl ?_ | refine Ops.load 0 rfl (by decide) rfl rfl (T.aggOk rfl) rfl ?_)
              cases h4 : decide ((a0 : Int) = 192) with
              | false =>
                repeat (first | refine Ops.nil ?_ | refine Ops.not rfl (by decide) ?_ | refine Ops.pure T rfl (by decide) rfl ?_)
                refine Run.fin (Run.ret1 (by rw [hCf]; exact func52) results52 rfl (hR _ _ _ ?_))
                refine ⟨rfl, ?_⟩
                simp only [localF, hho, e1', e2, e3', hi2, hpv, h1, h2, h3, h4]
                rfl
              | true =>
                skip
                refine Ops.indexArr T rfl (by decide) rfl rfl rfl rfl (by decide) (by decide) ?_
                repeat (first | refine Ops.nil ?_ | refine Ops.eql rfl (by decide) rfl rfl ?_ | refine Ops.pure T rfl (by decide) rfl ?_ | refine Ops.load 0 rfl (by decide) rfl rfl (T.aggOk rfl) rfl ?_)
                cases h5 : decide ((a1 : Int) = 168) with
                | false =>
                  skip
                  refine Run.fin (Run.ret1 (by rw [hCf]; exact func52) results52 rfl (hR _ _ _ ?_))
                  refine ⟨rfl, ?_⟩
                  simp only [localF, hho, e1', e2, e3', hi2, hpv, h1, h2, h3, h4, h5]
                  rfl
                | true =>
                  skip
                  refine Run.fin (Run.ret1 (by rw [hCf]; exact func52) results52 rfl (hR _ _ _ ?_))
                  refine ⟨rfl, ?_⟩
                  simp only [localF, hho, e1', e2, e3', hi2, hpv, h1, h2, h3, h4, h5]
                  rfl
            | true =>
              skip
              refine Ops.indexArr T rfl (by decide) rfl rfl rfl rfl (by decide) (by decide) ?_
              repeat (first | refine Ops.lss rfl (by decide) rfl rfl ?_ | refine Ops.pure T rfl (by decide) rfl ?_ | refine Ops.load 0 rfl (by decide) rfl rfl (T.aggOk rfl) rfl ?_)
              cases h6 : decide ((a1 : Int) < 32) with
              | false =>
                skip
                refine Ops.indexArr T rfl (by decide) rfl rfl rfl rfl (by decide) (by decide) ?_
                repeat (first | refine Ops.eql rfl (by decide) rfl rfl ?_ | refine Ops.pure T rfl (by decide) rfl ?_ | refine Ops.load 0 rfl (by decide) rfl rfl (T.aggOk rfl) rfl ?_)
                cases h4 : decide ((a0 : Int) = 192) with
                | false =>
                  repeat (first | refine Ops.nil ?_ | refine Ops.not rfl (by decide) ?_ | refine Ops.pure T rfl (by decide) rfl ?_)
                  refine Run.fin (Run.ret1 (by rw [hCf]; exact func52) results52 rfl (hR _ _ _ ?_))
                  refine ⟨rfl, ?_⟩
                  simp only [localF, hho, e1', e2, e3', hi2, hpv, h1, h2, h3, h6, h4]
                  rfl
                | true =>
                  skip
                  refine Ops.indexArr T rfl (by decide) rfl rfl rfl rfl (by decide) (by decide) ?_
                  repeat (first | refine Ops.nil ?_ | refine Ops.eql rfl (by decide) rfl rfl ?_ | refine Ops.pure T rfl (by decide) rfl ?_ | refine Ops.load 0 rfl (by decide) rfl rfl (T.aggOk rfl) rfl ?_)
                  cases h5 : decide ((a1 : Int) = 168) with
                  | false =>
                    skip
                    refine Run.fin (Run.ret1 (by rw [hCf]; exact func52) results52 rfl (hR _ _ _ ?_))
                    refine ⟨rfl, ?_⟩
                    simp only [localF, hho, e1', e2, e3', hi2, hpv, h1, h2, h3, h6, h4, h5]
                    rfl
                  | true =>
                    skip
                    refine Run.fin (Run.ret1 (by rw [hCf]; exact func52) results52 rfl (hR _ _ _ ?_))
                    refine ⟨rfl, ?_⟩
                    simp only [localF, hho, e1', e2, e3', hi2, hpv, h1, h2, h3, h6, h4, h5]
                    rfl
              | true =>
                repeat (first | refine Ops.nil ?_ | refine Ops.not rfl (by decide) ?_ | refine Ops.notU rfl (by decide) ?_ | refine Ops.pure T rfl (by decide) rfl ?_)
                refine Run.fin (Run.ret1 (by rw [hCf]; exact func52) results52 rfl (hR _ _ _ ?_))
                refine ⟨rfl, ?_⟩
                simp only [localF, hho, e1', e2, e3', hi2, hpv, h1, h2, h3, h6]
                rfl
    | true =>
      have e3a := of_decide_eq_true e3
      repeat (first | refine Ops.nil ?_ | refine Ops.eqlStr rfl (by decide) rfl rfl ?_ | refine Ops.sub rfl (by decide) rfl rfl (wI (by first | omega | (simp only [List.length_cons, List.length_nil] ; omega) | (simp; omega)) (by first | omega | (simp only [List.length_cons, List.length_nil] ; omega) | (simp; omega))) ?_ | refine Ops.pure T rfl (by decide) rfl ?_ | refine Ops.sliceStrLo rfl (by decide) (T.undOk rfl) rfl rfl (by first | omega | (simp only [List.length_cons, List.length_nil] ; omega) | (simp; omega)) (by first | omega | (simp only [List.length_cons, List.length_nil] ; omega) | (simp; omega)) ?_)
      have es : (((s).length : Int) - 10).toNat = (s).length - 10 := by omega
      rw [es]
      cases e4 : decide ((s).drop ((s).length - 10) = [46, 108, 111, 99, 97, 108, 104, 111, 115, 116]) with
      | true =>
        have e3' : endsT [46, 108, 111, 99, 97, 108, 104, 111, 115, 116] (s) = true := by rw [esuf, e3, e4]; rfl
        repeat (first | refine Run.seq ?_ | refine Run.region ?_ | refine Ops.nil ?_ | refine Run.cond_t rfl ?_ | refine Ops.pure T rfl (by decide) rfl ?_)
        refine Run.fin (Run.ret1 (by rw [hCf]; exact func52) results52 rfl (hR _ _ _ ?_))
        refine ⟨rfl, ?_⟩
        simp only [localF, hho, e1', e2, e3']
        rfl
      | false =>
        have e3' : endsT [46, 108, 111, 99, 97, 108, 104, 111, 115, 116] (s) = false := by rw [esuf, e3, e4]; rfl
        repeat (first | refine Run.seq ?_ | refine Run.region ?_ | refine Run.skip ?_ | refine Run.cond_f rfl ?_ | refine Ops.pure T rfl (by decide) rfl ?_)
        refine Ops.call ((spec_quad J1 (s) (by omega))) rfl (by decide) call89 rfl ?_
        rintro _ J4 l4 ⟨⟨a0, a1, a2, a3⟩, rfl, hq⟩
        repeat (first | refine Ops.pure T rfl (by decide) rfl ?_)
        refine Ops.alloc rfl (by decide) (T.zeroOk rfl) rfl (fun b2 => ?_)
        repeat (first | refine Run.seq ?_ | refine Run.region ?_ | refine Ops.nil ?_ | refine Ops.pure T rfl (by decide) rfl ?_ | refine Ops.store 0 rfl rfl rfl rfl rfl (T.sizeOk rfl) rfl (Nat.le_of_ble_eq_true rfl) rfl rfl ?_)
        cases hi : quadF (s) with
        | none =>
          repeat (first | refine Ops.nil ?_ | refine Ops.not rfl (by decide) ?_ | refine Ops.notU rfl (by decide) ?_ | refine Ops.pure T rfl (by decide) rfl ?_)
          refine Run.fin (Run.ret1 (by rw [hCf]; exact func52) results52 rfl (hR _ _ _ ?_))
          refine ⟨rfl, ?_⟩
          simp only [localF, hho, e1', e2, e3', hi]
          rfl
        | some l' =>
          obtain rfl := hq l' hi
          have hpv := pvs a0 a1 a2 a3
          have hi2 : privO (quadF (s)) = privO (some [a0, a1, a2, a3]) := by rw [hi]; rfl
          skip
          refine Ops.indexArr T rfl (by decide) rfl rfl rfl rfl (by decide) (by decide) ?_
          repeat (first | refine Ops.eql rfl (by decide) rfl rfl ?_ | refine Ops.pure T rfl (by decide) rfl ?_ | refine Ops.load 0 rfl (by decide) rfl rfl (T.aggOk rfl) rfl ?_)
          cases h1 : decide ((a0 : Int) = 10) with
          | true =>
            repeat (first | refine Ops.nil ?_ | refine Ops.not rfl (by decide) ?_ | refine Ops.notU rfl (by decide) ?_ | refine Ops.pure T rfl (by decide) rfl ?_)
            refine Run.fin (Run.ret1 (by rw [hCf]; exact func52) results52 rfl (hR _ _ _ ?_))
            refine ⟨rfl, ?_⟩
            simp only [localF, hho, e1', e2, e3', hi2, hpv, h1]
            rfl
          | false =>
            skip
            refine Ops.indexArr T rfl (by decide) rfl rfl rfl rfl (by decide) (by decide) ?_
            repeat (first | refine Ops.eql rfl (by decide) rfl rfl ?_ | refine Ops.pure T rfl (by decide) rfl ?_ | refine Ops.load 0 rfl (by decide) rfl rfl (T.aggOk rfl) rfl ?_)
            cases h2 : decide ((a0 : Int) = 172) with
            | false =>
              repeat (first | refine Ops.not rfl (by decide) ?_ | refine Ops.pure T rfl (by decide) rfl ?_)
              refine Ops.indexArr T rfl (by decide) rfl rfl rfl rfl (by decide) (by decide) ?_
              repeat (first | refine Ops.eql rfl (by decide) rfl rfl ?_ | refine Ops.pure T rfl (by decide) rfl ?_ | refine Ops.load 0 rfl (by decide) rfl rfl (T.aggOk rfl) rfl ?_)
              cases h4 : decide ((a0 : Int) = 192) with
              | false =>
                repeat (first | refine Ops.nil ?_ | refine Ops.not rfl (by decide) ?_ | refine Ops.pure T rfl (by decide) rfl ?_)
                refine Run.fin (Run.ret1 (by rw [hCf]; exact func52) results52 rfl (hR _ _ _ ?_))
                refine ⟨rfl, ?_⟩
                simp only [localF, hho, e1', e2, e3', hi2, hpv, h1, h2, h4]
                rfl
              | true =>
                skip
                refine Ops.indexArr T rfl (by decide) rfl rfl rfl rfl (by decide) (by decide) ?_
                repeat (first | refine Ops.nil ?_ | refine Ops.eql rfl (by decide) rfl rfl ?_ | refine Ops.pure T rfl (by decide) rfl ?_ | refine Ops.load 0 rfl (by decide) rfl rfl (T.aggOk rfl) rfl ?_)
                cases h5 : decide ((a1 : Int) = 168) with
                | false =>
                  skip
                  refine Run.fin (Run.ret1 (by rw [hCf]; exact func52) results52 rfl (hR _ _ _ ?_))
                  refine ⟨rfl, ?_⟩
                  simp only [localF, hho, e1', e2, e3', hi2, hpv, h1, h2, h4, h5]
                  rfl
                | true =>
                  skip
                  refine Run.fin (Run.ret1 (by rw [hCf]; exact func52) results52 rfl (hR _ _ _ ?_))
                  refine ⟨rfl, ?_⟩
                  simp only [localF, hho, e1', e2, e3', hi2, hpv, h1, h2, h4, h5]
                  rfl
            | true =>
              skip
              refine Ops.indexArr T rfl (by decide) rfl rfl rfl rfl (by decide) (by decide) ?_
              repeat (first | refine Ops.geq rfl (by decide) rfl rfl ?_ | refine Ops.pure T rfl (by decide) rfl ?_ | refine Ops.load 0 rfl (by decide) rfl rfl (T.aggOk rfl) rfl ?_)
              cases h3 : decide ((16 : Int) ≤ (a1 : Int)) with
              | false =>
                repeat (first | refine Ops.not rfl (by decide) ?_ | refine Ops.pure T rfl (by decide) rfl ?_)
                refine Ops.indexArr T rfl (by decide) rfl rfl rfl rfl (by decide) (by decide) ?_
                repeat (first | refine Ops.eql rfl (by decide) rfl rfl ?_ | refine Ops.pure T rfl (by decide) rfl ?_ | refine Ops.load 0 rfl (by decide) rfl rfl (T.aggOk rfl) rfl ?_)
                cases h4 : decide ((a0 : Int) = 192) with
                | false =>
                  repeat (first | refine Ops.nil ?_ | refine Ops.not rfl (by decide) ?_ | refine Ops.pure T rfl (by decide) rfl ?_)
                  refine Run.fin (Run.ret1 (by rw [hCf]; exact func52) results52 rfl (hR _ _ _ ?_))
                  refine ⟨rfl, ?_⟩
                  simp only [localF, hho, e1', e2, e3', hi2, hpv, h1, h2, h3, h4]
                  rfl
                | true =>
                  skip
                  refine Ops.indexArr T rfl (by decide) rfl rfl rfl rfl (by decide) (by decide) ?_
                  repeat (first | refine Ops.nil ?_ | refine Ops.eql rfl (by decide) rfl rfl ?_ | refine Ops.pure T rfl (by decide) rfl ?_ | refine Ops.load 0 rfl (by decide) rfl rfl (T.aggOk rfl) rfl ?_)
                  cases h5 : decide ((a1 : Int) = 168) with
                  | false =>
                    skip
                    refine Run.fin (Run.ret1 (by rw [hCf]; exact func52) results52 rfl (hR _ _ _ ?_))
                    refine ⟨rfl, ?_⟩
                    simp only [localF, hho, e1', e2, e3', hi2, hpv, h1, h2, h3, h4, h5]
                    rfl
                  | true =>
                    skip
                    refine Run.fin (Run.ret1 (by rw [hCf]; exact func52) results52 rfl (hR _ _ _ ?_))
                    refine ⟨rfl, ?_⟩
                    simp only [localF, hho, e1', e2, e3', hi2, hpv, h1, h2, h3, h4, h5]
                    rfl
              | true =>
                skip
                refine Ops.indexArr T rfl (by decide) rfl rfl rfl rfl (by decide) (by decide) ?_
                repeat (first | refine Ops.lss rfl (by decide) rfl rfl ?_ | refine Ops.pure T rfl (by decide) rfl ?_ | refine Ops.load 0 rfl (by decide) rfl rfl (T.aggOk rfl) rfl ?_)
                cases h6 : decide ((a1 : Int) < 32) with
                | false =>
                  skip
                  refine Ops.indexArr T rfl (by decide) rfl rfl rfl rfl (by decide) (by decide) ?_
                  repeat (first | refine Ops.eql rfl (by decide) rfl rfl ?_ | refine Ops.pure T rfl (by decide) rfl ?_ | refine Ops.load 0 rfl (by decide) rfl rfl (T.aggOk rfl) rfl ?_)
                  cases h4 : decide ((a0 : Int) = 192) with
                  | false =>
                    repeat (first | refine Ops.nil ?_ | refine Ops.not rfl (by decide) ?_ | refine Ops.pure T rfl (by decide) rfl ?_)
                    refine Run.fin (Run.ret1 (by rw [hCf]; exact func52) results52 rfl (hR _ _ _ ?_))
                    refine ⟨rfl, ?_⟩
                    simp only [localF, hho, e1', e2, e3', hi2, hpv, h1, h2, h3, h6, h4]
                    rfl
                  | true =>
                    skip
                    refine Ops.indexArr T rfl (by decide) rfl rfl rfl rfl (by decide) (by decide) ?_
                    repeat (first | refine Ops.nil ?_ | refine Ops.eql rfl (by decide) rfl rfl ?_ | refine Ops.pure T rfl (by decide) rfl ?_ | refine Ops.load 0 rfl (by decide) rfl rfl (T.aggOk rfl) rfl ?_)
                    cases h5 : decide ((a1 : Int) = 168) with
                    | false =>
                      skip
                      refine Run.fin (Run.ret1 (by rw [hCf]; exact func52) results52 rfl (hR _ _ _ ?_))
                      refine ⟨rfl, ?_⟩
                      simp only [localF, hho, e1', e2, e3', hi2, hpv, h1, h2, h3, h6, h4, h5]
                      rfl
                    | true =>
                      skip
                      refine Run.fin (Run.ret1 (by rw [hCf]; exact func52) results52 rfl (hR _ _ _ ?_))
                      refine ⟨rfl, ?_⟩
                      simp only [localF, hho, e1', e2, e3', hi2, hpv, h1, h2, h3, h6, h4, h5]
                      rfl
                | true =>
                  repeat (first | refine Ops.nil ?_ | refine Ops.not rfl (by decide) ?_ | refine Ops.notU rfl (by decide) ?_ | refine Ops.pure T rfl (by decide) rfl ?_)
                  refine Run.fin (Run.ret1 (by rw [hCf]; exact func52) results52 rfl (hR _ _ _ ?_))
                  refine ⟨rfl, ?_⟩
                  simp only [localF, hho, e1', e2, e3', hi2, hpv, h1, h2, h3, h6]
                  rfl
  | some k =>
    rw [ixI_eq hk]
    have hlt := ix_lt hk
    have hho : hostOf s = s.take k := by simp [hostOf, hk]
    repeat (first | refine Run.seq ?_ | refine Run.region ?_ | refine Ops.nil ?_ | refine Run.cond_t rfl ?_ | refine Ops.eqlStr rfl (by decide) rfl rfl ?_ | refine Ops.geq rfl (by decide) rfl rfl ?_ | refine Ops.pure T rfl (by decide) rfl ?_ | refine Ops.sliceStrHi rfl (by decide) (T.undOk rfl) rfl rfl (by first | omega | (simp only [List.length_cons, List.length_nil] ; omega) | (simp; omega)) (by first | omega | (simp only [List.length_cons, List.length_nil] ; omega) | (simp; omega)) ?_)
    rw [decide_eq_true (show (0 : Int) ≤ (k : Int) by omega)]
    skip
    have ek : ((k : Int)).toNat = k := by omega
    rw [ek]
    have hhl : (s.take k : Tx).length ≤ s.length := by first | (simp; done) | (simp; omega) | omega
    skip
    cases e1 : decide ((s.take k) = [108, 111, 99, 97, 108, 104, 111, 115, 116]) with
    | true =>
      have e1' : decide ((s.take k) = localhostT) = true := e1
      repeat (first | refine Run.seq ?_ | refine Run.region ?_ | refine Ops.nil ?_ | refine Run.cond_t rfl ?_ | refine Ops.not rfl (by decide) ?_ | refine Ops.pure T rfl (by decide) rfl ?_)
      refine Run.fin (Run.ret1 (by rw [hCf]; exact func52) results52 rfl (hR _ _ _ ?_))
      refine ⟨rfl, ?_⟩
      simp only [localF, hho, e1']
      rfl
    | false =>
    have e1' : decide ((s.take k) = localhostT) = false := e1
    repeat (first | refine Ops.nil ?_ | refine Ops.eqlStr rfl (by decide) rfl rfl ?_ | refine Ops.pure T rfl (by decide) rfl ?_)
    cases e2 : decide ((s.take k) = [49, 50, 55, 46, 48, 46, 48, 46, 49]) with
    | true =>
      repeat (first | refine Run.seq ?_ | refine Run.region ?_ | refine Ops.nil ?_ | refine Run.cond_t rfl ?_ | refine Ops.pure T rfl (by decide) rfl ?_)
      refine Run.fin (Run.ret1 (by rw [hCf]; exact func52) results52 rfl (hR _ _ _ ?_))
      refine ⟨rfl, ?_⟩
      simp only [localF, hho, e1', e2]
      rfl
    | false =>
    repeat (first | refine Run.seq ?_ | refine Run.region ?_ | refine Ops.nil ?_ | refine Run.skip ?_ | refine Run.cond_f rfl ?_ | refine Ops.geq rfl (by decide) rfl rfl ?_ | refine Ops.pure T rfl (by decide) rfl ?_ | refine Ops.lenS T rfl (by decide) rfl rfl ?_)
    have esuf : endsT [46, 108, 111, 99, 97, 108, 104, 111, 115, 116] (s.take k) = (decide ((10 : Int) ≤ ((s.take k).length : Int)) && decide ((s.take k).drop ((s.take k).length - 10) = [46, 108, 111, 99, 97, 108, 104, 111, 115, 116])) := by
      unfold endsT
      rw [show decide (([46, 108, 111, 99, 97, 108, 104, 111, 115, 116] : Tx).length ≤ (s.take k).length) = decide ((10 : Int) ≤ ((s.take k).length : Int)) by rw [decide_eq_decide]; simp only [List.length_cons, List.length_nil]; omega]
      rfl
    cases e3 : decide ((10 : Int) ≤ ((s.take k).length : Int)) with
    | false =>
      have e3' : endsT [46, 108, 111, 99, 97, 108, 104, 111, 115, 116] (s.take k) = false := by rw [esuf, e3]; rfl
      repeat (first | refine Run.seq ?_ | refine Run.region ?_ | refine Ops.nil ?_ | refine Run.skip ?_ | refine Run.cond_f rfl ?_ | refine Ops.not rfl (by decide) ?_ | refine Ops.pure T rfl (by decide) rfl ?_)
      refine Ops.call ((spec_quad J1 (s.take k) (by omega))) rfl (by decide) call89 rfl ?_
      rintro _ J4 l4 ⟨⟨a0, a1, a2, a3⟩, rfl, hq⟩
      repeat (first | refine Ops.pure T rfl (by decide) rfl ?_)
      refine Ops.alloc rfl (by decide) (T.zeroOk rfl) rfl (fun b2 => ?_)
      repeat (first | refine Run.seq ?_ | refine Run.region ?_ | refine Ops.nil ?_ | refine Ops.pure T rfl (by decide) rfl ?_ | refine Ops.store 0 rfl rfl rfl rfl rfl (T.sizeOk rfl) rfl (Nat.le_of_ble_eq_true rfl) rfl rfl ?_)
      cases hi : quadF (s.take k) with
      | none =>
        repeat (first | refine Ops.nil ?_ | refine Ops.not rfl (by decide) ?_ | refine Ops.notU rfl (by decide) ?_ | refine Ops.pure T rfl (by decide) rfl ?_)
        refine Run.fin (Run.ret1 (by rw [hCf]; exact func52) results52 rfl (hR _ _ _ ?_))
        refine ⟨rfl, ?_⟩
        simp only [localF, hho, e1', e2, e3', hi]
        rfl
      | some l' =>
        obtain rfl := hq l' hi
        have hpv := pvs a0 a1 a2 a3
        have hi2 : privO (quadF (s.take k)) = privO (some [a0, a1, a2, a3]) := by rw [hi]; rfl
        skip
        refine Ops.indexArr T rfl (by decide) rfl rfl rfl rfl (by decide) (by decide) ?_
        repeat (first | refine Ops.eql rfl (by decide) rfl rfl ?_ | refine Ops.pure T rfl (by decide) rfl ?_ | refine Ops.load 0 rfl (by decide) rfl rfl (T.aggOk rfl) rfl ?_)
        cases h1 : decide ((a0 : Int) = 10) with
        | true =>
          repeat (first | refine Ops.nil ?_ | refine Ops.not rfl (by decide) ?_ | refine Ops.notU rfl (by decide) ?_ | refine Ops.pure T rfl (by decide) rfl ?_)
          refine Run.fin (Run.ret1 (by rw [hCf]; exact func52) results52 rfl (hR _ _ _ ?_))
          refine ⟨rfl, ?_⟩
          simp only [localF, hho, e1', e2, e3', hi2, hpv, h1]
          rfl
        | false =>
          skip
          refine Ops.indexArr T rfl (by decide) rfl rfl rfl rfl (by decide) (by decide) ?_
          repeat (first | refine Ops.eql rfl (by decide) rfl rfl ?_ | refine Ops.pure T rfl (by decide) rfl ?_ | refine Ops.load 0 rfl (by decide) rfl rfl (T.aggOk rfl) rfl ?_)
          cases h2 : decide ((a0 : Int) = 172) with
          | false =>
            repeat (first | refine Ops.not rfl (by decide) ?_ | refine Ops.pure T rfl (by decide) rfl ?_)
            refine Ops.indexArr T rfl (by decide) rfl rfl rfl rfl (by decide) (by decide) ?_
            repeat (first | refine Ops.eql rfl (by decide) rfl rfl ?_ | refine Ops.pure T rfl (by decide) rfl ?_ | refine Ops.load 0 rfl (by decide) rfl rfl (T.aggOk rfl) rfl ?_)
            cases h4 : decide ((a0 : Int) = 192) with
            | false =>
              repeat (first | refine Ops.nil ?_ | refine Ops.not rfl (by decide) ?_ | refine Ops.pure T rfl (by decide) rfl ?_)
              refine Run.fin (Run.ret1 (by rw [hCf]; exact func52) results52 rfl (hR _ _ _ ?_))
              refine ⟨rfl, ?_⟩
              simp only [localF, hho, e1', e2, e3', hi2, hpv, h1, h2, h4]
              rfl
            | true =>
              skip
              refine Ops.indexArr T rfl (by decide) rfl rfl rfl rfl (by decide) (by decide) ?_
              repeat (first | refine Ops.nil ?_ | refine Ops.eql rfl (by decide) rfl rfl ?_ | refine Ops.pure T rfl (by decide) rfl ?_ | refine Ops.load 0 rfl (by decide) rfl rfl (T.aggOk rfl) rfl ?_)
              cases h5 : decide ((a1 : Int) = 168) with
              | false =>
                skip
                refine Run.fin (Run.ret1 (by rw [hCf]; exact func52) results52 rfl (hR _ _ _ ?_))
                refine ⟨rfl, ?_⟩
                simp only [localF, hho, e1', e2, e3', hi2, hpv, h1, h2, h4, h5]
                rfl
              | true =>
                skip
                refine Run.fin (Run.ret1 (by rw [hCf]; exact func52) results52 rfl (hR _ _ _ ?_))
                refine ⟨rfl, ?_⟩
                simp only [localF, hho, e1', e2, e3', hi2, hpv, h1, h2, h4, h5]
                rfl
          | true =>
            skip
            refine Ops.indexArr T rfl (by decide) rfl rfl rfl rfl (by decide) (by decide) ?_
            repeat (first | refine Ops.geq rfl (by decide) rfl rfl ?_ | refine Ops.pure T rfl (by decide) rfl ?_ | refine Ops.load 0 rfl (by decide) rfl rfl (T.aggOk rfl) rfl ?_)
            cases h3 : decide ((16 : Int) ≤ (a1 : Int)) with
            | false =>
              repeat (first | refine Ops.not rfl (by decide) ?_ | refine Ops.pure T rfl (by decide) rfl ?_)
              refine Ops.indexArr T rfl (by decide) rfl rfl rfl rfl (by decide) (by decide) ?_
              repeat (first | refine Ops.eql rfl (by decide) rfl rfl ?_ | refine Ops.pure T rfl (by decide) rfl ?_ | refine Ops.load 0 rfl (by decide) rfl rfl (T.aggOk rfl) rfl ?_)
              cases h4 : decide ((a0 : Int) = 192) with
              | false =>
                repeat (first | refine Ops.nil ?_ | refine Ops.not rfl (by decide) ?_ | refine Ops.pure T rfl (by decide) rfl ?_)
                refine Run.fin (Run.ret1 (by rw [hCf]; exact func52) results52 rfl (hR _ _ _ ?_))
                refine ⟨rfl, ?_⟩
                simp only [localF, hho, e1', e2, e3', hi2, hpv, h1, h2, h3, h4]
                rfl
              | true =>
                skip
                refine Ops.indexArr T rfl (by decide) rfl rfl rfl rfl (by decide) (by decide) ?_
                repeat (first | refine Ops.nil ?_ | refine Ops.eql rfl (by decide) rfl rfl ?_ | refine Ops.pure T rfl (by decide) rfl ?_ | refine Ops.load 0 rfl (by decide) rfl rfl (T.aggOk rfl) rfl ?_)
                cases h5 : decide ((a1 : Int) = 168) with
                | false =>
                  skip
                  refine Run.fin (Run.ret1 (by rw [hCf]; exact func52) results52 rfl (hR _ _ _ ?_))
                  refine ⟨rfl, ?_⟩
                  simp only [localF, hho, e1', e2, e3', hi2, hpv, h1, h2, h3, h4, h5]
                  rfl
                | true =>
                  skip
                  refine Run.fin (Run.ret1 (by rw [hCf]; exact func52) results52 rfl (hR _ _ _ ?_))
                  refine ⟨rfl, ?_⟩
                  simp only [localF, hho, e1', e2, e3', hi2, hpv, h1, h2, h3, h4, h5]
                  rfl
            | true =>
              skip
              refine Ops.indexArr T rfl (by decide) rfl rfl rfl rfl (by decide) (by decide) ?_
              repeat (first | refine Ops.lss rfl (by decide) rfl rfl ?_ | refine Ops.pure T rfl (by decide) rfl ?_ | refine Ops.load 0 rfl (by decide) rfl rfl (T.aggOk rfl) rfl ?_)
              cases h6 : decide ((a1 : Int) < 32) with
              | false =>
                skip
                refine Ops.indexArr T rfl (by decide) rfl rfl rfl rfl (by decide) (by decide) ?_
                repeat (first | refine Ops.eql rfl (by decide) rfl rfl ?_ | refine Ops.pure T rfl (by decide) rfl ?_ | refine Ops.load 0 rfl (by decide) rfl rfl (T.aggOk rfl) rfl ?_)
                cases h4 : decide ((a0 : Int) = 192) with
                | false =>
                  repeat (first | refine Ops.nil ?_ | refine Ops.not rfl (by decide) ?_ | refine Ops.pure T rfl (by decide) rfl ?_)
                  refine Run.fin (Run.ret1 (by rw [hCf]; exact func52) results52 rfl (hR _ _ _ ?_))
                  refine ⟨rfl, ?_⟩
                  simp only [localF, hho, e1', e2, e3', hi2, hpv, h1, h2, h3, h6, h4]
                  rfl
                | true =>
                  skip
                  refine Ops.indexArr T rfl (by decide) rfl rfl rfl rfl (by decide) (by decide) ?_
                  repeat (first | refine Ops.nil ?_ | refine Ops.eql rfl (by decide) rfl rfl ?_ | refine Ops.pure T rfl (by decide) rfl ?_ | refine Ops.load 0 rfl (by decide) rfl rfl (T.aggOk rfl) rfl ?_)
                  cases h5 : decide ((a1 : Int) = 168) with
                  | false =>
                    skip
                    refine Run.fin (Run.ret1 (by rw [hCf]; exact func52) results52 rfl (hR _ _ _ ?_))
                    refine ⟨rfl, ?_⟩
                    simp only [localF, hho, e1', e2, e3', hi2, hpv, h1, h2, h3, h6, h4, h5]
                    rfl
                  | true =>
                    skip
                    refine Run.fin (Run.ret1 (by rw [hCf]; exact func52) results52 rfl (hR _ _ _ ?_))
                    refine ⟨rfl, ?_⟩
                    simp only [localF, hho, e1', e2, e3', hi2, hpv, h1, h2, h3, h6, h4, h5]
                    rfl
              | true =>
                repeat (first | refine Ops.nil ?_ | refine Ops.not rfl (by decide) ?_ | refine Ops.notU rfl (by decide) ?_ | refine Ops.pure T rfl (by decide) rfl ?_)
                refine Run.fin (Run.ret1 (by rw [hCf]; exact func52) results52 rfl (hR _ _ _ ?_))
                refine ⟨rfl, ?_⟩
                simp only [localF, hho, e1', e2, e3', hi2, hpv, h1, h2, h3, h6]
                rfl
    | true =>
      have e3a := of_decide_eq_true e3
      repeat (first | refine Ops.nil ?_ | refine Ops.eqlStr rfl (by decide) rfl rfl ?_ | refine Ops.sub rfl (by decide) rfl rfl (wI (by first | omega | (simp only [List.length_cons, List.length_nil] ; omega) | (simp; omega)) (by first | omega | (simp only [List.length_cons, List.length_nil] ; omega) | (simp; omega))) ?_ | refine Ops.pure T rfl (by decide) rfl ?_ | refine Ops.sliceStrLo rfl (by decide) (T.undOk rfl) rfl rfl (by first | omega | (simp only [List.length_cons, List.length_nil] ; omega) | (simp; omega)) (by first | omega | (simp only [List.length_cons, List.length_nil] ; omega) | (simp; omega)) ?_)
      have es : (((s.take k).length : Int) - 10).toNat = (s.take k).length - 10 := by omega
      rw [es]
      cases e4 : decide ((s.take k).drop ((s.take k).length - 10) = [46, 108, 111, 99, 97, 108, 104, 111, 115, 116]) with
      | true =>
        have e3' : endsT [46, 108, 111, 99, 97, 108, 104, 111, 115, 116] (s.take k) = true := by rw [esuf, e3, e4]; rfl
        repeat (first | refine Run.seq ?_ | refine Run.region ?_ | refine Ops.nil ?_ | refine Run.cond_t rfl ?_ | refine Ops.pure T rfl (by decide) rfl ?_)
        refine Run.fin (Run.ret1 (by rw [hCf]; exact func52) results52 rfl (hR _ _ _ ?_))
        refine ⟨rfl, ?_⟩
        simp only [localF, hho, e1', e2, e3']
        rfl
      | false =>
        have e3' : endsT [46, 108, 111, 99, 97, 108, 104, 111, 115, 116] (s.take k) = false := by rw [esuf, e3, e4]; rfl
        repeat (first | refine Run.seq ?_ | refine Run.region ?_ | refine Run.skip ?_ | refine Run.cond_f rfl ?_ | refine Ops.pure T rfl (by decide) rfl ?_)
        refine Ops.call ((spec_quad J1 (s.take k) (by omega))) rfl (by decide) call89 rfl ?_
        rintro _ J4 l4 ⟨⟨a0, a1, a2, a3⟩, rfl, hq⟩
        repeat (first | refine Ops.pure T rfl (by decide) rfl ?_)
        refine Ops.alloc rfl (by decide) (T.zeroOk rfl) rfl (fun b2 => ?_)
        repeat (first | refine Run.seq ?_ | refine Run.region ?_ | refine Ops.nil ?_ | refine Ops.pure T rfl (by decide) rfl ?_ | refine Ops.store 0 rfl rfl rfl rfl rfl (T.sizeOk rfl) rfl (Nat.le_of_ble_eq_true rfl) rfl rfl ?_)
        cases hi : quadF (s.take k) with
        | none =>
          repeat (first | refine Ops.nil ?_ | refine Ops.not rfl (by decide) ?_ | refine Ops.notU rfl (by decide) ?_ | refine Ops.pure T rfl (by decide) rfl ?_)
          refine Run.fin (Run.ret1 (by rw [hCf]; exact func52) results52 rfl (hR _ _ _ ?_))
          refine ⟨rfl, ?_⟩
          simp only [localF, hho, e1', e2, e3', hi]
          rfl
        | some l' =>
          obtain rfl := hq l' hi
          have hpv := pvs a0 a1 a2 a3
          have hi2 : privO (quadF (s.take k)) = privO (some [a0, a1, a2, a3]) := by rw [hi]; rfl
          skip
          refine Ops.indexArr T rfl (by decide) rfl rfl rfl rfl (by decide) (by decide) ?_
          repeat (first | refine Ops.eql rfl (by decide) rfl rfl ?_ | refine Ops.pure T rfl (by decide) rfl ?_ | refine Ops.load 0 rfl (by decide) rfl rfl (T.aggOk rfl) rfl ?_)
          cases h1 : decide ((a0 : Int) = 10) with
          | true =>
            repeat (first | refine Ops.nil ?_ | refine Ops.not rfl (by decide) ?_ | refine Ops.notU rfl (by decide) ?_ | refine Ops.pure T rfl (by decide) rfl ?_)
            refine Run.fin (Run.ret1 (by rw [hCf]; exact func52) results52 rfl (hR _ _ _ ?_))
            refine ⟨rfl, ?_⟩
            simp only [localF, hho, e1', e2, e3', hi2, hpv, h1]
            rfl
          | false =>
            skip
            refine Ops.indexArr T rfl (by decide) rfl rfl rfl rfl (by decide) (by decide) ?_
            repeat (first | refine Ops.eql rfl (by decide) rfl rfl ?_ | refine Ops.pure T rfl (by decide) rfl ?_ | refine Ops.load 0 rfl (by decide) rfl rfl (T.aggOk rfl) rfl ?_)
            cases h2 : decide ((a0 : Int) = 172) with
            | false =>
              repeat (first | refine Ops.not rfl (by decide) ?_ | refine Ops.pure T rfl (by decide) rfl ?_)
              refine Ops.indexArr T rfl (by decide) rfl rfl rfl rfl (by decide) (by decide) ?_
              repeat (first | refine Ops.eql rfl (by decide) rfl rfl ?_ | refine Ops.pure T rfl (by decide) rfl ?_ | refine Ops.load 0 rfl (by decide) rfl rfl (T.aggOk rfl) rfl ?_)
              cases h4 : decide ((a0 : Int) = 192) with
              | false =>
                repeat (first | refine Ops.nil ?_ | refine Ops.not rfl (by decide) ?_ | refine Ops.pure T rfl (by decide) rfl ?_)
                refine Run.fin (Run.ret1 (by rw [hCf]; exact func52) results52 rfl (hR _ _ _ ?_))
                refine ⟨rfl, ?_⟩
                simp only [localF, hho, e1', e2, e3', hi2, hpv, h1, h2, h4]
                rfl
              | true =>
                skip
                refine Ops.indexArr T rfl (by decide) rfl rfl rfl rfl (by decide) (by decide) ?_
                repeat (first | refine Ops.nil ?_ | refine Ops.eql rfl (by decide) rfl rfl ?_ | refine Ops.pure T rfl (by decide) rfl ?_ | refine Ops.load 0 rfl (by decide) rfl rfl (T.aggOk rfl) rfl ?_)
                cases h5 : decide ((a1 : Int) = 168) with
                | false =>
                  skip
                  refine Run.fin (Run.ret1 (by rw [hCf]; exact func52) results52 rfl (hR _ _ _ ?_))
                  refine ⟨rfl, ?_⟩
                  simp only [localF, hho, e1', e2, e3', hi2, hpv, h1, h2, h4, h5]
                  rfl
                | true =>
                  skip
                  refine Run.fin (Run.ret1 (by rw [hCf]; exact func52) results52 rfl (hR _ _ _ ?_))
                  refine ⟨rfl, ?_⟩
                  simp only [localF, hho, e1', e2, e3', hi2, hpv, h1, h2, h4, h5]
                  rfl
            | true =>
              skip
              refine Ops.indexArr T rfl (by decide) rfl rfl rfl rfl (by decide) (by decide) ?_
              repeat (first | refine Ops.geq rfl (by decide) rfl rfl ?_ | refine Ops.pure T rfl (by decide) rfl ?_ | refine Ops.load 0 rfl (by decide) rfl rfl (T.aggOk rfl) rfl ?_)
              cases h3 : decide ((16 : Int) ≤ (a1 : Int)) with
              | false =>
                repeat (first | refine Ops.not rfl (by decide) ?_ | refine Ops.pure T rfl (by decide) rfl ?_)
                refine Ops.indexArr T rfl (by decide) rfl rfl rfl rfl (by decide) (by decide) ?_
                repeat (first | refine Ops.eql rfl (by decide) rfl rfl ?_ | refine Ops.pure T rfl (by decide) rfl ?_ | refine Ops.load 0 rfl (by decide) rfl rfl (T.aggOk rfl) rfl ?_)
                cases h4 : decide ((a0 : Int) = 192) with
                | false =>
                  repeat (first | refine Ops.nil ?_ | refine Ops.not rfl (by decide) ?_ | refine Ops.pure T rfl (by decide) rfl ?_)
                  refine Run.fin (Run.ret1 (by rw [hCf]; exact func52) results52 rfl (hR _ _ _ ?_))
                  refine ⟨rfl, ?_⟩
                  simp only [localF, hho, e1', e2, e3', hi2, hpv, h1, h2, h3, h4]
                  rfl
                | true =>
                  skip
                  refine Ops.indexArr T rfl (by decide) rfl rfl rfl rfl (by decide) (by decide) ?_
                  repeat (first | refine Ops.nil ?_ | refine Ops.eql rfl (by decide) rfl rfl ?_ | refine Ops.pure T rfl (by decide) rfl ?_ | refine Ops.load 0 rfl (by decide) rfl rfl (T.aggOk rfl) rfl ?_)
                  cases h5 : decide ((a1 : Int) = 168) with
                  | false =>
                    skip
                    refine Run.fin (Run.ret1 (by rw [hCf]; exact func52) results52 rfl (hR _ _ _ ?_))
                    refine ⟨rfl, ?_⟩
                    simp only [localF, hho, e1', e2, e3', hi2, hpv, h1, h2, h3, h4, h5]
                    rfl
                  | true =>
                    skip
                    refine Run.fin (Run.ret1 (by rw [hCf]; exact func52) results52 rfl (hR _ _ _ ?_))
                    refine ⟨rfl, ?_⟩
                    simp only [localF, hho, e1', e2, e3', hi2, hpv, h1, h2, h3, h4, h5]
                    rfl
              | true =>
                skip
                refine Ops.indexArr T rfl (by decide) rfl rfl rfl rfl (by decide) (by decide) ?_
                repeat (first | refine Ops.lss rfl (by decide) rfl rfl ?_ | refine Ops.pure T rfl (by decide) rfl ?_ | refine Ops.load 0 rfl (by decide) rfl rfl (T.aggOk rfl) rfl ?_)
                cases h6 : decide ((a1 : Int) < 32) with
                | false =>
                  skip
                  refine Ops.indexArr T rfl (by decide) rfl rfl rfl rfl (by decide) (by decide) ?_
                  repeat (first | refine Ops.eql rfl (by decide) rfl rfl ?_ | refine Ops.pure T rfl (by decide) rfl ?_ | refine Ops.load 0 rfl (by decide) rfl rfl (T.aggOk rfl) rfl ?_)
                  cases h4 : decide ((a0 : Int) = 192) with
                  | false =>
                    repeat (first | refine Ops.nil ?_ | refine Ops.not rfl (by decide) ?_ | refine Ops.pure T rfl (by decide) rfl ?_)
                    refine Run.fin (Run.ret1 (by rw [hCf]; exact func52) results52 rfl (hR _ _ _ ?_))
                    refine ⟨rfl, ?_⟩
                    simp only [localF, hho, e1', e2, e3', hi2, hpv, h1, h2, h3, h6, h4]
                    rfl
                  | true =>
                    skip
                    refine Ops.indexArr T rfl (by decide) rfl rfl rfl rfl (by decide) (by decide) ?_
                    repeat (first | refine Ops.nil ?_ | refine Ops.eql rfl (by decide) rfl rfl ?_ | refine Ops.pure T rfl (by decide) rfl ?_ | refine Ops.load 0 rfl (by decide) rfl rfl (T.aggOk rfl) rfl ?_)
                    cases h5 : decide ((a1 : Int) = 168) with
                    | false =>
                      skip
                      refine Run.fin (Run.ret1 (by rw [hCf]; exact func52) results52 rfl (hR _ _ _ ?_))
                      refine ⟨rfl, ?_⟩
                      simp only [localF, hho, e1', e2, e3', hi2, hpv, h1, h2, h3, h6, h4, h5]
                      rfl
                    | true =>
                      skip
                      refine Run.fin (Run.ret1 (by rw [hCf]; exact func52) results52 rfl (hR _ _ _ ?_))
                      refine ⟨rfl, ?_⟩
                      simp only [localF, hho, e1', e2, e3', hi2, hpv, h1, h2, h3, h6, h4, h5]
                      rfl
                | true =>
                  repeat (first | refine Ops.nil ?_ | refine Ops.not rfl (by decide) ?_ | refine Ops.notU rfl (by decide) ?_ | refine Ops.pure T rfl (by decide) rfl ?_)
                  refine Run.fin (Run.ret1 (by rw [hCf]; exact func52) results52 rfl (hR _ _ _ ?_))
                  refine ⟨rfl, ?_⟩
                  simp only [localF, hho, e1', e2, e3', hi2, hpv, h1, h2, h3, h6]
                  rfl
end Go.V
namespace Go.V
open Go.Proofs.Tryz
open Go.RowKit
set_option linter.unusedVariables false
set_option linter.unusedSimpArgs false
set_option maxRecDepth 10000
attribute [local irreducible] Run Ops
theorem Ops.own {P : Program} {n : Nat} {C : Cx} {ops : Array Oper} {i : Nat} {l : List Oper} {k : List Item} {env : Env} {L L' : Own} {I : Imm} (h : L = L') (hr : Ops P n C ops i l k env L' I) : Ops P n C ops i l k env L I := by subst h; exact hr
set_option maxHeartbeats 8000000 in
theorem spec_named (I : Imm) (kind : Int) (r p id text : Tx) (st ins : Bool) (reg tag : Tx) (hk : kind = 1 ∨ kind = 2 ∨ kind = 3 ∨ kind = 4) (hr : r.length ≤ 1099511627776) (hp : p.length ≤ 1099511627776) (hid : id.length ≤ 1099511627776) :
    Pure prog 15 [.int .i64 kind, str r, str p, str id, str text, .agg (NOpt.mk st ins reg tag).cs.toArray] I fun w J => w = .agg (nmd (ins || localF r) kind r p id text).cs.toArray := by
  rcases hk with rfl | rfl | rfl | rfl
  · skip
    refine Spec.enter 73 [(0, _), (1, _), (2, _), (3, _), (4, _), (5, _)] func15 rfl ntmps15 (by simp) rfl ?_
    intro C hCf hR hCI
    repeat (first | refine Run.seq ?_ | refine Run.region ?_)
    refine Ops.box rfl (by decide) rfl rfl (fun b1 => ?_)
    refine Ops.alloc rfl (by decide) (T.zeroOk rfl) rfl (fun b2 => ?_)
    repeat (first | refine Run.seq ?_ | refine Run.region ?_ | refine Ops.nil ?_ | refine Ops.pure T rfl (by decide) rfl ?_)
    refine Ops.buildL (vs := [(0, .int .i64 1), (1, str r), (2, str p), (3, str id), (5, str text), (6, str [104, 116, 116, 112, 115])]) (cs := [.int .i64 1, str r, str p, str id, str [], str text, str [104, 116, 116, 112, 115], str [], str [], str [], str []]) bd26 rfl (by decide) (by kernel_rfl) (by kernel_rfl) ?_
    refine Ops.alloc rfl (by decide) (T.zeroOk rfl) rfl (fun b3 => ?_)
    repeat (first | refine Run.seq ?_ | refine Run.region ?_ | refine Ops.nil ?_ | refine Run.skip ?_ | refine Run.block ?_ | refine Run.inBlock ?_ | refine Run.cond_t rfl ?_ | refine Run.cond_f rfl ?_ | refine Ops.cat rfl (by decide) rfl rfl (by first | omega | (simp only [List.length_cons, List.length_nil] ; omega) | (simp; omega)) ?_ | refine Ops.eql rfl (by decide) rfl rfl ?_ | refine Ops.geq rfl (by decide) rfl rfl ?_ | refine Ops.pure T rfl (by decide) rfl ?_ | refine Ops.load 2 rfl (by decide) rfl rfl (T.aggOk rfl) rfl ?_ | refine Ops.store 0 rfl rfl rfl rfl rfl (T.sizeOk rfl) rfl (Nat.le_of_ble_eq_true rfl) rfl rfl ?_)
    refine Ops.own (L' := [(b3, blk [.int .i64 1, str r, str p, str id, str r, str r, str [104, 116, 116, 112, 115], str [114, 101, 103, 105, 115, 116, 114, 121, 58, 99, 97, 116, 97, 108, 111, 103, 58, 42], str [], str [], str []] 26), (b2, blk [.int .i64 0, str [], str [], str [], str [], str [], str [], str [], str [], str [], str []] 26), (b1, blk [.bool st, .bool ins, str reg, str tag] 30)]) (by kernel_rfl) ?_
    cases hins : ins with
    | true =>
      repeat (first | refine Run.seq ?_ | refine Run.region ?_ | refine Ops.nil ?_ | refine Run.cond_t rfl ?_ | refine Ops.not rfl (by decide) ?_ | refine Ops.pure T rfl (by decide) rfl ?_ | refine Ops.loadN 0 rfl (by decide) rfl rfl (T.aggOk rfl) (T.sizeOk rfl) rfl rfl ?_ | refine Ops.store 0 rfl rfl rfl rfl rfl (T.sizeOk rfl) rfl (Nat.le_of_ble_eq_true rfl) rfl rfl ?_ | refine Ops.store 1 rfl rfl rfl rfl rfl (T.sizeOk rfl) rfl (Nat.le_of_ble_eq_true rfl) rfl rfl ?_)
      refine Run.retC T 1 (by rw [hCf]; exact func15) results15 rfl rfl rfl rfl rfl rfl (hR _ _ _ ?_)
      exact ⟨rfl, by simp only [hins]; rfl⟩
    | false =>
      repeat (first | refine Ops.pure T rfl (by decide) rfl ?_)
      refine Ops.call ((spec_Local I r (by omega))) rfl (by decide) call52 rfl ?_
      rintro _ J3 l3 rfl
      repeat (first | refine Ops.nil ?_ | refine Ops.pure T rfl (by decide) rfl ?_)
      cases hloc : localF r with
      | true =>
        repeat (first | refine Run.seq ?_ | refine Run.region ?_ | refine Ops.nil ?_ | refine Run.cond_t rfl ?_ | refine Ops.pure T rfl (by decide) rfl ?_ | refine Ops.loadN 0 rfl (by decide) rfl rfl (T.aggOk rfl) (T.sizeOk rfl) rfl rfl ?_ | refine Ops.store 0 rfl rfl rfl rfl rfl (T.sizeOk rfl) rfl (Nat.le_of_ble_eq_true rfl) rfl rfl ?_ | refine Ops.store 1 rfl rfl rfl rfl rfl (T.sizeOk rfl) rfl (Nat.le_of_ble_eq_true rfl) rfl rfl ?_)
        refine Run.retC T 1 (by rw [hCf]; exact func15) results15 rfl rfl rfl rfl rfl rfl (hR _ _ _ ?_)
        exact ⟨rfl, by simp only [hins, hloc]; rfl⟩
      | false =>
        repeat (first | refine Run.seq ?_ | refine Run.region ?_ | refine Ops.nil ?_ | refine Run.skip ?_ | refine Run.cond_f rfl ?_ | refine Ops.loadN 0 rfl (by decide) rfl rfl (T.aggOk rfl) (T.sizeOk rfl) rfl rfl ?_ | refine Ops.store 1 rfl rfl rfl rfl rfl (T.sizeOk rfl) rfl (Nat.le_of_ble_eq_true rfl) rfl rfl ?_)
        refine Run.retC T 1 (by rw [hCf]; exact func15) results15 rfl rfl rfl rfl rfl rfl (hR _ _ _ ?_)
        exact ⟨rfl, by simp only [hins, hloc]; rfl⟩
  · skip
    refine Spec.enter 73 [(0, _), (1, _), (2, _), (3, _), (4, _), (5, _)] func15 rfl ntmps15 (by simp) rfl ?_
    intro C hCf hR hCI
    repeat (first | refine Run.seq ?_ | refine Run.region ?_)
    refine Ops.box rfl (by decide) rfl rfl (fun b1 => ?_)
    refine Ops.alloc rfl (by decide) (T.zeroOk rfl) rfl (fun b2 => ?_)
    repeat (first | refine Run.seq ?_ | refine Run.region ?_ | refine Ops.nil ?_ | refine Ops.pure T rfl (by decide) rfl ?_)
    refine Ops.buildL (vs := [(0, .int .i64 2), (1, str r), (2, str p), (3, str id), (5, str text), (6, str [104, 116, 116, 112, 115])]) (cs := [.int .i64 2, str r, str p, str id, str [], str text, str [104, 116, 116, 112, 115], str [], str [], str [], str []]) bd26 rfl (by decide) (by kernel_rfl) (by kernel_rfl) ?_
    refine Ops.alloc rfl (by decide) (T.zeroOk rfl) rfl (fun b3 => ?_)
    repeat (first | refine Run.seq ?_ | refine Run.region ?_ | refine Ops.nil ?_ | refine Run.skip ?_ | refine Run.block ?_ | refine Run.inBlock ?_ | refine Run.cond_t rfl ?_ | refine Run.cond_f rfl ?_ | refine Ops.cat rfl (by decide) rfl rfl (by first | omega | (simp only [List.length_cons, List.length_nil] ; omega) | (simp; omega)) ?_ | refine Ops.eql rfl (by decide) rfl rfl ?_ | refine Ops.geq rfl (by decide) rfl rfl ?_ | refine Ops.pure T rfl (by decide) rfl ?_ | refine Ops.load 2 rfl (by decide) rfl rfl (T.aggOk rfl) rfl ?_ | refine Ops.store 0 rfl rfl rfl rfl rfl (T.sizeOk rfl) rfl (Nat.le_of_ble_eq_true rfl) rfl rfl ?_)
    refine Ops.own (L' := [(b3, blk [.int .i64 2, str r, str p, str id, str (repoT r p), str (repoT r p), str [104, 116, 116, 112, 115], str (scopeT p), str [], str [], str []] 26), (b2, blk [.int .i64 0, str [], str [], str [], str [], str [], str [], str [], str [], str [], str []] 26), (b1, blk [.bool st, .bool ins, str reg, str tag] 30)]) (by kernel_rfl) ?_
    cases hins : ins with
    | true =>
      repeat (first | refine Run.seq ?_ | refine Run.region ?_ | refine Ops.nil ?_ | refine Run.cond_t rfl ?_ | refine Ops.not rfl (by decide) ?_ | refine Ops.pure T rfl (by decide) rfl ?_ | refine Ops.loadN 0 rfl (by decide) rfl rfl (T.aggOk rfl) (T.sizeOk rfl) rfl rfl ?_ | refine Ops.store 0 rfl rfl rfl rfl rfl (T.sizeOk rfl) rfl (Nat.le_of_ble_eq_true rfl) rfl rfl ?_ | refine Ops.store 1 rfl rfl rfl rfl rfl (T.sizeOk rfl) rfl (Nat.le_of_ble_eq_true rfl) rfl rfl ?_)
      refine Run.retC T 1 (by rw [hCf]; exact func15) results15 rfl rfl rfl rfl rfl rfl (hR _ _ _ ?_)
      exact ⟨rfl, by simp only [hins]; rfl⟩
    | false =>
      repeat (first | refine Ops.pure T rfl (by decide) rfl ?_)
      refine Ops.call ((spec_Local I r (by omega))) rfl (by decide) call52 rfl ?_
      rintro _ J3 l3 rfl
      repeat (first | refine Ops.nil ?_ | refine Ops.pure T rfl (by decide) rfl ?_)
      cases hloc : localF r with
      | true =>
        repeat (first | refine Run.seq ?_ | refine Run.region ?_ | refine Ops.nil ?_ | refine Run.cond_t rfl ?_ | refine Ops.pure T rfl (by decide) rfl ?_ | refine Ops.loadN 0 rfl (by decide) rfl rfl (T.aggOk rfl) (T.sizeOk rfl) rfl rfl ?_ | refine Ops.store 0 rfl rfl rfl rfl rfl (T.sizeOk rfl) rfl (Nat.le_of_ble_eq_true rfl) rfl rfl ?_ | refine Ops.store 1 rfl rfl rfl rfl rfl (T.sizeOk rfl) rfl (Nat.le_of_ble_eq_true rfl) rfl rfl ?_)
        refine Run.retC T 1 (by rw [hCf]; exact func15) results15 rfl rfl rfl rfl rfl rfl (hR _ _ _ ?_)
        exact ⟨rfl, by simp only [hins, hloc]; rfl⟩
      | false =>
        repeat (first | refine Run.seq ?_ | refine Run.region ?_ | refine Ops.nil ?_ | refine Run.skip ?_ | refine Run.cond_f rfl ?_ | refine Ops.loadN 0 rfl (by decide) rfl rfl (T.aggOk rfl) (T.sizeOk rfl) rfl rfl ?_ | refine Ops.store 1 rfl rfl rfl rfl rfl (T.sizeOk rfl) rfl (Nat.le_of_ble_eq_true rfl) rfl rfl ?_)
        refine Run.retC T 1 (by rw [hCf]; exact func15) results15 rfl rfl rfl rfl rfl rfl (hR _ _ _ ?_)
        exact ⟨rfl, by simp only [hins, hloc]; rfl⟩
  · skip
    refine Spec.enter 73 [(0, _), (1, _), (2, _), (3, _), (4, _), (5, _)] func15 rfl ntmps15 (by simp) rfl ?_
    intro C hCf hR hCI
    repeat (first | refine Run.seq ?_ | refine Run.region ?_)
    refine Ops.box rfl (by decide) rfl rfl (fun b1 => ?_)
    refine Ops.alloc rfl (by decide) (T.zeroOk rfl) rfl (fun b2 => ?_)
    repeat (first | refine Run.seq ?_ | refine Run.region ?_ | refine Ops.nil ?_ | refine Ops.pure T rfl (by decide) rfl ?_)
    refine Ops.buildL (vs := [(0, .int .i64 3), (1, str r), (2, str p), (3, str id), (5, str text), (6, str [104, 116, 116, 112, 115])]) (cs := [.int .i64 3, str r, str p, str id, str [], str text, str [104, 116, 116, 112, 115], str [], str [], str [], str []]) bd26 rfl (by decide) (by kernel_rfl) (by kernel_rfl) ?_
    refine Ops.alloc rfl (by decide) (T.zeroOk rfl) rfl (fun b3 => ?_)
    repeat (first | refine Run.seq ?_ | refine Run.region ?_ | refine Ops.nil ?_ | refine Run.block ?_ | refine Run.inBlock ?_ | refine Run.cond_t rfl ?_ | refine Run.cond_f rfl ?_ | refine Ops.cat rfl (by decide) rfl rfl (by first | omega | (simp only [List.length_cons, List.length_nil] ; omega) | (simp; omega)) ?_ | refine Ops.eql rfl (by decide) rfl rfl ?_ | refine Ops.geq rfl (by decide) rfl rfl ?_ | refine Ops.pure T rfl (by decide) rfl ?_ | refine Ops.load 2 rfl (by decide) rfl rfl (T.aggOk rfl) rfl ?_ | refine Ops.store 0 rfl rfl rfl rfl rfl (T.sizeOk rfl) rfl (Nat.le_of_ble_eq_true rfl) rfl rfl ?_)
    refine Ops.own (L' := [(b3, blk [.int .i64 3, str r, str p, str id, str (repoT r p ++ [58] ++ id), str text, str [104, 116, 116, 112, 115], str (scopeT p), str (repoT r p), str (repoT r p), str r] 26), (b2, blk [.int .i64 0, str [], str [], str [], str [], str [], str [], str [], str [], str [], str []] 26), (b1, blk [.bool st, .bool ins, str reg, str tag] 30)]) (by kernel_rfl) ?_
    cases hins : ins with
    | true =>
      repeat (first | refine Run.seq ?_ | refine Run.region ?_ | refine Ops.nil ?_ | refine Run.cond_t rfl ?_ | refine Ops.not rfl (by decide) ?_ | refine Ops.pure T rfl (by decide) rfl ?_ | refine Ops.loadN 0 rfl (by decide) rfl rfl (T.aggOk rfl) (T.sizeOk rfl) rfl rfl ?_ | refine Ops.store 0 rfl rfl rfl rfl rfl (T.sizeOk rfl) rfl (Nat.le_of_ble_eq_true rfl) rfl rfl ?_ | refine Ops.store 1 rfl rfl rfl rfl rfl (T.sizeOk rfl) rfl (Nat.le_of_ble_eq_true rfl) rfl rfl ?_)
      refine Run.retC T 1 (by rw [hCf]; exact func15) results15 rfl rfl rfl rfl rfl rfl (hR _ _ _ ?_)
      exact ⟨rfl, by simp only [hins]; rfl⟩
    | false =>
      repeat (first | refine Ops.pure T rfl (by decide) rfl ?_)
      refine Ops.call ((spec_Local I r (by omega))) rfl (by decide) call52 rfl ?_
      rintro _ J3 l3 rfl
      repeat (first | refine Ops.nil ?_ | refine Ops.pure T rfl (by decide) rfl ?_)
      cases hloc : localF r with
      | true =>
        repeat (first | refine Run.seq ?_ | refine Run.region ?_ | refine Ops.nil ?_ | refine Run.cond_t rfl ?_ | refine Ops.pure T rfl (by decide) rfl ?_ | refine Ops.loadN 0 rfl (by decide) rfl rfl (T.aggOk rfl) (T.sizeOk rfl) rfl rfl ?_ | refine Ops.store 0 rfl rfl rfl rfl rfl (T.sizeOk rfl) rfl (Nat.le_of_ble_eq_true rfl) rfl rfl ?_ | refine Ops.store 1 rfl rfl rfl rfl rfl (T.sizeOk rfl) rfl (Nat.le_of_ble_eq_true rfl) rfl rfl ?_)
        refine Run.retC T 1 (by rw [hCf]; exact func15) results15 rfl rfl rfl rfl rfl rfl (hR _ _ _ ?_)
        exact ⟨rfl, by simp only [hins, hloc]; rfl⟩
      | false =>
        repeat (first | refine Run.seq ?_ | refine Run.region ?_ | refine Ops.nil ?_ | refine Run.skip ?_ | refine Run.cond_f rfl ?_ | refine Ops.loadN 0 rfl (by decide) rfl rfl (T.aggOk rfl) (T.sizeOk rfl) rfl rfl ?_ | refine Ops.store 1 rfl rfl rfl rfl rfl (T.sizeOk rfl) rfl (Nat.le_of_ble_eq_true rfl) rfl rfl ?_)
        refine Run.retC T 1 (by rw [hCf]; exact func15) results15 rfl rfl rfl rfl rfl rfl (hR _ _ _ ?_)
        exact ⟨rfl, by simp only [hins, hloc]; rfl⟩
  · skip
    refine Spec.enter 73 [(0, _), (1, _), (2, _), (3, _), (4, _), (5, _)] func15 rfl ntmps15 (by simp) rfl ?_
    intro C hCf hR hCI
    repeat (first | refine Run.seq ?_ | refine Run.region ?_)
    refine Ops.box rfl (by decide) rfl rfl (fun b1 => ?_)
    refine Ops.alloc rfl (by decide) (T.zeroOk rfl) rfl (fun b2 => ?_)
    repeat (first | refine Run.seq ?_ | refine Run.region ?_ | refine Ops.nil ?_ | refine Ops.pure T rfl (by decide) rfl ?_)
    refine Ops.buildL (vs := [(0, .int .i64 4), (1, str r), (2, str p), (3, str id), (5, str text), (6, str [104, 116, 116, 112, 115])]) (cs := [.int .i64 4, str r, str p, str id, str [], str text, str [104, 116, 116, 112, 115], str [], str [], str [], str []]) bd26 rfl (by decide) (by kernel_rfl) (by kernel_rfl) ?_
    refine Ops.alloc rfl (by decide) (T.zeroOk rfl) rfl (fun b3 => ?_)
    repeat (first | refine Run.seq ?_ | refine Run.region ?_ | refine Ops.nil ?_ | refine Run.block ?_ | refine Run.inBlock ?_ | refine Run.cond_t rfl ?_ | refine Run.cond_f rfl ?_ | refine Ops.cat rfl (by decide) rfl rfl (by first | omega | (simp only [List.length_cons, List.length_nil] ; omega) | (simp; omega)) ?_ | refine Ops.eql rfl (by decide) rfl rfl ?_ | refine Ops.geq rfl (by decide) rfl rfl ?_ | refine Ops.pure T rfl (by decide) rfl ?_ | refine Ops.load 2 rfl (by decide) rfl rfl (T.aggOk rfl) rfl ?_ | refine Ops.store 0 rfl rfl rfl rfl rfl (T.sizeOk rfl) rfl (Nat.le_of_ble_eq_true rfl) rfl rfl ?_)
    refine Ops.own (L' := [(b3, blk [.int .i64 4, str r, str p, str id, str (repoT r p ++ [64] ++ id), str text, str [104, 116, 116, 112, 115], str (scopeT p), str (repoT r p), str (repoT r p), str r] 26), (b2, blk [.int .i64 0, str [], str [], str [], str [], str [], str [], str [], str [], str [], str []] 26), (b1, blk [.bool st, .bool ins, str reg, str tag] 30)]) (by kernel_rfl) ?_
    cases hins : ins with
    | true =>
      repeat (first | refine Run.seq ?_ | refine Run.region ?_ | refine Ops.nil ?_ | refine Run.cond_t rfl ?_ | refine Ops.not rfl (by decide) ?_ | refine Ops.pure T rfl (by decide) rfl ?_ | refine Ops.loadN 0 rfl (by decide) rfl rfl (T.aggOk rfl) (T.sizeOk rfl) rfl rfl ?_ | refine Ops.store 0 rfl rfl rfl rfl rfl (T.sizeOk rfl) rfl (Nat.le_of_ble_eq_true rfl) rfl rfl ?_ | refine Ops.store 1 rfl rfl rfl rfl rfl (T.sizeOk rfl) rfl (Nat.le_of_ble_eq_true rfl) rfl rfl ?_)
      refine Run.retC T 1 (by rw [hCf]; exact func15) results15 rfl rfl rfl rfl rfl rfl (hR _ _ _ ?_)
      exact ⟨rfl, by simp only [hins]; rfl⟩
    | false =>
      repeat (first | refine Ops.pure T rfl (by decide) rfl ?_)
      refine Ops.call ((spec_Local I r (by omega))) rfl (by decide) call52 rfl ?_
      rintro _ J3 l3 rfl
      repeat (first | refine Ops.nil ?_ | refine Ops.pure T rfl (by decide) rfl ?_)
      cases hloc : localF r with
      | true =>
        repeat (first | refine Run.seq ?_ | refine Run.region ?_ | refine Ops.nil ?_ | refine Run.cond_t rfl ?_ | refine Ops.pure T rfl (by decide) rfl ?_ | refine Ops.loadN 0 rfl (by decide) rfl rfl (T.aggOk rfl) (T.sizeOk rfl) rfl rfl ?_ | refine Ops.store 0 rfl rfl rfl rfl rfl (T.sizeOk rfl) rfl (Nat.le_of_ble_eq_true rfl) rfl rfl ?_ | refine Ops.store 1 rfl rfl rfl rfl rfl (T.sizeOk rfl) rfl (Nat.le_of_ble_eq_true rfl) rfl rfl ?_)
        refine Run.retC T 1 (by rw [hCf]; exact func15) results15 rfl rfl rfl rfl rfl rfl (hR _ _ _ ?_)
        exact ⟨rfl, by simp only [hins, hloc]; rfl⟩
      | false =>
        repeat (first | refine Run.seq ?_ | refine Run.region ?_ | refine Ops.nil ?_ | refine Run.skip ?_ | refine Run.cond_f rfl ?_ | refine Ops.loadN 0 rfl (by decide) rfl rfl (T.aggOk rfl) (T.sizeOk rfl) rfl rfl ?_ | refine Ops.store 1 rfl rfl rfl rfl rfl (T.sizeOk rfl) rfl (Nat.le_of_ble_eq_true rfl) rfl rfl ?_)
        refine Run.retC T 1 (by rw [hCf]; exact func15) results15 rfl rfl rfl rfl rfl rfl (hR _ _ _ ?_)
        exact ⟨rfl, by simp only [hins, hloc]; rfl⟩
end Go.V
namespace Go.V
set_option linter.unusedVariables false
set_option linter.unusedSimpArgs false
set_option maxRecDepth 10000
theorem plain_len {s : Tx} (h1 : hostPlain s = true) : s.length ≤ 306 := by
  unfold hostPlain at h1
  cases hk : ix 58 s with
  | none =>
    rw [hk] at h1
    simp only [hp, Bool.and_eq_true] at h1
    have := (sWithin_all h1.1).2.2
    omega
  | some k =>
    rw [hk] at h1
    simp only [hp, Bool.and_eq_true] at h1
    have a1 := (sWithin_all h1.1).2.2
    have a2 := (sWithin_all h1.2.1).2.2
    have := ix_lt hk
    simp at a1 a2
    omega
theorem sRepo_len {b : Bool} {reg s r p : Tx} (hr : regOk reg) (h : sRepo b reg s = (r, p, true, false)) : hostPlain r = true ∧ r ≠ [] ∧ p.length ≤ 263 := by
  obtain ⟨g1, g2, g3, g4, g5⟩ := sRepo_ok hr h
  refine ⟨g1.plain, g1.ne, ?_⟩
  rw [g5]
  have := fullP_len r (hostCut s).2
  have := (sWithin_all (show sWithin (hostCut s).2 (smallT ++ [47]) 1 255 = true from g4)).2.2
  omega
def PartsOk (r p t : Tx) : Prop := hostPlain r = true ∧ r ≠ [] ∧ p.length ≤ 263 ∧ t.length ≤ 200
theorem sTag_len {o : NOpt} {s r p t : Tx} (hr : regOk o.reg) (ht : o.tag.length ≤ 200) (h : sTag o s = (r, p, t, true, false)) : PartsOk r p t := by
  unfold sTag at h
  split at h
  · split at h
    · rename_i hg
      simp only [Prod.mk.injEq] at h
      obtain ⟨h1, h2, rfl, h4, h5⟩ := h
      obtain ⟨g1, g2, g3⟩ := sRepo_len hr (show sRepo o.strict o.reg _ = (r, p, true, false) from Prod.ext h1 (Prod.ext h2 (Prod.ext h4 h5)))
      have := (sWithin_all hg).2.2
      exact ⟨g1, g2, g3, by omega⟩
    · simp at h
  · split at h
    · simp at h
    · simp only [Prod.mk.injEq] at h
      obtain ⟨h1, h2, rfl, h4, h5⟩ := h
      obtain ⟨g1, g2, g3⟩ := sRepo_len hr (show sRepo o.strict o.reg s = (r, p, true, false) from Prod.ext h1 (Prod.ext h2 (Prod.ext h4 h5)))
      refine ⟨g1, g2, g3, ?_⟩
      unfold tagOr
      split
      · decide
      · exact ht
theorem sDig_len {o : NOpt} {s r p t : Tx} (hr : regOk o.reg) (h : sDig o s = (r, p, t, true, false)) : PartsOk r p t := by
  have h0 := (sDig_ok hr h).2.2
  unfold sDig at h
  split at h
  · simp at h
  · split at h
    · split at h
      · rename_i hg
        simp only [Prod.mk.injEq, Bool.or_eq_false_iff] at h
        obtain ⟨h1, h2, rfl, h4, h5, h6⟩ := h
        obtain ⟨g1, g2, g3⟩ := sRepo_len hr (show sRepo o.strict o.reg _ = (r, p, true, false) from Prod.ext h1 (Prod.ext h2 (Prod.ext h4 h5)))
        refine ⟨g1, g2, g3, ?_⟩
        simp only [digGood, Bool.and_eq_true, decide_eq_true_eq] at h0
        omega
      · simp at h
    · simp at h
theorem sParts_len {o : NOpt} {which k : Int} {s r p t : Tx} (hr : regOk o.reg) (ht : o.tag.length ≤ 200) (h : sParts o which s = (k, r, p, t, true, false)) : PartsOk r p t ∧ (k = 1 ∨ k = 2 ∨ k = 3 ∨ k = 4) := by
  unfold sParts at h
  split at h
  · simp only [Prod.mk.injEq] at h
    obtain ⟨rfl, h1, rfl, rfl, h4, h5⟩ := h
    obtain ⟨g1, g2, g3, _⟩ := sReg_ok hr (show sReg o.strict o.reg s = (r, true, false) from Prod.ext h1 (Prod.ext h4 h5))
    exact ⟨⟨g1, g3, by decide, by decide⟩, by decide⟩
  split at h
  · simp only [Prod.mk.injEq] at h
    obtain ⟨rfl, h1, h2, rfl, h4, h5⟩ := h
    obtain ⟨g1, g2, g3⟩ := sRepo_len hr (show sRepo o.strict o.reg s = (r, p, true, false) from Prod.ext h1 (Prod.ext h2 (Prod.ext h4 h5)))
    exact ⟨⟨g1, g2, g3, by decide⟩, by decide⟩
  split at h
  · simp only [Prod.mk.injEq] at h
    obtain ⟨rfl, h1, h2, h3, h4, h5⟩ := h
    exact ⟨sTag_len hr ht (show sTag o s = (r, p, t, true, false) from Prod.ext h1 (Prod.ext h2 (Prod.ext h3 (Prod.ext h4 h5)))), by decide⟩
  split at h
  · simp only [Prod.mk.injEq] at h
    obtain ⟨rfl, h1, h2, h3, h4, h5⟩ := h
    exact ⟨sDig_len hr (show sDig o s = (r, p, t, true, false) from Prod.ext h1 (Prod.ext h2 (Prod.ext h3 (Prod.ext h4 h5)))), by decide⟩
  · simp only at h
    split at h
    · simp only [Prod.mk.injEq] at h
      obtain ⟨rfl, h1, h2, h3, h4, h5⟩ := h
      exact ⟨sDig_len hr (show sDig o s = (r, p, t, true, false) from Prod.ext h1 (Prod.ext h2 (Prod.ext h3 (Prod.ext h4 h5)))), by decide⟩
    · simp only [Prod.mk.injEq] at h
      obtain ⟨rfl, h1, h2, h3, h4, h5⟩ := h
      exact ⟨sTag_len hr ht (show sTag o s = (r, p, t, true, false) from Prod.ext h1 (Prod.ext h2 (Prod.ext h3 (Prod.ext h4 h5)))), by decide⟩
end Go.V
namespace Go.V
open Go.Proofs.Tryz
open Go.RowKit
set_option linter.unusedVariables false
set_option linter.unusedSimpArgs false
set_option maxRecDepth 10000
attribute [local irreducible] Run Ops
theorem spec_registryOf' (I : Imm) (s : Tx) (st ins : Bool) (reg tag : Tx) (hs : s.length ≤ 4620000000000000000) {r : Tx} {ok op : Bool} (hx : sReg st reg s = (r, ok, op)) : Pure prog 11 [str s, .agg (NOpt.mk st ins reg tag).cs.toArray] I fun w J => w = .tuple #[str r, .bool ok, .bool op] := by
  have h := spec_registryOf I s ⟨st, ins, reg, tag⟩ hs
  rw [show sReg (NOpt.mk st ins reg tag).strict (NOpt.mk st ins reg tag).reg s = (r, ok, op) from hx] at h
  exact h
theorem spec_repositoryOf2 (I : Imm) (s : Tx) (st ins : Bool) (reg tag : Tx) (hs : s.length ≤ 4620000000000000000) {r p : Tx} {ok op : Bool} (hx : sRepo st reg s = (r, p, ok, op)) : Pure prog 12 [str s, .agg (NOpt.mk st ins reg tag).cs.toArray] I fun w J => w = .tuple #[str r, str p, .bool ok, .bool op] := by
  have h := spec_repositoryOf I s ⟨st, ins, reg, tag⟩ hs
  rw [show sRepo (NOpt.mk st ins reg tag).strict (NOpt.mk st ins reg tag).reg s = (r, p, ok, op) from hx] at h
  exact h
theorem spec_tagOf' (I : Imm) (s : Tx) (st ins : Bool) (reg tag : Tx) (hs : s.length ≤ 4620000000000000000) {r p t : Tx} {ok op : Bool} (hx : sTag ⟨st, ins, reg, tag⟩ s = (r, p, t, ok, op)) : Pure prog 13 [str s, .agg (NOpt.mk st ins reg tag).cs.toArray] I fun w J => w = .tuple #[str r, str p, str t, .bool ok, .bool op] := by
  have h := spec_tagOf I s ⟨st, ins, reg, tag⟩ hs
  rw [hx] at h
  exact h
theorem spec_digestOf' (I : Imm) (s : Tx) (st ins : Bool) (reg tag : Tx) (hs : s.length ≤ 4620000000000000000) {r p t : Tx} {ok op : Bool} (hx : sDig ⟨st, ins, reg, tag⟩ s = (r, p, t, ok, op)) : Pure prog 14 [str s, .agg (NOpt.mk st ins reg tag).cs.toArray] I fun w J => w = .tuple #[str r, str p, str t, .bool ok, .bool op] := by
  have h := spec_digestOf I s ⟨st, ins, reg, tag⟩ hs
  rw [hx] at h
  exact h
def nrV (x : Nm × Bool × Bool) : Value := .tuple #[.agg x.1.cs.toArray, .bool x.2.1, .bool x.2.2]
set_option maxHeartbeats 8000000 in
theorem spec_NameRead (I : Imm) (s : Tx) (which : Int) (o : NOpt) (hs : s.length ≤ 4620000000000000000) (hro : regOk o.reg) (htl : o.tag.length ≤ 200) (hw : which = 0 ∨ which = 1 ∨ which = 2 ∨ which = 3 ∨ which = 4) :
    Pure prog 5 [str s, .int .i64 which, .agg o.cs.toArray] I fun w J => w = nrV (sRead o which s) := by
  obtain ⟨st, ins, reg, tag⟩ := o
  rcases hw with rfl | rfl | rfl | rfl | rfl
  · skip
    refine Spec.enter 95 [(0, _), (1, _), (2, _)] func5 rfl ntmps5 (by simp) rfl ?_
    intro C hCf hR hCI
    repeat (first | refine Run.seq ?_ | refine Run.region ?_)
    refine Ops.box rfl (by decide) rfl rfl (fun b1 => ?_)
    refine Ops.alloc rfl (by decide) (T.zeroOk rfl) rfl (fun b2 => ?_)
    repeat (first | refine Run.seq ?_ | refine Run.region ?_ | refine Ops.nil ?_ | refine Run.block ?_ | refine Run.cond_f rfl ?_ | refine Ops.eql rfl (by decide) rfl rfl ?_ | refine Ops.pure T rfl (by decide) rfl ?_ | refine Ops.loadN 1 rfl (by decide) rfl rfl (T.aggOk rfl) (T.sizeOk rfl) rfl rfl ?_)
    rcases hx : sTag ⟨st, ins, reg, tag⟩ s with ⟨r, p, t, ok, op⟩
    refine Ops.call ((spec_tagOf' I s st ins reg tag hs hx)) rfl (by decide) call13 rfl ?_
    rintro _ J1 l1 rfl
    repeat (first | refine Run.seq ?_ | refine Run.region ?_ | refine Ops.nil ?_ | refine Ops.pure T rfl (by decide) rfl ?_)
    cases ok with
    | true =>
      repeat (first | refine Run.seq ?_ | refine Run.region ?_ | refine Ops.nil ?_ | refine Run.skip ?_ | refine Run.inBlock ?_ | refine Run.cond_f rfl ?_ | refine Ops.not rfl (by decide) ?_ | refine Ops.pure T rfl (by decide) rfl ?_)
      have hparts : sParts ⟨st, ins, reg, tag⟩ 0 s = (3, r, p, t, true, op) := by
        simp only [sParts, show ¬ (0 : Int) = 1 by decide, show ¬ (0 : Int) = 2 by decide, show ¬ (0 : Int) = 3 by decide, show ¬ (0 : Int) = 4 by decide, if_false, hx]
        rfl
      have hread : sRead ⟨st, ins, reg, tag⟩ 0 s = if !true || op then (Nm.zero, true, op) else (nmd (ins || localF r) 3 r p t s, true, false) := by unfold sRead; rw [hparts]; rfl
      cases op with
      | true =>
        repeat (first | refine Run.seq ?_ | refine Run.region ?_ | refine Ops.nil ?_ | refine Run.cond_t rfl ?_ | refine Ops.pure T rfl (by decide) rfl ?_ | refine Ops.loadN 0 rfl (by decide) rfl rfl (T.aggOk rfl) (T.sizeOk rfl) rfl rfl ?_ | refine Ops.store 0 rfl rfl rfl rfl rfl (T.sizeOk rfl) rfl (Nat.le_of_ble_eq_true rfl) rfl rfl ?_)
        refine Run.retCTT T 0 (by rw [hCf]; exact func5) results5 rfl rfl rfl rfl rfl rfl rfl rfl (hR _ _ _ ?_)
        refine ⟨rfl, ?_⟩
        rw [hread]
        rfl
      | false =>
      obtain ⟨⟨q1, q2, q3, q4⟩, _⟩ := sParts_len hro htl hparts
      have q5 := plain_len q1
      repeat (first | refine Run.seq ?_ | refine Run.region ?_ | refine Run.skip ?_ | refine Run.cond_f rfl ?_ | refine Ops.pure T rfl (by decide) rfl ?_ | refine Ops.loadN 1 rfl (by decide) rfl rfl (T.aggOk rfl) (T.sizeOk rfl) rfl rfl ?_)
      refine Ops.call ((spec_named J1 3 (r) (p) (t) s st ins reg tag (by decide) (by omega) (by omega) (by omega))) rfl (by decide) call15 rfl ?_
      rintro _ J3 l3 rfl
      have hread2 : sRead ⟨st, ins, reg, tag⟩ 0 s = (nmd (ins || localF (r)) 3 (r) (p) (t) s, true, false) := hread
      clear hread
      generalize nmd (ins || localF (r)) 3 (r) (p) (t) s = nm at *
      obtain ⟨n0, n1, n2, n3, n4, n5, n6, n7, n8, n9, n10⟩ := nm
      have hread := hread2
      repeat (first | refine Ops.nil ?_ | refine Ops.pure T rfl (by decide) rfl ?_ | refine Ops.store 0 rfl rfl rfl rfl rfl (T.sizeOk rfl) rfl (Nat.le_of_ble_eq_true rfl) rfl rfl ?_)
      refine Run.retCTT T 0 (by rw [hCf]; exact func5) results5 rfl rfl rfl rfl rfl rfl rfl rfl (hR _ _ _ ?_)
      refine ⟨rfl, ?_⟩
      rw [hread]
      rfl
    | false =>
    cases op with
    | true =>
      have hparts : sParts ⟨st, ins, reg, tag⟩ 0 s = (3, r, p, t, false, true) := by
        simp only [sParts, show ¬ (0 : Int) = 1 by decide, show ¬ (0 : Int) = 2 by decide, show ¬ (0 : Int) = 3 by decide, show ¬ (0 : Int) = 4 by decide, if_false, hx]
        rfl
      have hread : sRead ⟨st, ins, reg, tag⟩ 0 s = (Nm.zero, false, true) := by unfold sRead; rw [hparts]; rfl
      repeat (first | refine Run.seq ?_ | refine Run.region ?_ | refine Ops.nil ?_ | refine Run.skip ?_ | refine Run.inBlock ?_ | refine Run.cond_t rfl ?_ | refine Run.cond_f rfl ?_ | refine Ops.not rfl (by decide) ?_ | refine Ops.pure T rfl (by decide) rfl ?_ | refine Ops.loadN 0 rfl (by decide) rfl rfl (T.aggOk rfl) (T.sizeOk rfl) rfl rfl ?_ | refine Ops.store 0 rfl rfl rfl rfl rfl (T.sizeOk rfl) rfl (Nat.le_of_ble_eq_true rfl) rfl rfl ?_)
      refine Run.retCTT T 0 (by rw [hCf]; exact func5) results5 rfl rfl rfl rfl rfl rfl rfl rfl (hR _ _ _ ?_)
      refine ⟨rfl, ?_⟩
      rw [hread]
      rfl
    | false =>
      repeat (first | refine Run.seq ?_ | refine Run.region ?_ | refine Ops.nil ?_ | refine Run.cond_t rfl ?_ | refine Ops.pure T rfl (by decide) rfl ?_ | refine Ops.loadN 1 rfl (by decide) rfl rfl (T.aggOk rfl) (T.sizeOk rfl) rfl rfl ?_)
      rcases hy : sDig ⟨st, ins, reg, tag⟩ s with ⟨r', p', t', ok, op⟩
      refine Ops.call ((spec_digestOf' J1 s st ins reg tag hs hy)) rfl (by decide) call14 rfl ?_
      rintro _ J2 l2 rfl
      have hparts : sParts ⟨st, ins, reg, tag⟩ 0 s = (4, r', p', t', ok, op) := by
        simp only [sParts, show ¬ (0 : Int) = 1 by decide, show ¬ (0 : Int) = 2 by decide, show ¬ (0 : Int) = 3 by decide, show ¬ (0 : Int) = 4 by decide, if_false, hx, hy]
        rfl
      repeat (first | refine Run.seq ?_ | refine Run.region ?_ | refine Ops.nil ?_ | refine Run.inBlock ?_ | refine Ops.pure T rfl (by decide) rfl ?_)
      have hread : sRead ⟨st, ins, reg, tag⟩ 0 s = if !ok || op then (Nm.zero, ok, op) else (nmd (ins || localF (r')) 4 (r') (p') (t') s, true, false) := by unfold sRead; rw [hparts]; rfl
      cases ok with
      | false =>
        repeat (first | refine Run.seq ?_ | refine Run.region ?_ | refine Ops.nil ?_ | refine Run.cond_t rfl ?_ | refine Ops.not rfl (by decide) ?_ | refine Ops.pure T rfl (by decide) rfl ?_ | refine Ops.loadN 0 rfl (by decide) rfl rfl (T.aggOk rfl) (T.sizeOk rfl) rfl rfl ?_ | refine Ops.store 0 rfl rfl rfl rfl rfl (T.sizeOk rfl) rfl (Nat.le_of_ble_eq_true rfl) rfl rfl ?_)
        refine Run.retCTT T 0 (by rw [hCf]; exact func5) results5 rfl rfl rfl rfl rfl rfl rfl rfl (hR _ _ _ ?_)
        refine ⟨rfl, ?_⟩
        rw [hread]
        rfl
      | true =>
      cases op with
      | true =>
        repeat (first | refine Run.seq ?_ | refine Run.region ?_ | refine Ops.nil ?_ | refine Run.cond_t rfl ?_ | refine Ops.pure T rfl (by decide) rfl ?_ | refine Ops.loadN 0 rfl (by decide) rfl rfl (T.aggOk rfl) (T.sizeOk rfl) rfl rfl ?_ | refine Ops.store 0 rfl rfl rfl rfl rfl (T.sizeOk rfl) rfl (Nat.le_of_ble_eq_true rfl) rfl rfl ?_)
        refine Run.retCTT T 0 (by rw [hCf]; exact func5) results5 rfl rfl rfl rfl rfl rfl rfl rfl (hR _ _ _ ?_)
        refine ⟨rfl, ?_⟩
        rw [hread]
        rfl
      | false =>
      obtain ⟨⟨q1, q2, q3, q4⟩, _⟩ := sParts_len hro htl hparts
      have q5 := plain_len q1
      repeat (first | refine Run.seq ?_ | refine Run.region ?_ | refine Ops.nil ?_ | refine Run.skip ?_ | refine Run.cond_f rfl ?_ | refine Ops.pure T rfl (by decide) rfl ?_ | refine Ops.loadN 1 rfl (by decide) rfl rfl (T.aggOk rfl) (T.sizeOk rfl) rfl rfl ?_)
      refine Ops.call ((spec_named J2 4 (r') (p') (t') s st ins reg tag (by decide) (by omega) (by omega) (by omega))) rfl (by decide) call15 rfl ?_
      rintro _ J3 l3 rfl
      have hread2 : sRead ⟨st, ins, reg, tag⟩ 0 s = (nmd (ins || localF (r')) 4 (r') (p') (t') s, true, false) := hread
      clear hread
      generalize nmd (ins || localF (r')) 4 (r') (p') (t') s = nm at *
      obtain ⟨n0, n1, n2, n3, n4, n5, n6, n7, n8, n9, n10⟩ := nm
      have hread := hread2
      repeat (first | refine Ops.nil ?_ | refine Ops.pure T rfl (by decide) rfl ?_ | refine Ops.store 0 rfl rfl rfl rfl rfl (T.sizeOk rfl) rfl (Nat.le_of_ble_eq_true rfl) rfl rfl ?_)
      refine Run.retCTT T 0 (by rw [hCf]; exact func5) results5 rfl rfl rfl rfl rfl rfl rfl rfl (hR _ _ _ ?_)
      refine ⟨rfl, ?_⟩
      rw [hread]
      rfl
  · skip
    refine Spec.enter 95 [(0, _), (1, _), (2, _)] func5 rfl ntmps5 (by simp) rfl ?_
    intro C hCf hR hCI
    repeat (first | refine Run.seq ?_ | refine Run.region ?_)
    refine Ops.box rfl (by decide) rfl rfl (fun b1 => ?_)
    refine Ops.alloc rfl (by decide) (T.zeroOk rfl) rfl (fun b2 => ?_)
    repeat (first | refine Run.seq ?_ | refine Run.region ?_ | refine Ops.nil ?_ | refine Run.block ?_ | refine Run.cond_t rfl ?_ | refine Ops.eql rfl (by decide) rfl rfl ?_ | refine Ops.pure T rfl (by decide) rfl ?_ | refine Ops.loadN 1 rfl (by decide) rfl rfl (T.aggOk rfl) (T.sizeOk rfl) rfl rfl ?_)
    rcases hx : sReg st reg s with ⟨r, ok, op⟩
    refine Ops.call ((spec_registryOf' I s st ins reg tag hs hx)) rfl (by decide) call11 rfl ?_
    rintro _ J1 l1 rfl
    have hparts : sParts ⟨st, ins, reg, tag⟩ 1 s = (1, r, [], [], ok, op) := by
      simp only [sParts, if_true, hx]
    repeat (first | refine Run.seq ?_ | refine Run.region ?_ | refine Ops.nil ?_ | refine Run.inBlock ?_ | refine Ops.pure T rfl (by decide) rfl ?_)
    have hread : sRead ⟨st, ins, reg, tag⟩ 1 s = if !ok || op then (Nm.zero, ok, op) else (nmd (ins || localF (r)) 1 (r) ([]) ([]) s, true, false) := by unfold sRead; rw [hparts]; rfl
    cases ok with
    | false =>
      repeat (first | refine Run.seq ?_ | refine Run.region ?_ | refine Ops.nil ?_ | refine Run.cond_t rfl ?_ | refine Ops.not rfl (by decide) ?_ | refine Ops.pure T rfl (by decide) rfl ?_ | refine Ops.loadN 0 rfl (by decide) rfl rfl (T.aggOk rfl) (T.sizeOk rfl) rfl rfl ?_ | refine Ops.store 0 rfl rfl rfl rfl rfl (T.sizeOk rfl) rfl (Nat.le_of_ble_eq_true rfl) rfl rfl ?_)
      refine Run.retCTT T 0 (by rw [hCf]; exact func5) results5 rfl rfl rfl rfl rfl rfl rfl rfl (hR _ _ _ ?_)
      refine ⟨rfl, ?_⟩
      rw [hread]
      rfl
    | true =>
    cases op with
    | true =>
      repeat (first | refine Run.seq ?_ | refine Run.region ?_ | refine Ops.nil ?_ | refine Run.cond_t rfl ?_ | refine Ops.pure T rfl (by decide) rfl ?_ | refine Ops.loadN 0 rfl (by decide) rfl rfl (T.aggOk rfl) (T.sizeOk rfl) rfl rfl ?_ | refine Ops.store 0 rfl rfl rfl rfl rfl (T.sizeOk rfl) rfl (Nat.le_of_ble_eq_true rfl) rfl rfl ?_)
      refine Run.retCTT T 0 (by rw [hCf]; exact func5) results5 rfl rfl rfl rfl rfl rfl rfl rfl (hR _ _ _ ?_)
      refine ⟨rfl, ?_⟩
      rw [hread]
      rfl
    | false =>
    obtain ⟨⟨q1, q2, q3, q4⟩, _⟩ := sParts_len hro htl hparts
    have q5 := plain_len q1
    repeat (first | refine Run.seq ?_ | refine Run.region ?_ | refine Ops.nil ?_ | refine Run.skip ?_ | refine Run.cond_f rfl ?_ | refine Ops.pure T rfl (by decide) rfl ?_ | refine Ops.loadN 1 rfl (by decide) rfl rfl (T.aggOk rfl) (T.sizeOk rfl) rfl rfl ?_)
    refine Ops.call ((spec_named J1 1 (r) ([]) ([]) s st ins reg tag (by decide) (by omega) (by omega) (by omega))) rfl (by decide) call15 rfl ?_
    rintro _ J3 l3 rfl
    have hread2 : sRead ⟨st, ins, reg, tag⟩ 1 s = (nmd (ins || localF (r)) 1 (r) ([]) ([]) s, true, false) := hread
    clear hread
    generalize nmd (ins || localF (r)) 1 (r) ([]) ([]) s = nm at *
    obtain ⟨n0, n1, n2, n3, n4, n5, n6, n7, n8, n9, n10⟩ := nm
    have hread := hread2
    repeat (first | refine Ops.nil ?_ | refine Ops.pure T rfl (by decide) rfl ?_ | refine Ops.store 0 rfl rfl rfl rfl rfl (T.sizeOk rfl) rfl (Nat.le_of_ble_eq_true rfl) rfl rfl ?_)
    refine Run.retCTT T 0 (by rw [hCf]; exact func5) results5 rfl rfl rfl rfl rfl rfl rfl rfl (hR _ _ _ ?_)
    refine ⟨rfl, ?_⟩
    rw [hread]
    rfl
  · skip
    refine Spec.enter 95 [(0, _), (1, _), (2, _)] func5 rfl ntmps5 (by simp) rfl ?_
    intro C hCf hR hCI
    repeat (first | refine Run.seq ?_ | refine Run.region ?_)
    refine Ops.box rfl (by decide) rfl rfl (fun b1 => ?_)
    refine Ops.alloc rfl (by decide) (T.zeroOk rfl) rfl (fun b2 => ?_)
    repeat (first | refine Run.seq ?_ | refine Run.region ?_ | refine Ops.nil ?_ | refine Run.block ?_ | refine Run.cond_t rfl ?_ | refine Run.cond_f rfl ?_ | refine Ops.eql rfl (by decide) rfl rfl ?_ | refine Ops.pure T rfl (by decide) rfl ?_ | refine Ops.loadN 1 rfl (by decide) rfl rfl (T.aggOk rfl) (T.sizeOk rfl) rfl rfl ?_)
    rcases hx : sRepo st reg s with ⟨r, p, ok, op⟩
    refine Ops.call ((spec_repositoryOf2 I s st ins reg tag hs hx)) rfl (by decide) call12 rfl ?_
    rintro _ J1 l1 rfl
    have hparts : sParts ⟨st, ins, reg, tag⟩ 2 s = (2, r, p, [], ok, op) := by
      simp only [sParts, show ¬ (2 : Int) = 1 by decide, if_false, if_true, hx]
    repeat (first | refine Run.seq ?_ | refine Run.region ?_ | refine Ops.nil ?_ | refine Run.inBlock ?_ | refine Ops.pure T rfl (by decide) rfl ?_)
    have hread : sRead ⟨st, ins, reg, tag⟩ 2 s = if !ok || op then (Nm.zero, ok, op) else (nmd (ins || localF (r)) 2 (r) (p) ([]) s, true, false) := by unfold sRead; rw [hparts]; rfl
    cases ok with
    | false =>
      repeat (first | refine Run.seq ?_ | refine Run.region ?_ | refine Ops.nil ?_ | refine Run.cond_t rfl ?_ | refine Ops.not rfl (by decide) ?_ | refine Ops.pure T rfl (by decide) rfl ?_ | refine Ops.loadN 0 rfl (by decide) rfl rfl (T.aggOk rfl) (T.sizeOk rfl) rfl rfl ?_ | refine Ops.store 0 rfl rfl rfl rfl rfl (T.sizeOk rfl) rfl (Nat.le_of_ble_eq_true rfl) rfl rfl ?_)
      refine Run.retCTT T 0 (by rw [hCf]; exact func5) results5 rfl rfl rfl rfl rfl rfl rfl rfl (hR _ _ _ ?_)
      refine ⟨rfl, ?_⟩
      rw [hread]
      rfl
    | true =>
    cases op with
    | true =>
      repeat (first | refine Run.seq ?_ | refine Run.region ?_ | refine Ops.nil ?_ | refine Run.cond_t rfl ?_ | refine Ops.pure T rfl (by decide) rfl ?_ | refine Ops.loadN 0 rfl (by decide) rfl rfl (T.aggOk rfl) (T.sizeOk rfl) rfl rfl ?_ | refine Ops.store 0 rfl rfl rfl rfl rfl (T.sizeOk rfl) rfl (Nat.le_of_ble_eq_true rfl) rfl rfl ?_)
      refine Run.retCTT T 0 (by rw [hCf]; exact func5) results5 rfl rfl rfl rfl rfl rfl rfl rfl (hR _ _ _ ?_)
      refine ⟨rfl, ?_⟩
      rw [hread]
      rfl
    | false =>
    obtain ⟨⟨q1, q2, q3, q4⟩, _⟩ := sParts_len hro htl hparts
    have q5 := plain_len q1
    repeat (first | refine Run.seq ?_ | refine Run.region ?_ | refine Ops.nil ?_ | refine Run.skip ?_ | refine Run.cond_f rfl ?_ | refine Ops.pure T rfl (by decide) rfl ?_ | refine Ops.loadN 1 rfl (by decide) rfl rfl (T.aggOk rfl) (T.sizeOk rfl) rfl rfl ?_)
    refine Ops.call ((spec_named J1 2 (r) (p) ([]) s st ins reg tag (by decide) (by omega) (by omega) (by omega))) rfl (by decide) call15 rfl ?_
    rintro _ J3 l3 rfl
    have hread2 : sRead ⟨st, ins, reg, tag⟩ 2 s = (nmd (ins || localF (r)) 2 (r) (p) ([]) s, true, false) := hread
    clear hread
    generalize nmd (ins || localF (r)) 2 (r) (p) ([]) s = nm at *
    obtain ⟨n0, n1, n2, n3, n4, n5, n6, n7, n8, n9, n10⟩ := nm
    have hread := hread2
    repeat (first | refine Ops.nil ?_ | refine Ops.pure T rfl (by decide) rfl ?_ | refine Ops.store 0 rfl rfl rfl rfl rfl (T.sizeOk rfl) rfl (Nat.le_of_ble_eq_true rfl) rfl rfl ?_)
    refine Run.retCTT T 0 (by rw [hCf]; exact func5) results5 rfl rfl rfl rfl rfl rfl rfl rfl (hR _ _ _ ?_)
    refine ⟨rfl, ?_⟩
    rw [hread]
    rfl
  · skip
    refine Spec.enter 95 [(0, _), (1, _), (2, _)] func5 rfl ntmps5 (by simp) rfl ?_
    intro C hCf hR hCI
    repeat (first | refine Run.seq ?_ | refine Run.region ?_)
    refine Ops.box rfl (by decide) rfl rfl (fun b1 => ?_)
    refine Ops.alloc rfl (by decide) (T.zeroOk rfl) rfl (fun b2 => ?_)
    repeat (first | refine Run.seq ?_ | refine Run.region ?_ | refine Ops.nil ?_ | refine Run.block ?_ | refine Run.cond_t rfl ?_ | refine Run.cond_f rfl ?_ | refine Ops.eql rfl (by decide) rfl rfl ?_ | refine Ops.pure T rfl (by decide) rfl ?_ | refine Ops.loadN 1 rfl (by decide) rfl rfl (T.aggOk rfl) (T.sizeOk rfl) rfl rfl ?_)
    rcases hx : sTag ⟨st, ins, reg, tag⟩ s with ⟨r, p, t, ok, op⟩
    refine Ops.call ((spec_tagOf' I s st ins reg tag hs hx)) rfl (by decide) call13 rfl ?_
    rintro _ J1 l1 rfl
    have hparts : sParts ⟨st, ins, reg, tag⟩ 3 s = (3, r, p, t, ok, op) := by
      simp only [sParts, show ¬ (3 : Int) = 1 by decide, show ¬ (3 : Int) = 2 by decide, if_false, if_true, hx]
    repeat (first | refine Run.seq ?_ | refine Run.region ?_ | refine Ops.nil ?_ | refine Run.inBlock ?_ | refine Ops.pure T rfl (by decide) rfl ?_)
    have hread : sRead ⟨st, ins, reg, tag⟩ 3 s = if !ok || op then (Nm.zero, ok, op) else (nmd (ins || localF (r)) 3 (r) (p) (t) s, true, false) := by unfold sRead; rw [hparts]; rfl
    cases ok with
    | false =>
      repeat (first | refine Run.seq ?_ | refine Run.region ?_ | refine Ops.nil ?_ | refine Run.cond_t rfl ?_ | refine Ops.not rfl (by decide) ?_ | refine Ops.pure T rfl (by decide) rfl ?_ | refine Ops.loadN 0 rfl (by decide) rfl rfl (T.aggOk rfl) (T.sizeOk rfl) rfl rfl ?_ | refine Ops.store 0 rfl rfl rfl rfl rfl (T.sizeOk rfl) rfl (Nat.le_of_ble_eq_true rfl) rfl rfl ?_)
      refine Run.retCTT T 0 (by rw [hCf]; exact func5) results5 rfl rfl rfl rfl rfl rfl rfl rfl (hR _ _ _ ?_)
      refine ⟨rfl, ?_⟩
      rw [hread]
      rfl
    | true =>
    cases op with
    | true =>
      repeat (first | refine Run.seq ?_ | refine Run.region ?_ | refine Ops.nil ?_ | refine Run.cond_t rfl ?_ | refine Ops.pure T rfl (by decide) rfl ?_ | refine Ops.loadN 0 rfl (by decide) rfl rfl (T.aggOk rfl) (T.sizeOk rfl) rfl rfl ?_ | refine Ops.store 0 rfl rfl rfl rfl rfl (T.sizeOk rfl) rfl (Nat.le_of_ble_eq_true rfl) rfl rfl ?_)
      refine Run.retCTT T 0 (by rw [hCf]; exact func5) results5 rfl rfl rfl rfl rfl rfl rfl rfl (hR _ _ _ ?_)
      refine ⟨rfl, ?_⟩
      rw [hread]
      rfl
    | false =>
    obtain ⟨⟨q1, q2, q3, q4⟩, _⟩ := sParts_len hro htl hparts
    have q5 := plain_len q1
    repeat (first | refine Run.seq ?_ | refine Run.region ?_ | refine Ops.nil ?_ | refine Run.skip ?_ | refine Run.cond_f rfl ?_ | refine Ops.pure T rfl (by decide) rfl ?_ | refine Ops.loadN 1 rfl (by decide) rfl rfl (T.aggOk rfl) (T.sizeOk rfl) rfl rfl ?_)
    refine Ops.call ((spec_named J1 3 (r) (p) (t) s st ins reg tag (by decide) (by omega) (by omega) (by omega))) rfl (by decide) call15 rfl ?_
    rintro _ J3 l3 rfl
    have hread2 : sRead ⟨st, ins, reg, tag⟩ 3 s = (nmd (ins || localF (r)) 3 (r) (p) (t) s, true, false) := hread
    clear hread
    generalize nmd (ins || localF (r)) 3 (r) (p) (t) s = nm at *
    obtain ⟨n0, n1, n2, n3, n4, n5, n6, n7, n8, n9, n10⟩ := nm
    have hread := hread2
    repeat (first | refine Ops.nil ?_ | refine Ops.pure T rfl (by decide) rfl ?_ | refine Ops.store 0 rfl rfl rfl rfl rfl (T.sizeOk rfl) rfl (Nat.le_of_ble_eq_true rfl) rfl rfl ?_)
    refine Run.retCTT T 0 (by rw [hCf]; exact func5) results5 rfl rfl rfl rfl rfl rfl rfl rfl (hR _ _ _ ?_)
    refine ⟨rfl, ?_⟩
    rw [hread]
    rfl
  · skip
    refine Spec.enter 95 [(0, _), (1, _), (2, _)] func5 rfl ntmps5 (by simp) rfl ?_
    intro C hCf hR hCI
    repeat (first | refine Run.seq ?_ | refine Run.region ?_)
    refine Ops.box rfl (by decide) rfl rfl (fun b1 => ?_)
    refine Ops.alloc rfl (by decide) (T.zeroOk rfl) rfl (fun b2 => ?_)
    repeat (first | refine Run.seq ?_ | refine Run.region ?_ | refine Ops.nil ?_ | refine Run.block ?_ | refine Run.cond_t rfl ?_ | refine Run.cond_f rfl ?_ | refine Ops.eql rfl (by decide) rfl rfl ?_ | refine Ops.pure T rfl (by decide) rfl ?_ | refine Ops.loadN 1 rfl (by decide) rfl rfl (T.aggOk rfl) (T.sizeOk rfl) rfl rfl ?_)
    rcases hx : sDig ⟨st, ins, reg, tag⟩ s with ⟨r, p, t, ok, op⟩
    refine Ops.call ((spec_digestOf' I s st ins reg tag hs hx)) rfl (by decide) call14 rfl ?_
    rintro _ J1 l1 rfl
    have hparts : sParts ⟨st, ins, reg, tag⟩ 4 s = (4, r, p, t, ok, op) := by
      simp only [sParts, show ¬ (4 : Int) = 1 by decide, show ¬ (4 : Int) = 2 by decide, show ¬ (4 : Int) = 3 by decide, if_false, if_true, hx]
    repeat (first | refine Run.seq ?_ | refine Run.region ?_ | refine Ops.nil ?_ | refine Run.inBlock ?_ | refine Ops.pure T rfl (by decide) rfl ?_)
    have hread : sRead ⟨st, ins, reg, tag⟩ 4 s = if !ok || op then (Nm.zero, ok, op) else (nmd (ins || localF (r)) 4 (r) (p) (t) s, true, false) := by unfold sRead; rw [hparts]; rfl
    cases ok with
    | false =>
      repeat (first | refine Run.seq ?_ | refine Run.region ?_ | refine Ops.nil ?_ | refine Run.cond_t rfl ?_ | refine Ops.not rfl (by decide) ?_ | refine Ops.pure T rfl (by decide) rfl ?_ | refine Ops.loadN 0 rfl (by decide) rfl rfl (T.aggOk rfl) (T.sizeOk rfl) rfl rfl ?_ | refine Ops.store 0 rfl rfl rfl rfl rfl (T.sizeOk rfl) rfl (Nat.le_of_ble_eq_true rfl) rfl rfl ?_)
      refine Run.retCTT T 0 (by rw [hCf]; exact func5) results5 rfl rfl rfl rfl rfl rfl rfl rfl (hR _ _ _ ?_)
      refine ⟨rfl, ?_⟩
      rw [hread]
      rfl
    | true =>
    cases op with
    | true =>
      repeat (first | refine Run.seq ?_ | refine Run.region ?_ | refine Ops.nil ?_ | refine Run.cond_t rfl ?_ | refine Ops.pure T rfl (by decide) rfl ?_ | refine Ops.loadN 0 rfl (by decide) rfl rfl (T.aggOk rfl) (T.sizeOk rfl) rfl rfl ?_ | refine Ops.store 0 rfl rfl rfl rfl rfl (T.sizeOk rfl) rfl (Nat.le_of_ble_eq_true rfl) rfl rfl ?_)
      refine Run.retCTT T 0 (by rw [hCf]; exact func5) results5 rfl rfl rfl rfl rfl rfl rfl rfl (hR _ _ _ ?_)
      refine ⟨rfl, ?_⟩
      rw [hread]
      rfl
    | false =>
    obtain ⟨⟨q1, q2, q3, q4⟩, _⟩ := sParts_len hro htl hparts
    have q5 := plain_len q1
    repeat (first | refine Run.seq ?_ | refine Run.region ?_ | refine Ops.nil ?_ | refine Run.skip ?_ | refine Run.cond_f rfl ?_ | refine Ops.pure T rfl (by decide) rfl ?_ | refine Ops.loadN 1 rfl (by decide) rfl rfl (T.aggOk rfl) (T.sizeOk rfl) rfl rfl ?_)
    refine Ops.call ((spec_named J1 4 (r) (p) (t) s st ins reg tag (by decide) (by omega) (by omega) (by omega))) rfl (by decide) call15 rfl ?_
    rintro _ J3 l3 rfl
    have hread2 : sRead ⟨st, ins, reg, tag⟩ 4 s = (nmd (ins || localF (r)) 4 (r) (p) (t) s, true, false) := hread
    clear hread
    generalize nmd (ins || localF (r)) 4 (r) (p) (t) s = nm at *
    obtain ⟨n0, n1, n2, n3, n4, n5, n6, n7, n8, n9, n10⟩ := nm
    have hread := hread2
    repeat (first | refine Ops.nil ?_ | refine Ops.pure T rfl (by decide) rfl ?_ | refine Ops.store 0 rfl rfl rfl rfl rfl (T.sizeOk rfl) rfl (Nat.le_of_ble_eq_true rfl) rfl rfl ?_)
    refine Run.retCTT T 0 (by rw [hCf]; exact func5) results5 rfl rfl rfl rfl rfl rfl rfl rfl (hR _ _ _ ?_)
    refine ⟨rfl, ?_⟩
    rw [hread]
    rfl
end Go.V
namespace Go.V
open Go.Proofs.Tryz
open Go.RowKit
set_option linter.unusedVariables false
set_option linter.unusedSimpArgs false
set_option maxRecDepth 10000
attribute [local irreducible] Run Ops
structure Ask where
  text : Tx
  strict : Bool
  ins : Bool
  reg : Tx
  tag : Tx
def Ask.cs (x : Ask) : List Value := [str x.text, .bool x.strict, .bool x.ins, str x.reg, str x.tag]
def Ask.fits (x : Ask) : Bool := !decide ((2147483647 : Int) < x.text.length) && (!decide ((2147483647 : Int) < x.reg.length) && !decide ((2147483647 : Int) < x.tag.length))
theorem Ask.fits_ok {x : Ask} (h : x.fits = true) : x.text.length ≤ 2147483647 ∧ x.reg.length ≤ 2147483647 ∧ x.tag.length ≤ 2147483647 := by
  simp only [Ask.fits, Bool.and_eq_true, Bool.not_eq_true', decide_eq_false_iff_not] at h
  omega
theorem laws_zzFits33 (I : Imm) (x : Ask) : Pure prog 4 [.agg x.cs.toArray] I fun w J => w = .bool x.fits := by
  obtain ⟨tx, st, ins, reg, tag⟩ := x
  unfold Ask.fits
  refine Spec.enter 15 [(0, _)] func4 rfl ntmps4 (by simp) rfl ?_
  intro C hCf hR hCI
  repeat (first | refine Run.seq ?_ | refine Run.region ?_)
  refine Ops.box rfl (by decide) rfl rfl (fun b1 => ?_)
  repeat (first | refine Run.seq ?_ | refine Run.region ?_ | refine Ops.nil ?_ | refine Ops.gtr rfl (by decide) rfl rfl ?_ | refine Ops.pure T rfl (by decide) rfl ?_ | refine Ops.lenS T rfl (by decide) rfl rfl ?_ | refine Ops.load 0 rfl (by decide) rfl rfl (T.aggOk rfl) rfl ?_)
  cases h1 : decide ((2147483647 : Int) < tx.length) with
  | true =>
    repeat (first | refine Run.seq ?_ | refine Run.region ?_ | refine Ops.nil ?_ | refine Run.cond_t rfl ?_ | refine Ops.pure T rfl (by decide) rfl ?_)
    refine Run.fin (Run.ret1 (by rw [hCf]; exact func4) results4 rfl (hR _ _ _ ?_))
    exact ⟨rfl, by simp [h1]⟩
  | false =>
  repeat (first | refine Run.seq ?_ | refine Run.region ?_ | refine Ops.nil ?_ | refine Run.skip ?_ | refine Run.cond_f rfl ?_ | refine Ops.gtr rfl (by decide) rfl rfl ?_ | refine Ops.pure T rfl (by decide) rfl ?_ | refine Ops.lenS T rfl (by decide) rfl rfl ?_ | refine Ops.load 0 rfl (by decide) rfl rfl (T.aggOk rfl) rfl ?_)
  cases h2 : decide ((2147483647 : Int) < reg.length) with
  | true =>
    repeat (first | refine Run.seq ?_ | refine Run.region ?_ | refine Ops.nil ?_ | refine Run.cond_t rfl ?_ | refine Ops.pure T rfl (by decide) rfl ?_)
    refine Run.fin (Run.ret1 (by rw [hCf]; exact func4) results4 rfl (hR _ _ _ ?_))
    exact ⟨rfl, by simp [h1, h2]⟩
  | false =>
  repeat (first | refine Run.seq ?_ | refine Run.region ?_ | refine Ops.nil ?_ | refine Run.skip ?_ | refine Run.cond_f rfl ?_ | refine Ops.gtr rfl (by decide) rfl rfl ?_ | refine Ops.pure T rfl (by decide) rfl ?_ | refine Ops.lenS T rfl (by decide) rfl rfl ?_ | refine Ops.load 0 rfl (by decide) rfl rfl (T.aggOk rfl) rfl ?_)
  cases h3 : decide ((2147483647 : Int) < tag.length) with
  | true =>
    repeat (first | refine Run.seq ?_ | refine Run.region ?_ | refine Ops.nil ?_ | refine Run.cond_t rfl ?_ | refine Ops.pure T rfl (by decide) rfl ?_)
    refine Run.fin (Run.ret1 (by rw [hCf]; exact func4) results4 rfl (hR _ _ _ ?_))
    exact ⟨rfl, by simp [h1, h2, h3]⟩
  | false =>
    repeat (first | refine Run.seq ?_ | refine Run.region ?_ | refine Ops.nil ?_ | refine Run.skip ?_ | refine Run.cond_f rfl ?_ | refine Ops.pure T rfl (by decide) rfl ?_)
    refine Run.fin (Run.ret1 (by rw [hCf]; exact func4) results4 rfl (hR _ _ _ ?_))
    exact ⟨rfl, by simp [h1, h2, h3]⟩
theorem laws_sameName (I : Imm) (k : Int) (r p id nm tx sa sb sc cn ct rn : Tx) (hr : r.length ≤ 1099511627776) (h : loose r = false → sa = sb) :
    Pure prog 10 [.agg (Nm.mk k r p id nm tx sa sc cn ct rn).cs.toArray, .agg (Nm.mk k r p id nm tx sb sc cn ct rn).cs.toArray] I fun w J => w = .bool true := by
  refine Spec.enter 13 [(0, _), (1, _)] func10 rfl ntmps10 (by simp) rfl ?_
  intro C hCf hR hCI
  repeat (first | refine Run.seq ?_ | refine Run.region ?_)
  refine Ops.box rfl (by decide) rfl rfl (fun b1 => ?_)
  refine Ops.box rfl (by decide) rfl rfl (fun b2 => ?_)
  repeat (first | refine Run.seq ?_ | refine Run.region ?_ | refine Ops.nil ?_ | refine Ops.pure T rfl (by decide) rfl ?_ | refine Ops.load 1 rfl (by decide) rfl rfl (T.aggOk rfl) rfl ?_)
  refine Ops.call ((spec_LooseScheme I r (by omega))) rfl (by decide) call44 rfl ?_
  rintro _ J1 l1 rfl
  cases hl : loose r with
  | true =>
    repeat (first | refine Run.seq ?_ | refine Run.region ?_ | refine Ops.nil ?_ | refine Run.cond_t rfl ?_ | refine Ops.pure T rfl (by decide) rfl ?_ | refine Ops.loadN 0 rfl (by decide) rfl rfl (T.aggOk rfl) (T.sizeOk rfl) rfl rfl ?_ | refine Ops.loadN 1 rfl (by decide) rfl rfl (T.aggOk rfl) (T.sizeOk rfl) rfl rfl ?_ | refine Ops.store 0 rfl rfl rfl rfl rfl (T.sizeOk rfl) rfl (Nat.le_of_ble_eq_true rfl) rfl rfl ?_ | refine Ops.store 1 rfl rfl rfl rfl rfl (T.sizeOk rfl) rfl (Nat.le_of_ble_eq_true rfl) rfl rfl ?_)
    refine Ops.eqlAgg T [26] (by kernel_rfl) rfl rfl (by decide) rfl rfl rfl ?_
    simp only [beq_self_eq_true, Bool.and_self]
    repeat (first | refine Ops.nil ?_ | refine Ops.pure T rfl (by decide) rfl ?_)
    refine Run.fin (Run.ret1 (by rw [hCf]; exact func10) results10 rfl (hR _ _ _ ?_))
    exact ⟨rfl, rfl⟩
  | false =>
    obtain rfl := h hl
    repeat (first | refine Run.seq ?_ | refine Run.region ?_ | refine Ops.nil ?_ | refine Run.skip ?_ | refine Run.cond_f rfl ?_ | refine Ops.loadN 0 rfl (by decide) rfl rfl (T.aggOk rfl) (T.sizeOk rfl) rfl rfl ?_ | refine Ops.loadN 1 rfl (by decide) rfl rfl (T.aggOk rfl) (T.sizeOk rfl) rfl rfl ?_)
    refine Ops.eqlAgg T [26] (by kernel_rfl) rfl rfl (by decide) rfl rfl rfl ?_
    simp only [beq_self_eq_true, Bool.and_self]
    repeat (first | refine Ops.nil ?_ | refine Ops.pure T rfl (by decide) rfl ?_)
    refine Run.fin (Run.ret1 (by rw [hCf]; exact func10) results10 rfl (hR _ _ _ ?_))
    exact ⟨rfl, rfl⟩
theorem nmd_split (k : Int) (r p id : Tx) (hk : k = 1 ∨ k = 2 ∨ k = 3 ∨ k = 4) : ∃ nm, ∃ f : Tx → Tx, ∃ sc cn ct rn, ∀ b text, nmd b k r p id text = Nm.mk k r p id nm (f text) (schemeT b) sc cn ct rn := by
  rcases hk with rfl | rfl | rfl | rfl
  · exact ⟨_, fun _ => _, _, _, _, _, fun _ _ => rfl⟩
  · exact ⟨_, fun _ => _, _, _, _, _, fun _ _ => rfl⟩
  · exact ⟨_, fun t => t, _, _, _, _, fun _ _ => rfl⟩
  · exact ⟨_, fun t => t, _, _, _, _, fun _ _ => rfl⟩
end Go.V
