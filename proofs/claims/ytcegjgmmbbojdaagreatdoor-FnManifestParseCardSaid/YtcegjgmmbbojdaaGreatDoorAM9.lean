import Derived.Test.YtcegjgmmbbojdaaGreatDoorAW
import Derived.Test.YtcegjgmmbbojdaaGreatDoorAM4
import Derived.Test.YtcegjgmmbbojdaaGreatDoorAM3
import Derived.Test.YtcegjgmmbbojdaaGreatDoorAM8
set_option linter.unusedVariables false
set_option linter.unusedSimpArgs false
namespace Go.V
open Go.Proofs.Tryz
open Go.RowKit
set_option maxRecDepth 10000
attribute [local irreducible] Run Ops QD
abbrev rdr (v : Value) (i d : Nat) : Obj := blk [v, .int .i64 i, .int .i64 d] 126
theorem drop_at {xs : Bs} {q : Nat} (h : q < xs.length) : xs.drop q = xs.getD q 0 :: xs.drop (q + 1) := by
 rw [List.drop_eq_getElem_cons h]; simp [List.getD_eq_getElem?_getD, h]
set_option maxHeartbeats 4000000 in
theorem reader_blank (I : Imm) (xs : Bs) (v : Value) (db off c r p d : Nat) (hR0 : Rd I v xs db off c) (hp : p <= xs.length) (hl : xs.length <= 1099511627776) :
  Spec prog 56 [.pointer (some ⟨r, 0, none⟩)] I [(r, rdr v p d)] fun w J M => M = [(r, rdr v (xs.length - (skipB (xs.drop p)).length) d)] /\ J = I := by
 obtain rfl := hR0.eq
 have hcap := hR0.cap
 refine Spec.enter 71 [(0, _)] func56 rfl ntmps56 (by simp) rfl ?_
 intro C hCf hR hCI
 refine rB ?_
 refine Run.rounds (fun m env L J => ∃ q, m = xs.length - q /\ p <= q /\ q <= xs.length /\ skipB (xs.drop q) = skipB (xs.drop p) /\ env = [(0, .pointer (some ⟨r, 0, none⟩))] /\
  L = [(r, rdr (.slice (some ⟨db, off, none⟩) xs.length c) q d)] /\ J = I) (xs.length - p) ⟨p, rfl, Nat.le_refl _, hp, rfl, rfl, rfl, rfl⟩ ?_
 rintro m env L J ⟨q, rfl, hpq, hq, hs, rfl, rfl, rfl⟩ ih
 by_cases hlt : q < xs.length
 ·have hlt2 : (q : Int) < (xs.length : Int) := by omega
  repeat refine rS ?_
  by_cases c1 : xs.getD q 0 = 32
  ·have hc := c1
   have hA : At J db (off + ((q : Int)).toNat * 1) [.int .u8 32] := by have := hR0.at' q hlt; rw [hc] at this; exact this
   refine rQ (fun Z hZ => (eE rfl (eE rfl (eE rfl (gY (Yv.load 0 T rfl rfl rfl rfl) (eE rfl (eE rfl (eE rfl (gY (Yv.load 0 T rfl rfl rfl rfl) (eE rfl (kT (Ev.lss rfl rfl) hlt2 ?_)))))))))))
   iterate 4 refine eE rfl ?_
   refine gY (Yv.load 0 T rfl rfl rfl rfl) (eE rfl (eE rfl (eE rfl (gY (Yv.load 0 T rfl rfl rfl rfl) (fE (Ev.indexS T rfl rfl rfl rfl om om) (gY (Yv.loadI T hA rfl rfl) (fE (Ev.eqlI rfl rfl) (eE rfl ?_))))))))
   iterate 11 refine oF ?_
   iterate 2 refine eE rfl ?_
   iterate 11 refine oF ?_
   iterate 2 refine eE rfl ?_
   iterate 11 refine oF ?_
   iterate 2 refine eE rfl ?_
   refine zN hZ ?_
   repeat (first | refine rK ?_ | refine rB ?_ | refine rT rfl ?_)
   refine rP 7 (fun Z hZ => (eE rfl (eE rfl (eE rfl (gY (Yv.load 0 T rfl rfl rfl rfl) (fE (Ev.addK (r := ((q + 1 : Nat) : Int)) rfl rfl (by rw [wI (by omega) (by omega)]; omega)) (eE rfl (eE rfl (zN hZ ((Ops.store 0 rfl rfl rfl rfl rfl (T.sizeOk rfl) rfl (lb rfl) rfl rfl (Ops.nil (rI (Run.keep [0] [_] rfl ?_))))))))))))))
   exact ih (xs.length - (q + 1)) _ _ _ (by omega) ⟨q + 1, rfl, by omega, by omega, (by rw [<- hs, drop_at hlt, hc]; simp [skipB, isBl]), rfl, rfl, rfl⟩
  by_cases c2 : xs.getD q 0 = 9
  ·have hc := c2
   have hA : At J db (off + ((q : Int)).toNat * 1) [.int .u8 9] := by have := hR0.at' q hlt; rw [hc] at this; exact this
   refine rQ (fun Z hZ => (eE rfl (eE rfl (eE rfl (gY (Yv.load 0 T rfl rfl rfl rfl) (eE rfl (eE rfl (eE rfl (gY (Yv.load 0 T rfl rfl rfl rfl) (eE rfl (kT (Ev.lss rfl rfl) hlt2 ?_)))))))))))
   iterate 4 refine eE rfl ?_
   refine gY (Yv.load 0 T rfl rfl rfl rfl) (eE rfl (eE rfl (eE rfl (gY (Yv.load 0 T rfl rfl rfl rfl) (fE (Ev.indexS T rfl rfl rfl rfl om om) (gY (Yv.loadI T hA rfl rfl) (fE (Ev.eqlI rfl rfl) ?_)))))))
   iterate 4 refine eE rfl ?_
   refine gY (Yv.load 0 T rfl rfl rfl rfl) (eE rfl (eE rfl (eE rfl (gY (Yv.load 0 T rfl rfl rfl rfl) (fE (Ev.indexS T rfl rfl rfl rfl om om) (gY (Yv.loadI T hA rfl rfl) (fE (Ev.eqlI rfl rfl) (eE rfl (eE rfl ?_)))))))))
   iterate 11 refine oF ?_
   iterate 2 refine eE rfl ?_
   iterate 11 refine oF ?_
   iterate 2 refine eE rfl ?_
   refine zN hZ ?_
   repeat (first | refine rK ?_ | refine rB ?_ | refine rT rfl ?_)
   refine rP 7 (fun Z hZ => (eE rfl (eE rfl (eE rfl (gY (Yv.load 0 T rfl rfl rfl rfl) (fE (Ev.addK (r := ((q + 1 : Nat) : Int)) rfl rfl (by rw [wI (by omega) (by omega)]; omega)) (eE rfl (eE rfl (zN hZ ((Ops.store 0 rfl rfl rfl rfl rfl (T.sizeOk rfl) rfl (lb rfl) rfl rfl (Ops.nil (rI (Run.keep [0] [_] rfl ?_))))))))))))))
   exact ih (xs.length - (q + 1)) _ _ _ (by omega) ⟨q + 1, rfl, by omega, by omega, (by rw [<- hs, drop_at hlt, hc]; simp [skipB, isBl]), rfl, rfl, rfl⟩
  by_cases c3 : xs.getD q 0 = 10
  ·have hc := c3
   have hA : At J db (off + ((q : Int)).toNat * 1) [.int .u8 10] := by have := hR0.at' q hlt; rw [hc] at this; exact this
   refine rQ (fun Z hZ => (eE rfl (eE rfl (eE rfl (gY (Yv.load 0 T rfl rfl rfl rfl) (eE rfl (eE rfl (eE rfl (gY (Yv.load 0 T rfl rfl rfl rfl) (eE rfl (kT (Ev.lss rfl rfl) hlt2 ?_)))))))))))
   iterate 4 refine eE rfl ?_
   refine gY (Yv.load 0 T rfl rfl rfl rfl) (eE rfl (eE rfl (eE rfl (gY (Yv.load 0 T rfl rfl rfl rfl) (fE (Ev.indexS T rfl rfl rfl rfl om om) (gY (Yv.loadI T hA rfl rfl) (fE (Ev.eqlI rfl rfl) ?_)))))))
   iterate 4 refine eE rfl ?_
   refine gY (Yv.load 0 T rfl rfl rfl rfl) (eE rfl (eE rfl (eE rfl (gY (Yv.load 0 T rfl rfl rfl rfl) (fE (Ev.indexS T rfl rfl rfl rfl om om) (gY (Yv.loadI T hA rfl rfl) (fE (Ev.eqlI rfl rfl) ?_)))))))
   iterate 5 refine eE rfl ?_
   refine gY (Yv.load 0 T rfl rfl rfl rfl) (eE rfl (eE rfl (eE rfl (gY (Yv.load 0 T rfl rfl rfl rfl) (fE (Ev.indexS T rfl rfl rfl rfl om om) (gY (Yv.loadI T hA rfl rfl) (fE (Ev.eqlI rfl rfl) (eE rfl (eE rfl ?_)))))))))
   iterate 11 refine oF ?_
   iterate 2 refine eE rfl ?_
   refine zN hZ ?_
   repeat (first | refine rK ?_ | refine rB ?_ | refine rT rfl ?_)
   refine rP 7 (fun Z hZ => (eE rfl (eE rfl (eE rfl (gY (Yv.load 0 T rfl rfl rfl rfl) (fE (Ev.addK (r := ((q + 1 : Nat) : Int)) rfl rfl (by rw [wI (by omega) (by omega)]; omega)) (eE rfl (eE rfl (zN hZ ((Ops.store 0 rfl rfl rfl rfl rfl (T.sizeOk rfl) rfl (lb rfl) rfl rfl (Ops.nil (rI (Run.keep [0] [_] rfl ?_))))))))))))))
   exact ih (xs.length - (q + 1)) _ _ _ (by omega) ⟨q + 1, rfl, by omega, by omega, (by rw [<- hs, drop_at hlt, hc]; simp [skipB, isBl]), rfl, rfl, rfl⟩
  by_cases c4 : xs.getD q 0 = 13
  ·have hc := c4
   have hA : At J db (off + ((q : Int)).toNat * 1) [.int .u8 13] := by have := hR0.at' q hlt; rw [hc] at this; exact this
   refine rQ (fun Z hZ => (eE rfl (eE rfl (eE rfl (gY (Yv.load 0 T rfl rfl rfl rfl) (eE rfl (eE rfl (eE rfl (gY (Yv.load 0 T rfl rfl rfl rfl) (eE rfl (kT (Ev.lss rfl rfl) hlt2 ?_)))))))))))
   iterate 4 refine eE rfl ?_
   refine gY (Yv.load 0 T rfl rfl rfl rfl) (eE rfl (eE rfl (eE rfl (gY (Yv.load 0 T rfl rfl rfl rfl) (fE (Ev.indexS T rfl rfl rfl rfl om om) (gY (Yv.loadI T hA rfl rfl) (fE (Ev.eqlI rfl rfl) ?_)))))))
   iterate 4 refine eE rfl ?_
   refine gY (Yv.load 0 T rfl rfl rfl rfl) (eE rfl (eE rfl (eE rfl (gY (Yv.load 0 T rfl rfl rfl rfl) (fE (Ev.indexS T rfl rfl rfl rfl om om) (gY (Yv.loadI T hA rfl rfl) (fE (Ev.eqlI rfl rfl) ?_)))))))
   iterate 5 refine eE rfl ?_
   refine gY (Yv.load 0 T rfl rfl rfl rfl) (eE rfl (eE rfl (eE rfl (gY (Yv.load 0 T rfl rfl rfl rfl) (fE (Ev.indexS T rfl rfl rfl rfl om om) (gY (Yv.loadI T hA rfl rfl) (fE (Ev.eqlI rfl rfl) ?_)))))))
   iterate 5 refine eE rfl ?_
   refine gY (Yv.load 0 T rfl rfl rfl rfl) (eE rfl (eE rfl (eE rfl (gY (Yv.load 0 T rfl rfl rfl rfl) (fE (Ev.indexS T rfl rfl rfl rfl om om) (gY (Yv.loadI T hA rfl rfl) (fE (Ev.eqlI rfl rfl) (eE rfl (eE rfl (zN hZ ?_))))))))))
   repeat (first | refine rK ?_ | refine rB ?_ | refine rT rfl ?_)
   refine rP 7 (fun Z hZ => (eE rfl (eE rfl (eE rfl (gY (Yv.load 0 T rfl rfl rfl rfl) (fE (Ev.addK (r := ((q + 1 : Nat) : Int)) rfl rfl (by rw [wI (by omega) (by omega)]; omega)) (eE rfl (eE rfl (zN hZ ((Ops.store 0 rfl rfl rfl rfl rfl (T.sizeOk rfl) rfl (lb rfl) rfl rfl (Ops.nil (rI (Run.keep [0] [_] rfl ?_))))))))))))))
   exact ih (xs.length - (q + 1)) _ _ _ (by omega) ⟨q + 1, rfl, by omega, by omega, (by rw [<- hs, drop_at hlt, hc]; simp [skipB, isBl]), rfl, rfl, rfl⟩
  have hA := hR0.at' q hlt
  have hfin : skipB (xs.drop p) = xs.drop q := by
   have hb : isBl (xs.getD q 0) = false := by simp only [isBl, Bool.or_eq_false_iff, beq_eq_false_iff_ne]; exact ⟨⟨⟨c1, c2⟩, c3⟩, c4⟩
   rw [<- hs, drop_at hlt, skipB, List.dropWhile_cons, if_neg (by rw [hb]; decide)]
  have nn : ∀ k : UInt8, xs.getD q 0 ≠ k -> ((xs.getD q 0).toNat : Int) ≠ (k.toNat : Int) := fun k h e => h (UInt8.toNat_inj.1 (by omega))
  have n1 := nn _ c1
  have n2 := nn _ c2
  have n3 := nn _ c3
  have n4 := nn _ c4
  generalize xs.getD q 0 = b at hA n1 n2 n3 n4
  refine rQ (fun Z hZ => (eE rfl (eE rfl (eE rfl (gY (Yv.load 0 T rfl rfl rfl rfl) (eE rfl (eE rfl (eE rfl (gY (Yv.load 0 T rfl rfl rfl rfl) (eE rfl (kT (Ev.lss rfl rfl) hlt2 ?_)))))))))))
  iterate 4 refine eE rfl ?_
  refine gY (Yv.load 0 T rfl rfl rfl rfl) (eE rfl (eE rfl (eE rfl (gY (Yv.load 0 T rfl rfl rfl rfl) (fE (Ev.indexS T rfl rfl rfl rfl om om) (gY (Yv.loadI T hA rfl rfl) (kF (Ev.eqlI rfl rfl) n1 ?_)))))))
  iterate 4 refine eE rfl ?_
  refine gY (Yv.load 0 T rfl rfl rfl rfl) (eE rfl (eE rfl (eE rfl (gY (Yv.load 0 T rfl rfl rfl rfl) (fE (Ev.indexS T rfl rfl rfl rfl om om) (gY (Yv.loadI T hA rfl rfl) (kF (Ev.eqlI rfl rfl) n2 ?_)))))))
  iterate 5 refine eE rfl ?_
  refine gY (Yv.load 0 T rfl rfl rfl rfl) (eE rfl (eE rfl (eE rfl (gY (Yv.load 0 T rfl rfl rfl rfl) (fE (Ev.indexS T rfl rfl rfl rfl om om) (gY (Yv.loadI T hA rfl rfl) (kF (Ev.eqlI rfl rfl) n3 ?_)))))))
  iterate 5 refine eE rfl ?_
  refine gY (Yv.load 0 T rfl rfl rfl rfl) (eE rfl (eE rfl (eE rfl (gY (Yv.load 0 T rfl rfl rfl rfl) (fE (Ev.indexS T rfl rfl rfl rfl om om) (gY (Yv.loadI T hA rfl rfl) (kF (Ev.eqlI rfl rfl) n4 (eE rfl (eE rfl (zN hZ ?_))))))))))
  repeat (first | refine Run.exit rfl ?_ | refine rF rfl ?_)
  refine Run.end0 (by rw [hCf]; exact func56) results56 (hR _ _ _ ?_)
  refine ⟨?_, rfl⟩
  rw [hfin, List.length_drop, show xs.length - (xs.length - q) = q by omega]
 ·skip
  repeat refine rS ?_
  refine rQ (fun Z hZ => (eE rfl (eE rfl (eE rfl (gY (Yv.load 0 T rfl rfl rfl rfl) (eE rfl (eE rfl (eE rfl (gY (Yv.load 0 T rfl rfl rfl rfl) (eE rfl (kF (Ev.lss rfl rfl) (by omega) (eE rfl ?_))))))))))))
  iterate 50 refine oF ?_
  refine eE rfl (zN hZ ?_)
  repeat (first | refine Run.exit rfl ?_ | refine rF rfl ?_)
  refine Run.end0 (by rw [hCf]; exact func56) results56 (hR _ _ _ ?_)
  refine ⟨?_, rfl⟩
  have : q = xs.length := by omega
  rw [<- hs, this]; simp [skipB]
end Go.V
