import Derived.Test.YteppnkblebknnaaGreatDoorUM4
import Derived.Test.YteppnkblebknnaaGreatDoorUM12
set_option linter.unusedVariables false
set_option linter.unusedSimpArgs false
namespace Go.V
open Go.Proofs.Tryz
open Go.RowKit
set_option maxRecDepth 10000
attribute [local irreducible] Run Ops QD
abbrev rdr (v : Value) (i d : Nat) : Obj := blk [v, .int .i64 i, .int .i64 d] 227
theorem drop_at {xs : Bs} {q : Nat} (h : q < xs.length) : xs.drop q = xs.getD q 0 :: xs.drop (q + 1) := by
 rw [List.drop_eq_getElem_cons h]; simp [List.getD_eq_getElem?_getD, h]
set_option maxHeartbeats 4000000 in
theorem reader_blank (I : Imm) (xs : Bs) (v : Value) (db off c r p d : Nat) (hR0 : Rd I v xs db off c) (hp : p ≤ xs.length) (hl : xs.length ≤ 1099511627776) :
  Spec prog 121 [.pointer (some ⟨r, 0, none⟩)] I [(r, rdr v p d)] fun w J M => M = [(r, rdr v (xs.length - (skipB (xs.drop p)).length) d)] ∧ J = I := by
 obtain rfl := hR0.eq
 have hcap := hR0.cap
 refine Spec.enter 71 [(0, _)] func121 rfl ntmps121 (by simp) rfl ?_
 intro C hCf hR hCI
 refine Run.block ?_
 refine Run.rounds (fun m env L J => ∃ q, m = xs.length - q ∧ p ≤ q ∧ q ≤ xs.length ∧ skipB (xs.drop q) = skipB (xs.drop p) ∧ env = [(0, .pointer (some ⟨r, 0, none⟩))] ∧
  L = [(r, rdr (.slice (some ⟨db, off, none⟩) xs.length c) q d)] ∧ J = I) (xs.length - p) ⟨p, rfl, Nat.le_refl _, hp, rfl, rfl, rfl, rfl⟩ ?_
 rintro m env L J ⟨q, rfl, hpq, hq, hs, rfl, rfl, rfl⟩ ih
 by_cases hlt : q < xs.length
 ·have hlt2 : (q : Int) < (xs.length : Int) := by omega
  repeat refine Run.seq ?_
  by_cases c1 : xs.getD q 0 = 32
  ·have hc := c1
   have hA : At J db (off + ((q : Int)).toNat * 1) [.int .u8 32] := by have := hR0.at' q hlt; rw [hc] at this; exact this
   refine Run.regionQ (D := [some 2, some 3, some 4, some 5, some 6, some 7, some 8, some 9, some 10, some 11, some 12, some 13, some 14, some 15, some 16, some 17, some 18, some 19, some 20, some 21, some 22, some 23, some 24, some 25, some 26, some 27, some 28, some 29, some 30, some 31, some 32, some 33, some 34, some 35, some 36, some 37, some 38, some 39, some 40, some 41, some 42, some 43, some 44, some 45, some 46, some 47, some 48, some 49, some 50, some 51, some 52, some 53, some 54, some 55, some 56, some 57, some 58, some 59, some 60, some 61, some 62, some 63]) [true, true, true, true, true, true, true, true, true, true, true, true, true, true, true, true, true, true, true, true, true, true, true, true, true, true, true, true, true, true, true, true, true, true, true, true, true, true, true, true, true, true, true, true, true, true, true, true, true, true, true, true, true, true, true, true, true, true, true, true, true, true] (bl 62 4611686018427387903) (by kernel_rfl) (by kernel_rfl) (by kernel_rfl) (by kernel_rfl) rfl (fun Z hZ => ?_)
   iterate 3 refine q1 dc rfl rfl ?_
   refine QD.yv dc rfl (Yv.load 0 T rfl rfl rfl rfl) ?_
   iterate 3 refine q1 dc rfl rfl ?_
   refine QD.yv dc rfl (Yv.load 0 T rfl rfl rfl rfl) ?_
   refine q1 dc rfl rfl ?_
   refine qt (Ev.lss rfl rfl) hlt2 dc rfl ?_
   iterate 4 refine q1 dc rfl rfl ?_
   refine QD.yv dc rfl (Yv.load 0 T rfl rfl rfl rfl) ?_
   iterate 3 refine q1 dc rfl rfl ?_
   refine QD.yv dc rfl (Yv.load 0 T rfl rfl rfl rfl) ?_
   refine QD.e (Ev.indexS T rfl rfl rfl rfl om om) dc rfl ?_
   refine QD.yv dc rfl (Yv.loadI T hA rfl rfl) ?_
   refine QD.e (Ev.eqlI rfl rfl) dc rfl ?_
   refine q1 dc rfl rfl ?_
   iterate 11 refine QD.off dc rfl ?_
   iterate 2 refine q1 dc rfl rfl ?_
   iterate 11 refine QD.off dc rfl ?_
   iterate 2 refine q1 dc rfl rfl ?_
   iterate 11 refine QD.off dc rfl ?_
   iterate 2 refine q1 dc rfl rfl ?_
   refine QD.nil (hZ _ ?_)
   clear hZ Z
   repeat (first | refine Run.skip ?_ | refine Run.block ?_ | refine Run.cond_t rfl ?_)
   refine Run.regionP (D := [some 64, some 65, some 66, some 67, some 68, some 69, some 70, none]) [true, true, true, true, true, true, true] 7 rfl rfl rfl (by simp only [List.drop_succ_cons, List.drop_zero]; rfl) (fun Z hZ => ?_)
   iterate 3 refine q1 dc rfl rfl ?_
   refine QD.yv dc rfl (Yv.load 0 T rfl rfl rfl rfl) ?_
   refine QD.e (Ev.addK (r := ((q + 1 : Nat) : Int)) rfl rfl (by rw [wI (by omega) (by omega)]; omega)) dc rfl ?_
   iterate 2 refine q1 dc rfl rfl ?_
   refine QD.nil (hZ _ ?_)
   clear hZ Z
   refine Ops.store 0 rfl rfl rfl rfl rfl (T.sizeOk rfl) rfl (Nat.le_of_ble_eq_true rfl) rfl rfl ?_
   refine Ops.nil ?_
   refine Run.inBlock ?_
   refine Run.keep [0] [_] rfl ?_
   exact ih (xs.length - (q + 1)) _ _ _ (by omega) ⟨q + 1, rfl, by omega, by omega, (by rw [← hs, drop_at hlt, hc]; simp [skipB, isBl]), rfl, rfl, rfl⟩
  by_cases c2 : xs.getD q 0 = 9
  ·have hc := c2
   have hA : At J db (off + ((q : Int)).toNat * 1) [.int .u8 9] := by have := hR0.at' q hlt; rw [hc] at this; exact this
   refine Run.regionQ (D := [some 2, some 3, some 4, some 5, some 6, some 7, some 8, some 9, some 10, some 11, some 12, some 13, some 14, some 15, some 16, some 17, some 18, some 19, some 20, some 21, some 22, some 23, some 24, some 25, some 26, some 27, some 28, some 29, some 30, some 31, some 32, some 33, some 34, some 35, some 36, some 37, some 38, some 39, some 40, some 41, some 42, some 43, some 44, some 45, some 46, some 47, some 48, some 49, some 50, some 51, some 52, some 53, some 54, some 55, some 56, some 57, some 58, some 59, some 60, some 61, some 62, some 63]) [true, true, true, true, true, true, true, true, true, true, true, true, true, true, true, true, true, true, true, true, true, true, true, true, true, true, true, true, true, true, true, true, true, true, true, true, true, true, true, true, true, true, true, true, true, true, true, true, true, true, true, true, true, true, true, true, true, true, true, true, true, true] (bl 62 4611686018427387903) (by kernel_rfl) (by kernel_rfl) (by kernel_rfl) (by kernel_rfl) rfl (fun Z hZ => ?_)
   iterate 3 refine q1 dc rfl rfl ?_
   refine QD.yv dc rfl (Yv.load 0 T rfl rfl rfl rfl) ?_
   iterate 3 refine q1 dc rfl rfl ?_
   refine QD.yv dc rfl (Yv.load 0 T rfl rfl rfl rfl) ?_
   refine q1 dc rfl rfl ?_
   refine qt (Ev.lss rfl rfl) hlt2 dc rfl ?_
   iterate 4 refine q1 dc rfl rfl ?_
   refine QD.yv dc rfl (Yv.load 0 T rfl rfl rfl rfl) ?_
   iterate 3 refine q1 dc rfl rfl ?_
   refine QD.yv dc rfl (Yv.load 0 T rfl rfl rfl rfl) ?_
   refine QD.e (Ev.indexS T rfl rfl rfl rfl om om) dc rfl ?_
   refine QD.yv dc rfl (Yv.loadI T hA rfl rfl) ?_
   refine QD.e (Ev.eqlI rfl rfl) dc rfl ?_
   iterate 4 refine q1 dc rfl rfl ?_
   refine QD.yv dc rfl (Yv.load 0 T rfl rfl rfl rfl) ?_
   iterate 3 refine q1 dc rfl rfl ?_
   refine QD.yv dc rfl (Yv.load 0 T rfl rfl rfl rfl) ?_
   refine QD.e (Ev.indexS T rfl rfl rfl rfl om om) dc rfl ?_
   refine QD.yv dc rfl (Yv.loadI T hA rfl rfl) ?_
   refine QD.e (Ev.eqlI rfl rfl) dc rfl ?_
   iterate 2 refine q1 dc rfl rfl ?_
   iterate 11 refine QD.off dc rfl ?_
   iterate 2 refine q1 dc rfl rfl ?_
   iterate 11 refine QD.off dc rfl ?_
   iterate 2 refine q1 dc rfl rfl ?_
   refine QD.nil (hZ _ ?_)
   clear hZ Z
   repeat (first | refine Run.skip ?_ | refine Run.block ?_ | refine Run.cond_t rfl ?_)
   refine Run.regionP (D := [some 64, some 65, some 66, some 67, some 68, some 69, some 70, none]) [true, true, true, true, true, true, true] 7 rfl rfl rfl (by simp only [List.drop_succ_cons, List.drop_zero]; rfl) (fun Z hZ => ?_)
   iterate 3 refine q1 dc rfl rfl ?_
   refine QD.yv dc rfl (Yv.load 0 T rfl rfl rfl rfl) ?_
   refine QD.e (Ev.addK (r := ((q + 1 : Nat) : Int)) rfl rfl (by rw [wI (by omega) (by omega)]; omega)) dc rfl ?_
   iterate 2 refine q1 dc rfl rfl ?_
   refine QD.nil (hZ _ ?_)
   clear hZ Z
   refine Ops.store 0 rfl rfl rfl rfl rfl (T.sizeOk rfl) rfl (Nat.le_of_ble_eq_true rfl) rfl rfl ?_
   refine Ops.nil ?_
   refine Run.inBlock ?_
   refine Run.keep [0] [_] rfl ?_
   exact ih (xs.length - (q + 1)) _ _ _ (by omega) ⟨q + 1, rfl, by omega, by omega, (by rw [← hs, drop_at hlt, hc]; simp [skipB, isBl]), rfl, rfl, rfl⟩
  by_cases c3 : xs.getD q 0 = 10
  ·have hc := c3
   have hA : At J db (off + ((q : Int)).toNat * 1) [.int .u8 10] := by have := hR0.at' q hlt; rw [hc] at this; exact this
   refine Run.regionQ (D := [some 2, some 3, some 4, some 5, some 6, some 7, some 8, some 9, some 10, some 11, some 12, some 13, some 14, some 15, some 16, some 17, some 18, some 19, some 20, some 21, some 22, some 23, some 24, some 25, some 26, some 27, some 28, some 29, some 30, some 31, some 32, some 33, some 34, some 35, some 36, some 37, some 38, some 39, some 40, some 41, some 42, some 43, some 44, some 45, some 46, some 47, some 48, some 49, some 50, some 51, some 52, some 53, some 54, some 55, some 56, some 57, some 58, some 59, some 60, some 61, some 62, some 63]) [true, true, true, true, true, true, true, true, true, true, true, true, true, true, true, true, true, true, true, true, true, true, true, true, true, true, true, true, true, true, true, true, true, true, true, true, true, true, true, true, true, true, true, true, true, true, true, true, true, true, true, true, true, true, true, true, true, true, true, true, true, true] (bl 62 4611686018427387903) (by kernel_rfl) (by kernel_rfl) (by kernel_rfl) (by kernel_rfl) rfl (fun Z hZ => ?_)
   iterate 3 refine q1 dc rfl rfl ?_
   refine QD.yv dc rfl (Yv.load 0 T rfl rfl rfl rfl) ?_
   iterate 3 refine q1 dc rfl rfl ?_
   refine QD.yv dc rfl (Yv.load 0 T rfl rfl rfl rfl) ?_
   refine q1 dc rfl rfl ?_
   refine qt (Ev.lss rfl rfl) hlt2 dc rfl ?_
   iterate 4 refine q1 dc rfl rfl ?_
   refine QD.yv dc rfl (Yv.load 0 T rfl rfl rfl rfl) ?_
   iterate 3 refine q1 dc rfl rfl ?_
   refine QD.yv dc rfl (Yv.load 0 T rfl rfl rfl rfl) ?_
   refine QD.e (Ev.indexS T rfl rfl rfl rfl om om) dc rfl ?_
   refine QD.yv dc rfl (Yv.loadI T hA rfl rfl) ?_
   refine QD.e (Ev.eqlI rfl rfl) dc rfl ?_
   iterate 4 refine q1 dc rfl rfl ?_
   refine QD.yv dc rfl (Yv.load 0 T rfl rfl rfl rfl) ?_
   iterate 3 refine q1 dc rfl rfl ?_
   refine QD.yv dc rfl (Yv.load 0 T rfl rfl rfl rfl) ?_
   refine QD.e (Ev.indexS T rfl rfl rfl rfl om om) dc rfl ?_
   refine QD.yv dc rfl (Yv.loadI T hA rfl rfl) ?_
   refine QD.e (Ev.eqlI rfl rfl) dc rfl ?_
   iterate 5 refine q1 dc rfl rfl ?_
   refine QD.yv dc rfl (Yv.load 0 T rfl rfl rfl rfl) ?_
   iterate 3 refine q1 dc rfl rfl ?_
   refine QD.yv dc rfl (Yv.load 0 T rfl rfl rfl rfl) ?_
   refine QD.e (Ev.indexS T rfl rfl rfl rfl om om) dc rfl ?_
   refine QD.yv dc rfl (Yv.loadI T hA rfl rfl) ?_
   refine QD.e (Ev.eqlI rfl rfl) dc rfl ?_
   iterate 2 refine q1 dc rfl rfl ?_
   iterate 11 refine QD.off dc rfl ?_
   iterate 2 refine q1 dc rfl rfl ?_
   refine QD.nil (hZ _ ?_)
   clear hZ Z
   repeat (first | refine Run.skip ?_ | refine Run.block ?_ | refine Run.cond_t rfl ?_)
   refine Run.regionP (D := [some 64, some 65, some 66, some 67, some 68, some 69, some 70, none]) [true, true, true, true, true, true, true] 7 rfl rfl rfl (by simp only [List.drop_succ_cons, List.drop_zero]; rfl) (fun Z hZ => ?_)
   iterate 3 refine q1 dc rfl rfl ?_
   refine QD.yv dc rfl (Yv.load 0 T rfl rfl rfl rfl) ?_
   refine QD.e (Ev.addK (r := ((q + 1 : Nat) : Int)) rfl rfl (by rw [wI (by omega) (by omega)]; omega)) dc rfl ?_
   iterate 2 refine q1 dc rfl rfl ?_
   refine QD.nil (hZ _ ?_)
   clear hZ Z
   refine Ops.store 0 rfl rfl rfl rfl rfl (T.sizeOk rfl) rfl (Nat.le_of_ble_eq_true rfl) rfl rfl ?_
   refine Ops.nil ?_
   refine Run.inBlock ?_
   refine Run.keep [0] [_] rfl ?_
   exact ih (xs.length - (q + 1)) _ _ _ (by omega) ⟨q + 1, rfl, by omega, by omega, (by rw [← hs, drop_at hlt, hc]; simp [skipB, isBl]), rfl, rfl, rfl⟩
  by_cases c4 : xs.getD q 0 = 13
  ·have hc := c4
   have hA : At J db (off + ((q : Int)).toNat * 1) [.int .u8 13] := by have := hR0.at' q hlt; rw [hc] at this; exact this
   refine Run.regionQ (D := [some 2, some 3, some 4, some 5, some 6, some 7, some 8, some 9, some 10, some 11, some 12, some 13, some 14, some 15, some 16, some 17, some 18, some 19, some 20, some 21, some 22, some 23, some 24, some 25, some 26, some 27, some 28, some 29, some 30, some 31, some 32, some 33, some 34, some 35, some 36, some 37, some 38, some 39, some 40, some 41, some 42, some 43, some 44, some 45, some 46, some 47, some 48, some 49, some 50, some 51, some 52, some 53, some 54, some 55, some 56, some 57, some 58, some 59, some 60, some 61, some 62, some 63]) [true, true, true, true, true, true, true, true, true, true, true, true, true, true, true, true, true, true, true, true, true, true, true, true, true, true, true, true, true, true, true, true, true, true, true, true, true, true, true, true, true, true, true, true, true, true, true, true, true, true, true, true, true, true, true, true, true, true, true, true, true, true] (bl 62 4611686018427387903) (by kernel_rfl) (by kernel_rfl) (by kernel_rfl) (by kernel_rfl) rfl (fun Z hZ => ?_)
   iterate 3 refine q1 dc rfl rfl ?_
   refine QD.yv dc rfl (Yv.load 0 T rfl rfl rfl rfl) ?_
   iterate 3 refine q1 dc rfl rfl ?_
   refine QD.yv dc rfl (Yv.load 0 T rfl rfl rfl rfl) ?_
   refine q1 dc rfl rfl ?_
   refine qt (Ev.lss rfl rfl) hlt2 dc rfl ?_
   iterate 4 refine q1 dc rfl rfl ?_
   refine QD.yv dc rfl (Yv.load 0 T rfl rfl rfl rfl) ?_
   iterate 3 refine q1 dc rfl rfl ?_
   refine QD.yv dc rfl (Yv.load 0 T rfl rfl rfl rfl) ?_
   refine QD.e (Ev.indexS T rfl rfl rfl rfl om om) dc rfl ?_
   refine QD.yv dc rfl (Yv.loadI T hA rfl rfl) ?_
   refine QD.e (Ev.eqlI rfl rfl) dc rfl ?_
   iterate 4 refine q1 dc rfl rfl ?_
   refine QD.yv dc rfl (Yv.load 0 T rfl rfl rfl rfl) ?_
   iterate 3 refine q1 dc rfl rfl ?_
   refine QD.yv dc rfl (Yv.load 0 T rfl rfl rfl rfl) ?_
   refine QD.e (Ev.indexS T rfl rfl rfl rfl om om) dc rfl ?_
   refine QD.yv dc rfl (Yv.loadI T hA rfl rfl) ?_
   refine QD.e (Ev.eqlI rfl rfl) dc rfl ?_
   iterate 5 refine q1 dc rfl rfl ?_
   refine QD.yv dc rfl (Yv.load 0 T rfl rfl rfl rfl) ?_
   iterate 3 refine q1 dc rfl rfl ?_
   refine QD.yv dc rfl (Yv.load 0 T rfl rfl rfl rfl) ?_
   refine QD.e (Ev.indexS T rfl rfl rfl rfl om om) dc rfl ?_
   refine QD.yv dc rfl (Yv.loadI T hA rfl rfl) ?_
   refine QD.e (Ev.eqlI rfl rfl) dc rfl ?_
   iterate 5 refine q1 dc rfl rfl ?_
   refine QD.yv dc rfl (Yv.load 0 T rfl rfl rfl rfl) ?_
   iterate 3 refine q1 dc rfl rfl ?_
   refine QD.yv dc rfl (Yv.load 0 T rfl rfl rfl rfl) ?_
   refine QD.e (Ev.indexS T rfl rfl rfl rfl om om) dc rfl ?_
   refine QD.yv dc rfl (Yv.loadI T hA rfl rfl) ?_
   refine QD.e (Ev.eqlI rfl rfl) dc rfl ?_
   iterate 2 refine q1 dc rfl rfl ?_
   refine QD.nil (hZ _ ?_)
   clear hZ Z
   repeat (first | refine Run.skip ?_ | refine Run.block ?_ | refine Run.cond_t rfl ?_)
   refine Run.regionP (D := [some 64, some 65, some 66, some 67, some 68, some 69, some 70, none]) [true, true, true, true, true, true, true] 7 rfl rfl rfl (by simp only [List.drop_succ_cons, List.drop_zero]; rfl) (fun Z hZ => ?_)
   iterate 3 refine q1 dc rfl rfl ?_
   refine QD.yv dc rfl (Yv.load 0 T rfl rfl rfl rfl) ?_
   refine QD.e (Ev.addK (r := ((q + 1 : Nat) : Int)) rfl rfl (by rw [wI (by omega) (by omega)]; omega)) dc rfl ?_
   iterate 2 refine q1 dc rfl rfl ?_
   refine QD.nil (hZ _ ?_)
   clear hZ Z
   refine Ops.store 0 rfl rfl rfl rfl rfl (T.sizeOk rfl) rfl (Nat.le_of_ble_eq_true rfl) rfl rfl ?_
   refine Ops.nil ?_
   refine Run.inBlock ?_
   refine Run.keep [0] [_] rfl ?_
   exact ih (xs.length - (q + 1)) _ _ _ (by omega) ⟨q + 1, rfl, by omega, by omega, (by rw [← hs, drop_at hlt, hc]; simp [skipB, isBl]), rfl, rfl, rfl⟩
  have hA := hR0.at' q hlt
  have hfin : skipB (xs.drop p) = xs.drop q := by
   have hb : isBl (xs.getD q 0) = false := by simp only [isBl, Bool.or_eq_false_iff, beq_eq_false_iff_ne]; exact ⟨⟨⟨c1, c2⟩, c3⟩, c4⟩
   rw [← hs, drop_at hlt, skipB, List.dropWhile_cons, if_neg (by rw [hb]; decide)]
  have nn : ∀ k : UInt8, xs.getD q 0 ≠ k → ((xs.getD q 0).toNat : Int) ≠ (k.toNat : Int) := fun k h e => h (UInt8.toNat_inj.1 (by omega))
  have n1 := nn _ c1
  have n2 := nn _ c2
  have n3 := nn _ c3
  have n4 := nn _ c4
  generalize xs.getD q 0 = b at hA n1 n2 n3 n4
  refine Run.regionQ (D := [some 2, some 3, some 4, some 5, some 6, some 7, some 8, some 9, some 10, some 11, some 12, some 13, some 14, some 15, some 16, some 17, some 18, some 19, some 20, some 21, some 22, some 23, some 24, some 25, some 26, some 27, some 28, some 29, some 30, some 31, some 32, some 33, some 34, some 35, some 36, some 37, some 38, some 39, some 40, some 41, some 42, some 43, some 44, some 45, some 46, some 47, some 48, some 49, some 50, some 51, some 52, some 53, some 54, some 55, some 56, some 57, some 58, some 59, some 60, some 61, some 62, some 63]) [true, true, true, true, true, true, true, true, true, true, true, true, true, true, true, true, true, true, true, true, true, true, true, true, true, true, true, true, true, true, true, true, true, true, true, true, true, true, true, true, true, true, true, true, true, true, true, true, true, true, true, true, true, true, true, true, true, true, true, true, true, true] (bl 62 4611686018427387903) (by kernel_rfl) (by kernel_rfl) (by kernel_rfl) (by kernel_rfl) rfl (fun Z hZ => ?_)
  iterate 3 refine q1 dc rfl rfl ?_
  refine QD.yv dc rfl (Yv.load 0 T rfl rfl rfl rfl) ?_
  iterate 3 refine q1 dc rfl rfl ?_
  refine QD.yv dc rfl (Yv.load 0 T rfl rfl rfl rfl) ?_
  refine q1 dc rfl rfl ?_
  refine qt (Ev.lss rfl rfl) hlt2 dc rfl ?_
  iterate 4 refine q1 dc rfl rfl ?_
  refine QD.yv dc rfl (Yv.load 0 T rfl rfl rfl rfl) ?_
  iterate 3 refine q1 dc rfl rfl ?_
  refine QD.yv dc rfl (Yv.load 0 T rfl rfl rfl rfl) ?_
  refine QD.e (Ev.indexS T rfl rfl rfl rfl om om) dc rfl ?_
  refine QD.yv dc rfl (Yv.loadI T hA rfl rfl) ?_
  refine qf (Ev.eqlI rfl rfl) n1 dc rfl ?_
  iterate 4 refine q1 dc rfl rfl ?_
  refine QD.yv dc rfl (Yv.load 0 T rfl rfl rfl rfl) ?_
  iterate 3 refine q1 dc rfl rfl ?_
  refine QD.yv dc rfl (Yv.load 0 T rfl rfl rfl rfl) ?_
  refine QD.e (Ev.indexS T rfl rfl rfl rfl om om) dc rfl ?_
  refine QD.yv dc rfl (Yv.loadI T hA rfl rfl) ?_
  refine qf (Ev.eqlI rfl rfl) n2 dc rfl ?_
  iterate 5 refine q1 dc rfl rfl ?_
  refine QD.yv dc rfl (Yv.load 0 T rfl rfl rfl rfl) ?_
  iterate 3 refine q1 dc rfl rfl ?_
  refine QD.yv dc rfl (Yv.load 0 T rfl rfl rfl rfl) ?_
  refine QD.e (Ev.indexS T rfl rfl rfl rfl om om) dc rfl ?_
  refine QD.yv dc rfl (Yv.loadI T hA rfl rfl) ?_
  refine qf (Ev.eqlI rfl rfl) n3 dc rfl ?_
  iterate 5 refine q1 dc rfl rfl ?_
  refine QD.yv dc rfl (Yv.load 0 T rfl rfl rfl rfl) ?_
  iterate 3 refine q1 dc rfl rfl ?_
  refine QD.yv dc rfl (Yv.load 0 T rfl rfl rfl rfl) ?_
  refine QD.e (Ev.indexS T rfl rfl rfl rfl om om) dc rfl ?_
  refine QD.yv dc rfl (Yv.loadI T hA rfl rfl) ?_
  refine qf (Ev.eqlI rfl rfl) n4 dc rfl ?_
  iterate 2 refine q1 dc rfl rfl ?_
  refine QD.nil (hZ _ ?_)
  clear hZ Z
  repeat (first | refine Run.exit rfl ?_ | refine Run.cond_f rfl ?_)
  refine Run.end0 (by rw [hCf]; exact func121) results121 (hR _ _ _ ?_)
  refine ⟨?_, rfl⟩
  rw [hfin, List.length_drop, show xs.length - (xs.length - q) = q by omega]
 ·skip
  repeat refine Run.seq ?_
  refine Run.regionQ (D := [some 2, some 3, some 4, some 5, some 6, some 7, some 8, some 9, some 10, some 11, some 12, some 13, some 14, some 15, some 16, some 17, some 18, some 19, some 20, some 21, some 22, some 23, some 24, some 25, some 26, some 27, some 28, some 29, some 30, some 31, some 32, some 33, some 34, some 35, some 36, some 37, some 38, some 39, some 40, some 41, some 42, some 43, some 44, some 45, some 46, some 47, some 48, some 49, some 50, some 51, some 52, some 53, some 54, some 55, some 56, some 57, some 58, some 59, some 60, some 61, some 62, some 63]) [true, true, true, true, true, true, true, true, true, true, true, true, true, true, true, true, true, true, true, true, true, true, true, true, true, true, true, true, true, true, true, true, true, true, true, true, true, true, true, true, true, true, true, true, true, true, true, true, true, true, true, true, true, true, true, true, true, true, true, true, true, true] (bl 62 4611686018427387903) (by kernel_rfl) (by kernel_rfl) (by kernel_rfl) (by kernel_rfl) rfl (fun Z hZ => ?_)
  iterate 3 refine q1 dc rfl rfl ?_
  refine QD.yv dc rfl (Yv.load 0 T rfl rfl rfl rfl) ?_
  iterate 3 refine q1 dc rfl rfl ?_
  refine QD.yv dc rfl (Yv.load 0 T rfl rfl rfl rfl) ?_
  refine q1 dc rfl rfl ?_
  refine qf (Ev.lss rfl rfl) (by omega) dc rfl ?_
  refine q1 dc rfl rfl ?_
  iterate 50 refine QD.off dc rfl ?_
  refine q1 dc rfl rfl ?_
  refine QD.nil (hZ _ ?_)
  clear hZ Z
  repeat (first | refine Run.exit rfl ?_ | refine Run.cond_f rfl ?_)
  refine Run.end0 (by rw [hCf]; exact func121) results121 (hR _ _ _ ?_)
  refine ⟨?_, rfl⟩
  have : q = xs.length := by omega
  rw [← hs, this]; simp [skipB]
end Go.V
