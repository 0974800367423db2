import Derived.Test.YtbalfblfkfbejaaGreatDoorWM5
import Derived.Test.YtbalfblfkfbejaaGreatDoorProg
import Derived.KernelRfl
import Derived.Test.YtbalfblfkfbejaaGreatDoorWM4
namespace Go.V
open Go.Proofs.Tryz
open Go.RowKit
set_option linter.unusedVariables false
set_option linter.unusedSimpArgs false
set_option maxRecDepth 10000
attribute [local irreducible] Run Ops
def Hi.vs (h : Hi) : List Value := [str h.author] ++ tmC h.created ++ [str h.by_, str h.comment, .bool h.empty]
theorem History_to (I : Imm) (h : Hi) : Pure prog 109 [.agg h.cs.toArray] I fun w J => w = .agg h.vs.toArray := by
  obtain ⟨author, by_, comment, created, empty⟩ := h
  refine Spec.enter 15 [(0, _)] func109 rfl ntmps109 (by simp) rfl ?_
  intro C hCf hR hCI
  repeat (first | refine Run.seq ?_ | refine Run.region ?_)
  refine Ops.box rfl (by decide) rfl rfl (fun b1 => ?_)
  refine Ops.alloc rfl (by decide) (T.zeroOk rfl) rfl (fun b2 => ?_)
  repeat (first | refine Run.seq ?_ | refine Ops.nil ?_)
  refine Run.regionAny (Holds I [(b1, blk (Hi.mk author by_ comment created empty).cs 76)]) (bl 13 0) (by kernel_rfl) (by kernel_rfl) ?_
  refine RAny.tk 0 (bl 13 1) rfl (by kernel_rfl) (by decide) (fun W h => h.holds (Le.refl _) (by first | exact mp rfl | exact mq rfl)) (Yld.eval T rfl rfl) ?_
  first | refine RAny.tk 1 (bl 13 3) rfl (by kernel_rfl) (by decide) (fun W h => h.holds (Le.refl _) (by first | exact mp rfl | exact mq rfl)) (Yld.load 0 T rfl rfl rfl rfl rfl) ?_ | refine RAny.tk 1 (bl 13 3) rfl (by kernel_rfl) (by decide) (fun W h => h.holds (Le.refl _) (by first | exact mp rfl | exact mq rfl)) (Yld.load 1 T rfl rfl rfl rfl rfl) ?_ | refine RAny.tk 1 (bl 13 3) rfl (by kernel_rfl) (by decide) (fun W h => h.holds (Le.refl _) (by first | exact mp rfl | exact mq rfl)) (Yld.load 2 T rfl rfl rfl rfl rfl) ?_
  refine RAny.tk 2 (bl 13 7) rfl (by kernel_rfl) (by decide) (fun W h => h.holds (Le.refl _) (by first | exact mp rfl | exact mq rfl)) (Yld.eval T rfl rfl) ?_
  first | refine RAny.tk 3 (bl 13 15) rfl (by kernel_rfl) (by decide) (fun W h => h.holds (Le.refl _) (by first | exact mp rfl | exact mq rfl)) (Yld.load 0 T rfl rfl rfl rfl rfl) ?_ | refine RAny.tk 3 (bl 13 15) rfl (by kernel_rfl) (by decide) (fun W h => h.holds (Le.refl _) (by first | exact mp rfl | exact mq rfl)) (Yld.load 1 T rfl rfl rfl rfl rfl) ?_ | refine RAny.tk 3 (bl 13 15) rfl (by kernel_rfl) (by decide) (fun W h => h.holds (Le.refl _) (by first | exact mp rfl | exact mq rfl)) (Yld.load 2 T rfl rfl rfl rfl rfl) ?_
  refine RAny.tk 4 (bl 13 31) rfl (by kernel_rfl) (by decide) (fun W h => h.holds (Le.refl _) (by first | exact mp rfl | exact mq rfl)) (Yld.eval T rfl rfl) ?_
  first | refine RAny.tk 5 (bl 13 63) rfl (by kernel_rfl) (by decide) (fun W h => h.holds (Le.refl _) (by first | exact mp rfl | exact mq rfl)) (Yld.load 0 T rfl rfl rfl rfl rfl) ?_ | refine RAny.tk 5 (bl 13 63) rfl (by kernel_rfl) (by decide) (fun W h => h.holds (Le.refl _) (by first | exact mp rfl | exact mq rfl)) (Yld.load 1 T rfl rfl rfl rfl rfl) ?_ | refine RAny.tk 5 (bl 13 63) rfl (by kernel_rfl) (by decide) (fun W h => h.holds (Le.refl _) (by first | exact mp rfl | exact mq rfl)) (Yld.load 2 T rfl rfl rfl rfl rfl) ?_
  refine RAny.tk 6 (bl 13 127) rfl (by kernel_rfl) (by decide) (fun W h => h.holds (Le.refl _) (by first | exact mp rfl | exact mq rfl)) (Yld.eval T rfl rfl) ?_
  first | refine RAny.tk 7 (bl 13 255) rfl (by kernel_rfl) (by decide) (fun W h => h.holds (Le.refl _) (by first | exact mp rfl | exact mq rfl)) (Yld.load 0 T rfl rfl rfl rfl rfl) ?_ | refine RAny.tk 7 (bl 13 255) rfl (by kernel_rfl) (by decide) (fun W h => h.holds (Le.refl _) (by first | exact mp rfl | exact mq rfl)) (Yld.load 1 T rfl rfl rfl rfl rfl) ?_ | refine RAny.tk 7 (bl 13 255) rfl (by kernel_rfl) (by decide) (fun W h => h.holds (Le.refl _) (by first | exact mp rfl | exact mq rfl)) (Yld.load 2 T rfl rfl rfl rfl rfl) ?_
  refine RAny.tk 9 (bl 13 767) rfl (by kernel_rfl) (by decide) (fun W h => h.holds (Le.refl _) (by first | exact mp rfl | exact mq rfl)) (Yld.eval T rfl rfl) ?_
  first | refine RAny.tk 10 (bl 13 1791) rfl (by kernel_rfl) (by decide) (fun W h => h.holds (Le.refl _) (by first | exact mp rfl | exact mq rfl)) (Yld.load 0 T rfl rfl rfl rfl rfl) ?_ | refine RAny.tk 10 (bl 13 1791) rfl (by kernel_rfl) (by decide) (fun W h => h.holds (Le.refl _) (by first | exact mp rfl | exact mq rfl)) (Yld.load 1 T rfl rfl rfl rfl rfl) ?_ | refine RAny.tk 10 (bl 13 1791) rfl (by kernel_rfl) (by decide) (fun W h => h.holds (Le.refl _) (by first | exact mp rfl | exact mq rfl)) (Yld.load 2 T rfl rfl rfl rfl rfl) ?_
  refine RAny.on 8 (bl 13 2047) rfl (by kernel_rfl) rfl (by decide) (Eff.call (impl_timeTo I created) call106 rfl fun x1 J1 l1 hx1 => ⟨fun W h => h.holds l1 (by first | exact mp rfl | exact mq rfl), ?_⟩)
  subst hx1
  skip
  refine RAny.tk 11 (bl 13 4095) rfl (by kernel_rfl) (by decide) (fun W h => h.holds l1 (by first | exact mp rfl | exact mq rfl)) (Yld.buildL bd164 rfl rfl rfl) ?_
  refine RAny.os 12 (bl 13 8191) rfl (by kernel_rfl) rfl (Eff.store 0 rfl rfl rfl rfl (T.sizeOk rfl) rfl (Nat.le_of_ble_eq_true rfl) rfl rfl ⟨fun W h => h.holds l1 (by first | exact mp rfl | exact mq rfl), ?_⟩)
  refine RAny.done _ (by kernel_rfl) ?_
  skip
  refine Run.retC T 0 (by rw [hCf]; exact func109) results109 rfl rfl rfl rfl rfl rfl (hR _ _ _ ?_)
  exact ⟨rfl, rfl⟩
end Go.V
namespace Go.V
open Go.Proofs.Tryz
open Go.RowKit
set_option linter.unusedVariables false
set_option linter.unusedSimpArgs false
set_option maxRecDepth 10000
attribute [local irreducible] Run Ops
theorem bd265 : ∀ w ps cells, Instr.fill (([] : List (Nat × Nat))[·]?) (t265.zero.getD undef).cells ps = some cells → (Instr.build 265 ps.toArray).run prog w = .ok (.agg cells) w := by
  intro w ps cells h
  simp only [t265, Option.getD] at h
  have h' : Instr.fill (fun _ => (none : Option (Nat × Nat))) (Value.agg #[]).cells ps = some cells := by rw [← h]; congr 1
  simp [Instr.build, runUnderlying265, zeroValue265, h']
theorem impl_setOf (I : Imm) (xs : Txts) (v : Value) (hS : Sl tStr I v xs) (hlen : xs.length ≤ 2147483647) : Pure prog 132 [v] I fun w J => ∃ m, w = .map m := by
  have hS0 := hS
  obtain ⟨A, c, rfl, hc, hrow⟩ := hS0
  refine Spec.enter 20 [(0, _)] func132 rfl ntmps132 (by simp) rfl ?_
  intro C hCf hR hCI
  repeat (first | refine Run.seq ?_ | refine Run.region ?_ | refine Ops.nil ?_ | refine Ops.eqlNil T rfl (by decide) rfl rfl rfl rfl rfl ?_ | refine Ops.pure T rfl (by decide) rfl ?_)
  cases A with
  | none =>
    repeat (first | refine Run.seq ?_ | refine Run.region ?_ | refine Ops.nil ?_ | refine Run.cond_t rfl ?_ | refine Ops.pure T rfl (by decide) rfl ?_)
    refine Run.fin (Run.ret1 (by rw [hCf]; exact func132) results132 rfl (hR _ _ _ ?_))
    exact ⟨rfl, _, rfl⟩
  | some a =>
    repeat (first | refine Run.seq ?_ | refine Run.region ?_ | refine Run.skip ?_ | refine Run.cond_f rfl ?_)
    refine Ops.makeMap rfl (by decide) (fun b => ?_)
    repeat (first | refine Run.seq ?_ | refine Run.region ?_ | refine Ops.nil ?_ | refine Run.block ?_ | refine Ops.pure T rfl (by decide) rfl ?_)
    refine Run.keep [3, 9, 10, 11] [_, _, _, _] rfl ?_
    refine Run.rounds (fun m env L J => ∃ (i : Nat) (o : Obj) (mp : KV), m = xs.length - i ∧ i ≤ xs.length ∧ Mp o mp ∧ env = [(3, .map (some b)), (9, .slice (some a) xs.length c), (10, .int .i64 xs.length), (11, .int .i64 i)] ∧ L = [(b, o)] ∧ J = I) xs.length
      ⟨0, _, [], by omega, by omega, Mp.new, rfl, rfl, rfl⟩ ?_
    rintro m env L J ⟨i, o, mp, rfl, hi, hM, rfl, rfl, rfl⟩ ih
    repeat (first | refine Run.seq ?_ | refine Run.region ?_ | refine Ops.nil ?_ | refine Ops.lss rfl (by decide) rfl rfl ?_)
    refine Run.cond rfl rfl (fun h => ?_) (fun h => ?_)
    all_goals (try rw [h])
    all_goals (try simp only [decide_eq_true_eq, decide_eq_false_iff_not, Bool.not_eq_true', Bool.not_eq_false', Bool.and_eq_true, Bool.or_eq_true, Bool.and_eq_false_imp, Bool.or_eq_false_iff] at h)
    · skip
      repeat (first | refine Run.seq ?_ | refine Run.region ?_ | refine Run.skip ?_ | refine Run.block ?_)
      refine Ops.indexSl hS rfl (by decide) rfl rfl (T.undOk rfl) (T.sizeOk rfl) (by first | omega | (simp only [List.length_cons, List.length_nil] ; omega) | (simp; omega)) (by first | omega | (simp only [List.length_cons, List.length_nil] ; omega) | (simp; omega)) ?_
      rintro b_ off_ x cs_ hx hr_ hA_
      obtain rfl : cs_ = [_] := hr_
      refine Ops.loadI rfl (by decide) rfl hA_ (T.aggOk rfl) ?_
      repeat (first | refine Run.region ?_ | refine Ops.nil ?_ | refine Ops.pure T rfl (by decide) rfl ?_)
      refine Ops.buildL bd265 rfl (by decide) rfl rfl ?_
      refine Ops.mapSet 0 T hM rfl rfl rfl rfl rfl rfl rfl ?_
      intro o' hM'
      repeat (first | refine Run.region ?_ | refine Ops.nil ?_ | refine Run.inBlock ?_ | refine Ops.add rfl (by decide) rfl rfl (wI (by first | omega | (simp only [List.length_cons, List.length_nil] ; omega) | (simp; omega)) (by first | omega | (simp only [List.length_cons, List.length_nil] ; omega) | (simp; omega))) ?_ | refine Ops.pure T rfl (by decide) rfl ?_)
      refine Run.keep [3, 9, 10, 11] [_, _, _, _] rfl ?_
      exact ih (xs.length - (i + 1)) _ _ _ (by omega) ⟨i + 1, o', _, rfl, by omega, hM', rfl, rfl, rfl⟩
    · have : i = xs.length := by omega
      subst this
      repeat (first | refine Run.seq ?_ | refine Run.region ?_ | refine Ops.nil ?_ | refine Run.exit rfl ?_ | refine Ops.pure T rfl (by decide) rfl ?_)
      refine Run.freeze fun J2 hle hJ => ?_
      refine Run.fin (Run.ret1 (by rw [hCf]; exact func132) results132 rfl (hR _ _ _ ?_))
      exact ⟨rfl, _, rfl⟩
end Go.V
namespace Go.V
open Go.Proofs.Tryz
open Go.RowKit
set_option linter.unusedVariables false
set_option linter.unusedSimpArgs false
set_option maxRecDepth 10000
attribute [local irreducible] Run Ops QD
abbrev rdr (v : Value) (i d : Nat) : Obj := blk [v, .int .i64 i, .int .i64 d] 227
theorem drop_at {xs : Bs} {q : Nat} (h : q < xs.length) : xs.drop q = xs.getD q 0 :: xs.drop (q + 1) := by
  rw [List.drop_eq_getElem_cons h]; simp [List.getD_eq_getElem?_getD, h]
set_option maxHeartbeats 4000000 in
theorem reader_blank (I : Imm) (xs : Bs) (v : Value) (db off c r p d : Nat) (hR0 : Rd I v xs db off c) (hp : p ≤ xs.length) (hl : xs.length ≤ 1099511627776) :
    Spec prog 121 [.pointer (some ⟨r, 0, none⟩)] I [(r, rdr v p d)] fun w J M => M = [(r, rdr v (xs.length - (skipB (xs.drop p)).length) d)] ∧ J = I := by
  obtain rfl := hR0.eq
  have hcap := hR0.cap
  refine Spec.enter 71 [(0, _)] func121 rfl ntmps121 (by simp) rfl ?_
  intro C hCf hR hCI
  repeat (first | refine Run.block ?_)
  refine Run.rounds (fun m env L J => ∃ q, m = xs.length - q ∧ p ≤ q ∧ q ≤ xs.length ∧ skipB (xs.drop q) = skipB (xs.drop p) ∧ env = [(0, .pointer (some ⟨r, 0, none⟩))] ∧
    L = [(r, rdr (.slice (some ⟨db, off, none⟩) xs.length c) q d)] ∧ J = I) (xs.length - p) ⟨p, rfl, Nat.le_refl _, hp, rfl, rfl, rfl, rfl⟩ ?_
  rintro m env L J ⟨q, rfl, hpq, hq, hs, rfl, rfl, rfl⟩ ih
  by_cases hlt : q < xs.length
  · have hlt2 : (q : Int) < (xs.length : Int) := by omega
    repeat (first | refine Run.seq ?_)
    by_cases c1 : xs.getD q 0 = 32
    · have hc := c1
      have hA : At J db (off + ((q : Int)).toNat * 1) [.int .u8 32] := by have := hR0.at' q hlt; rw [hc] at this; exact this
      refine Run.regionQ (D := [some 2, some 3, some 4, some 5, some 6, some 7, some 8, some 9, some 10, some 11, some 12, some 13, some 14, some 15, some 16, some 17, some 18, some 19, some 20, some 21, some 22, some 23, some 24, some 25, some 26, some 27, some 28, some 29, some 30, some 31, some 32, some 33, some 34, some 35, some 36, some 37, some 38, some 39, some 40, some 41, some 42, some 43, some 44, some 45, some 46, some 47, some 48, some 49, some 50, some 51, some 52, some 53, some 54, some 55, some 56, some 57, some 58, some 59, some 60, some 61, some 62, some 63]) [true, true, true, true, true, true, true, true, true, true, true, true, true, true, true, true, true, true, true, true, true, true, true, true, true, true, true, true, true, true, true, true, true, true, true, true, true, true, true, true, true, true, true, true, true, true, true, true, true, true, true, true, true, true, true, true, true, true, true, true, true, true] (bl 62 4611686018427387903) (by kernel_rfl) (by kernel_rfl) (by kernel_rfl) (by kernel_rfl) rfl (fun Z hZ => ?_)
      refine QD.ev T (by decide) rfl rfl ?_
      refine QD.ev T (by decide) rfl rfl ?_
      refine QD.ev T (by decide) rfl rfl ?_
      first | refine QD.yv (by decide) rfl (Yv.load 0 T rfl rfl rfl rfl) ?_ | refine QD.yv (by decide) rfl (Yv.load 1 T rfl rfl rfl rfl) ?_ | refine QD.yv (by decide) rfl (Yv.load 2 T rfl rfl rfl rfl) ?_ | refine QD.yv (by decide) rfl (Yv.loadI T hA rfl rfl) ?_
      refine QD.ev T (by decide) rfl rfl ?_
      refine QD.ev T (by decide) rfl rfl ?_
      refine QD.ev T (by decide) rfl rfl ?_
      first | refine QD.yv (by decide) rfl (Yv.load 0 T rfl rfl rfl rfl) ?_ | refine QD.yv (by decide) rfl (Yv.load 1 T rfl rfl rfl rfl) ?_ | refine QD.yv (by decide) rfl (Yv.load 2 T rfl rfl rfl rfl) ?_ | refine QD.yv (by decide) rfl (Yv.loadI T hA rfl rfl) ?_
      refine QD.ev T (by decide) rfl rfl ?_
      refine QD.e ((Ev.lss rfl rfl).as (show _ = Value.bool true from congrArg Value.bool (decide_eq_true hlt2))) (by decide) rfl ?_
      refine QD.ev T (by decide) rfl rfl ?_
      first | refine QD.ev T (by decide) rfl rfl ?_ | refine QD.off (by decide) rfl ?_
      first | refine QD.ev T (by decide) rfl rfl ?_ | refine QD.off (by decide) rfl ?_
      first | refine QD.ev T (by decide) rfl rfl ?_ | refine QD.off (by decide) rfl ?_
      first | refine QD.yv (by decide) rfl (Yv.load 0 T rfl rfl rfl rfl) ?_ | refine QD.yv (by decide) rfl (Yv.load 1 T rfl rfl rfl rfl) ?_ | refine QD.yv (by decide) rfl (Yv.load 2 T rfl rfl rfl rfl) ?_ | refine QD.yv (by decide) rfl (Yv.loadI T hA rfl rfl) ?_ | refine QD.off (by decide) rfl ?_
      first | refine QD.ev T (by decide) rfl rfl ?_ | refine QD.off (by decide) rfl ?_
      first | refine QD.ev T (by decide) rfl rfl ?_ | refine QD.off (by decide) rfl ?_
      first | refine QD.ev T (by decide) rfl rfl ?_ | refine QD.off (by decide) rfl ?_
      first | refine QD.yv (by decide) rfl (Yv.load 0 T rfl rfl rfl rfl) ?_ | refine QD.yv (by decide) rfl (Yv.load 1 T rfl rfl rfl rfl) ?_ | refine QD.yv (by decide) rfl (Yv.load 2 T rfl rfl rfl rfl) ?_ | refine QD.yv (by decide) rfl (Yv.loadI T hA rfl rfl) ?_ | refine QD.off (by decide) rfl ?_
      first | refine QD.e (Ev.indexS T rfl rfl rfl rfl (by first | omega | (simp only [List.length_cons, List.length_nil] ; omega) | (simp; omega)) (by first | omega | (simp only [List.length_cons, List.length_nil] ; omega) | (simp; omega))) (by decide) rfl ?_ | refine QD.off (by decide) rfl ?_
      first | refine QD.yv (by decide) rfl (Yv.load 0 T rfl rfl rfl rfl) ?_ | refine QD.yv (by decide) rfl (Yv.load 1 T rfl rfl rfl rfl) ?_ | refine QD.yv (by decide) rfl (Yv.load 2 T rfl rfl rfl rfl) ?_ | refine QD.yv (by decide) rfl (Yv.loadI T hA rfl rfl) ?_ | refine QD.off (by decide) rfl ?_
      first | refine QD.e (Ev.eqlI rfl rfl) (by decide) rfl ?_ | refine QD.off (by decide) rfl ?_
      first | refine QD.ev T (by decide) rfl rfl ?_ | refine QD.off (by decide) rfl ?_
      first | refine QD.ev T (by decide) rfl rfl ?_ | refine QD.off (by decide) rfl ?_
      first | refine QD.ev T (by decide) rfl rfl ?_ | refine QD.off (by decide) rfl ?_
      first | refine QD.ev T (by decide) rfl rfl ?_ | refine QD.off (by decide) rfl ?_
      first | refine QD.yv (by decide) rfl (Yv.load 0 T rfl rfl rfl rfl) ?_ | refine QD.yv (by decide) rfl (Yv.load 1 T rfl rfl rfl rfl) ?_ | refine QD.yv (by decide) rfl (Yv.load 2 T rfl rfl rfl rfl) ?_ | refine QD.yv (by decide) rfl (Yv.loadI T hA rfl rfl) ?_ | refine QD.off (by decide) rfl ?_
      first | refine QD.ev T (by decide) rfl rfl ?_ | refine QD.off (by decide) rfl ?_
      first | refine QD.ev T (by decide) rfl rfl ?_ | refine QD.off (by decide) rfl ?_
      first | refine QD.ev T (by decide) rfl rfl ?_ | refine QD.off (by decide) rfl ?_
      first | refine QD.yv (by decide) rfl (Yv.load 0 T rfl rfl rfl rfl) ?_ | refine QD.yv (by decide) rfl (Yv.load 1 T rfl rfl rfl rfl) ?_ | refine QD.yv (by decide) rfl (Yv.load 2 T rfl rfl rfl rfl) ?_ | refine QD.yv (by decide) rfl (Yv.loadI T hA rfl rfl) ?_ | refine QD.off (by decide) rfl ?_
      first | refine QD.e (Ev.indexS T rfl rfl rfl rfl (by first | omega | (simp only [List.length_cons, List.length_nil] ; omega) | (simp; omega)) (by first | omega | (simp only [List.length_cons, List.length_nil] ; omega) | (simp; omega))) (by decide) rfl ?_ | refine QD.off (by decide) rfl ?_
      first | refine QD.yv (by decide) rfl (Yv.load 0 T rfl rfl rfl rfl) ?_ | refine QD.yv (by decide) rfl (Yv.load 1 T rfl rfl rfl rfl) ?_ | refine QD.yv (by decide) rfl (Yv.load 2 T rfl rfl rfl rfl) ?_ | refine QD.yv (by decide) rfl (Yv.loadI T hA rfl rfl) ?_ | refine QD.off (by decide) rfl ?_
      first | refine QD.e (Ev.eqlI rfl rfl) (by decide) rfl ?_ | refine QD.off (by decide) rfl ?_
      first | refine QD.ev T (by decide) rfl rfl ?_ | refine QD.off (by decide) rfl ?_
      first | refine QD.ev T (by decide) rfl rfl ?_ | refine QD.off (by decide) rfl ?_
      first | refine QD.ev T (by decide) rfl rfl ?_ | refine QD.off (by decide) rfl ?_
      first | refine QD.ev T (by decide) rfl rfl ?_ | refine QD.off (by decide) rfl ?_
      first | refine QD.ev T (by decide) rfl rfl ?_ | refine QD.off (by decide) rfl ?_
      first | refine QD.yv (by decide) rfl (Yv.load 0 T rfl rfl rfl rfl) ?_ | refine QD.yv (by decide) rfl (Yv.load 1 T rfl rfl rfl rfl) ?_ | refine QD.yv (by decide) rfl (Yv.load 2 T rfl rfl rfl rfl) ?_ | refine QD.yv (by decide) rfl (Yv.loadI T hA rfl rfl) ?_ | refine QD.off (by decide) rfl ?_
      first | refine QD.ev T (by decide) rfl rfl ?_ | refine QD.off (by decide) rfl ?_
      first | refine QD.ev T (by decide) rfl rfl ?_ | refine QD.off (by decide) rfl ?_
      first | refine QD.ev T (by decide) rfl rfl ?_ | refine QD.off (by decide) rfl ?_
      first | refine QD.yv (by decide) rfl (Yv.load 0 T rfl rfl rfl rfl) ?_ | refine QD.yv (by decide) rfl (Yv.load 1 T rfl rfl rfl rfl) ?_ | refine QD.yv (by decide) rfl (Yv.load 2 T rfl rfl rfl rfl) ?_ | refine QD.yv (by decide) rfl (Yv.loadI T hA rfl rfl) ?_ | refine QD.off (by decide) rfl ?_
      first | refine QD.e (Ev.indexS T rfl rfl rfl rfl (by first | omega | (simp only [List.length_cons, List.length_nil] ; omega) | (simp; omega)) (by first | omega | (simp only [List.length_cons, List.length_nil] ; omega) | (simp; omega))) (by decide) rfl ?_ | refine QD.off (by decide) rfl ?_
      first | refine QD.yv (by decide) rfl (Yv.load 0 T rfl rfl rfl rfl) ?_ | refine QD.yv (by decide) rfl (Yv.load 1 T rfl rfl rfl rfl) ?_ | refine QD.yv (by decide) rfl (Yv.load 2 T rfl rfl rfl rfl) ?_ | refine QD.yv (by decide) rfl (Yv.loadI T hA rfl rfl) ?_ | refine QD.off (by decide) rfl ?_
      first | refine QD.e (Ev.eqlI rfl rfl) (by decide) rfl ?_ | refine QD.off (by decide) rfl ?_
      first | refine QD.ev T (by decide) rfl rfl ?_ | refine QD.off (by decide) rfl ?_
      first | refine QD.ev T (by decide) rfl rfl ?_ | refine QD.off (by decide) rfl ?_
      first | refine QD.ev T (by decide) rfl rfl ?_ | refine QD.off (by decide) rfl ?_
      first | refine QD.ev T (by decide) rfl rfl ?_ | refine QD.off (by decide) rfl ?_
      first | refine QD.ev T (by decide) rfl rfl ?_ | refine QD.off (by decide) rfl ?_
      first | refine QD.yv (by decide) rfl (Yv.load 0 T rfl rfl rfl rfl) ?_ | refine QD.yv (by decide) rfl (Yv.load 1 T rfl rfl rfl rfl) ?_ | refine QD.yv (by decide) rfl (Yv.load 2 T rfl rfl rfl rfl) ?_ | refine QD.yv (by decide) rfl (Yv.loadI T hA rfl rfl) ?_ | refine QD.off (by decide) rfl ?_
      first | refine QD.ev T (by decide) rfl rfl ?_ | refine QD.off (by decide) rfl ?_
      first | refine QD.ev T (by decide) rfl rfl ?_ | refine QD.off (by decide) rfl ?_
      first | refine QD.ev T (by decide) rfl rfl ?_ | refine QD.off (by decide) rfl ?_
      first | refine QD.yv (by decide) rfl (Yv.load 0 T rfl rfl rfl rfl) ?_ | refine QD.yv (by decide) rfl (Yv.load 1 T rfl rfl rfl rfl) ?_ | refine QD.yv (by decide) rfl (Yv.load 2 T rfl rfl rfl rfl) ?_ | refine QD.yv (by decide) rfl (Yv.loadI T hA rfl rfl) ?_ | refine QD.off (by decide) rfl ?_
      first | refine QD.e (Ev.indexS T rfl rfl rfl rfl (by first | omega | (simp only [List.length_cons, List.length_nil] ; omega) | (simp; omega)) (by first | omega | (simp only [List.length_cons, List.length_nil] ; omega) | (simp; omega))) (by decide) rfl ?_ | refine QD.off (by decide) rfl ?_
      first | refine QD.yv (by decide) rfl (Yv.load 0 T rfl rfl rfl rfl) ?_ | refine QD.yv (by decide) rfl (Yv.load 1 T rfl rfl rfl rfl) ?_ | refine QD.yv (by decide) rfl (Yv.load 2 T rfl rfl rfl rfl) ?_ | refine QD.yv (by decide) rfl (Yv.loadI T hA rfl rfl) ?_ | refine QD.off (by decide) rfl ?_
      first | refine QD.e (Ev.eqlI rfl rfl) (by decide) rfl ?_ | refine QD.off (by decide) rfl ?_
      first | refine QD.ev T (by decide) rfl rfl ?_ | refine QD.off (by decide) rfl ?_
      refine QD.ev T (by decide) rfl rfl ?_
      refine QD.nil (hZ _ ?_)
      clear hZ Z
      repeat (first | refine Run.skip ?_ | refine Run.block ?_ | refine Run.cond_t rfl ?_)
      refine Run.regionP (D := [some 64, some 65, some 66, some 67, some 68, some 69, some 70, none]) [true, true, true, true, true, true, true] 7 rfl rfl rfl (by simp only [List.drop_succ_cons, List.drop_zero]; rfl) (fun Z hZ => ?_)
      refine QD.ev T (by decide) rfl rfl ?_
      refine QD.ev T (by decide) rfl rfl ?_
      refine QD.ev T (by decide) rfl rfl ?_
      first | refine QD.yv (by decide) rfl (Yv.load 0 T rfl rfl rfl rfl) ?_ | refine QD.yv (by decide) rfl (Yv.load 1 T rfl rfl rfl rfl) ?_ | refine QD.yv (by decide) rfl (Yv.load 2 T rfl rfl rfl rfl) ?_
      refine QD.e (Ev.addK (r := ((q + 1 : Nat) : Int)) rfl rfl (by rw [wI (by omega) (by omega)]; omega)) (by decide) rfl ?_
      refine QD.ev T (by decide) rfl rfl ?_
      refine QD.ev T (by decide) rfl rfl ?_
      refine QD.nil (hZ _ ?_)
      clear hZ Z
      first | refine Ops.store 0 rfl rfl rfl rfl rfl (T.sizeOk rfl) rfl (Nat.le_of_ble_eq_true rfl) rfl rfl ?_ | refine Ops.store 1 rfl rfl rfl rfl rfl (T.sizeOk rfl) rfl (Nat.le_of_ble_eq_true rfl) rfl rfl ?_ | refine Ops.store 2 rfl rfl rfl rfl rfl (T.sizeOk rfl) rfl (Nat.le_of_ble_eq_true rfl) rfl rfl ?_
      refine Ops.nil ?_
      repeat (first | refine Run.inBlock ?_)
      refine Run.keep [0] [_] rfl ?_
      exact ih (xs.length - (q + 1)) _ _ _ (by omega) ⟨q + 1, rfl, by omega, by omega, (by rw [← hs, drop_at hlt, hc]; simp [skipB, isBl]), rfl, rfl, rfl⟩
    by_cases c2 : xs.getD q 0 = 9
    · have hc := c2
      have hA : At J db (off + ((q : Int)).toNat * 1) [.int .u8 9] := by have := hR0.at' q hlt; rw [hc] at this; exact this
      refine Run.regionQ (D := [some 2, some 3, some 4, some 5, some 6, some 7, some 8, some 9, some 10, some 11, some 12, some 13, some 14, some 15, some 16, some 17, some 18, some 19, some 20, some 21, some 22, some 23, some 24, some 25, some 26, some 27, some 28, some 29, some 30, some 31, some 32, some 33, some 34, some 35, some 36, some 37, some 38, some 39, some 40, some 41, some 42, some 43, some 44, some 45, some 46, some 47, some 48, some 49, some 50, some 51, some 52, some 53, some 54, some 55, some 56, some 57, some 58, some 59, some 60, some 61, some 62, some 63]) [true, true, true, true, true, true, true, true, true, true, true, true, true, true, true, true, true, true, true, true, true, true, true, true, true, true, true, true, true, true, true, true, true, true, true, true, true, true, true, true, true, true, true, true, true, true, true, true, true, true, true, true, true, true, true, true, true, true, true, true, true, true] (bl 62 4611686018427387903) (by kernel_rfl) (by kernel_rfl) (by kernel_rfl) (by kernel_rfl) rfl (fun Z hZ => ?_)
      refine QD.ev T (by decide) rfl rfl ?_
      refine QD.ev T (by decide) rfl rfl ?_
      refine QD.ev T (by decide) rfl rfl ?_
      first | refine QD.yv (by decide) rfl (Yv.load 0 T rfl rfl rfl rfl) ?_ | refine QD.yv (by decide) rfl (Yv.load 1 T rfl rfl rfl rfl) ?_ | refine QD.yv (by decide) rfl (Yv.load 2 T rfl rfl rfl rfl) ?_ | refine QD.yv (by decide) rfl (Yv.loadI T hA rfl rfl) ?_
      refine QD.ev T (by decide) rfl rfl ?_
      refine QD.ev T (by decide) rfl rfl ?_
      refine QD.ev T (by decide) rfl rfl ?_
      first | refine QD.yv (by decide) rfl (Yv.load 0 T rfl rfl rfl rfl) ?_ | refine QD.yv (by decide) rfl (Yv.load 1 T rfl rfl rfl rfl) ?_ | refine QD.yv (by decide) rfl (Yv.load 2 T rfl rfl rfl rfl) ?_ | refine QD.yv (by decide) rfl (Yv.loadI T hA rfl rfl) ?_
      refine QD.ev T (by decide) rfl rfl ?_
      refine QD.e ((Ev.lss rfl rfl).as (show _ = Value.bool true from congrArg Value.bool (decide_eq_true hlt2))) (by decide) rfl ?_
      refine QD.ev T (by decide) rfl rfl ?_
      first | refine QD.ev T (by decide) rfl rfl ?_ | refine QD.off (by decide) rfl ?_
      first | refine QD.ev T (by decide) rfl rfl ?_ | refine QD.off (by decide) rfl ?_
      first | refine QD.ev T (by decide) rfl rfl ?_ | refine QD.off (by decide) rfl ?_
      first | refine QD.yv (by decide) rfl (Yv.load 0 T rfl rfl rfl rfl) ?_ | refine QD.yv (by decide) rfl (Yv.load 1 T rfl rfl rfl rfl) ?_ | refine QD.yv (by decide) rfl (Yv.load 2 T rfl rfl rfl rfl) ?_ | refine QD.yv (by decide) rfl (Yv.loadI T hA rfl rfl) ?_ | refine QD.off (by decide) rfl ?_
      first | refine QD.ev T (by decide) rfl rfl ?_ | refine QD.off (by decide) rfl ?_
      first | refine QD.ev T (by decide) rfl rfl ?_ | refine QD.off (by decide) rfl ?_
      first | refine QD.ev T (by decide) rfl rfl ?_ | refine QD.off (by decide) rfl ?_
      first | refine QD.yv (by decide) rfl (Yv.load 0 T rfl rfl rfl rfl) ?_ | refine QD.yv (by decide) rfl (Yv.load 1 T rfl rfl rfl rfl) ?_ | refine QD.yv (by decide) rfl (Yv.load 2 T rfl rfl rfl rfl) ?_ | refine QD.yv (by decide) rfl (Yv.loadI T hA rfl rfl) ?_ | refine QD.off (by decide) rfl ?_
      first | refine QD.e (Ev.indexS T rfl rfl rfl rfl (by first | omega | (simp only [List.length_cons, List.length_nil] ; omega) | (simp; omega)) (by first | omega | (simp only [List.length_cons, List.length_nil] ; omega) | (simp; omega))) (by decide) rfl ?_ | refine QD.off (by decide) rfl ?_
      first | refine QD.yv (by decide) rfl (Yv.load 0 T rfl rfl rfl rfl) ?_ | refine QD.yv (by decide) rfl (Yv.load 1 T rfl rfl rfl rfl) ?_ | refine QD.yv (by decide) rfl (Yv.load 2 T rfl rfl rfl rfl) ?_ | refine QD.yv (by decide) rfl (Yv.loadI T hA rfl rfl) ?_ | refine QD.off (by decide) rfl ?_
      first | refine QD.e (Ev.eqlI rfl rfl) (by decide) rfl ?_ | refine QD.off (by decide) rfl ?_
      first | refine QD.ev T (by decide) rfl rfl ?_ | refine QD.off (by decide) rfl ?_
      first | refine QD.ev T (by decide) rfl rfl ?_ | refine QD.off (by decide) rfl ?_
      first | refine QD.ev T (by decide) rfl rfl ?_ | refine QD.off (by decide) rfl ?_
      first | refine QD.ev T (by decide) rfl rfl ?_ | refine QD.off (by decide) rfl ?_
      first | refine QD.yv (by decide) rfl (Yv.load 0 T rfl rfl rfl rfl) ?_ | refine QD.yv (by decide) rfl (Yv.load 1 T rfl rfl rfl rfl) ?_ | refine QD.yv (by decide) rfl (Yv.load 2 T rfl rfl rfl rfl) ?_ | refine QD.yv (by decide) rfl (Yv.loadI T hA rfl rfl) ?_ | refine QD.off (by decide) rfl ?_
      first | refine QD.ev T (by decide) rfl rfl ?_ | refine QD.off (by decide) rfl ?_
      first | refine QD.ev T (by decide) rfl rfl ?_ | refine QD.off (by decide) rfl ?_
      first | refine QD.ev T (by decide) rfl rfl ?_ | refine QD.off (by decide) rfl ?_
      first | refine QD.yv (by decide) rfl (Yv.load 0 T rfl rfl rfl rfl) ?_ | refine QD.yv (by decide) rfl (Yv.load 1 T rfl rfl rfl rfl) ?_ | refine QD.yv (by decide) rfl (Yv.load 2 T rfl rfl rfl rfl) ?_ | refine QD.yv (by decide) rfl (Yv.loadI T hA rfl rfl) ?_ | refine QD.off (by decide) rfl ?_
      first | refine QD.e (Ev.indexS T rfl rfl rfl rfl (by first | omega | (simp only [List.length_cons, List.length_nil] ; omega) | (simp; omega)) (by first | omega | (simp only [List.length_cons, List.length_nil] ; omega) | (simp; omega))) (by decide) rfl ?_ | refine QD.off (by decide) rfl ?_
      first | refine QD.yv (by decide) rfl (Yv.load 0 T rfl rfl rfl rfl) ?_ | refine QD.yv (by decide) rfl (Yv.load 1 T rfl rfl rfl rfl) ?_ | refine QD.yv (by decide) rfl (Yv.load 2 T rfl rfl rfl rfl) ?_ | refine QD.yv (by decide) rfl (Yv.loadI T hA rfl rfl) ?_ | refine QD.off (by decide) rfl ?_
      first | refine QD.e (Ev.eqlI rfl rfl) (by decide) rfl ?_ | refine QD.off (by decide) rfl ?_
      first | refine QD.ev T (by decide) rfl rfl ?_ | refine QD.off (by decide) rfl ?_
      first | refine QD.ev T (by decide) rfl rfl ?_ | refine QD.off (by decide) rfl ?_
      first | refine QD.ev T (by decide) rfl rfl ?_ | refine QD.off (by decide) rfl ?_
      first | refine QD.ev T (by decide) rfl rfl ?_ | refine QD.off (by decide) rfl ?_
      first | refine QD.ev T (by decide) rfl rfl ?_ | refine QD.off (by decide) rfl ?_
      first | refine QD.yv (by decide) rfl (Yv.load 0 T rfl rfl rfl rfl) ?_ | refine QD.yv (by decide) rfl (Yv.load 1 T rfl rfl rfl rfl) ?_ | refine QD.yv (by decide) rfl (Yv.load 2 T rfl rfl rfl rfl) ?_ | refine QD.yv (by decide) rfl (Yv.loadI T hA rfl rfl) ?_ | refine QD.off (by decide) rfl ?_
      first | refine QD.ev T (by decide) rfl rfl ?_ | refine QD.off (by decide) rfl ?_
      first | refine QD.ev T (by decide) rfl rfl ?_ | refine QD.off (by decide) rfl ?_
      first | refine QD.ev T (by decide) rfl rfl ?_ | refine QD.off (by decide) rfl ?_
      first | refine QD.yv (by decide) rfl (Yv.load 0 T rfl rfl rfl rfl) ?_ | refine QD.yv (by decide) rfl (Yv.load 1 T rfl rfl rfl rfl) ?_ | refine QD.yv (by decide) rfl (Yv.load 2 T rfl rfl rfl rfl) ?_ | refine QD.yv (by decide) rfl (Yv.loadI T hA rfl rfl) ?_ | refine QD.off (by decide) rfl ?_
      first | refine QD.e (Ev.indexS T rfl rfl rfl rfl (by first | omega | (simp only [List.length_cons, List.length_nil] ; omega) | (simp; omega)) (by first | omega | (simp only [List.length_cons, List.length_nil] ; omega) | (simp; omega))) (by decide) rfl ?_ | refine QD.off (by decide) rfl ?_
      first | refine QD.yv (by decide) rfl (Yv.load 0 T rfl rfl rfl rfl) ?_ | refine QD.yv (by decide) rfl (Yv.load 1 T rfl rfl rfl rfl) ?_ | refine QD.yv (by decide) rfl (Yv.load 2 T rfl rfl rfl rfl) ?_ | refine QD.yv (by decide) rfl (Yv.loadI T hA rfl rfl) ?_ | refine QD.off (by decide) rfl ?_
      first | refine QD.e (Ev.eqlI rfl rfl) (by decide) rfl ?_ | refine QD.off (by decide) rfl ?_
      first | refine QD.ev T (by decide) rfl rfl ?_ | refine QD.off (by decide) rfl ?_
      first | refine QD.ev T (by decide) rfl rfl ?_ | refine QD.off (by decide) rfl ?_
      first | refine QD.ev T (by decide) rfl rfl ?_ | refine QD.off (by decide) rfl ?_
      first | refine QD.ev T (by decide) rfl rfl ?_ | refine QD.off (by decide) rfl ?_
      first | refine QD.ev T (by decide) rfl rfl ?_ | refine QD.off (by decide) rfl ?_
      first | refine QD.yv (by decide) rfl (Yv.load 0 T rfl rfl rfl rfl) ?_ | refine QD.yv (by decide) rfl (Yv.load 1 T rfl rfl rfl rfl) ?_ | refine QD.yv (by decide) rfl (Yv.load 2 T rfl rfl rfl rfl) ?_ | refine QD.yv (by decide) rfl (Yv.loadI T hA rfl rfl) ?_ | refine QD.off (by decide) rfl ?_
      first | refine QD.ev T (by decide) rfl rfl ?_ | refine QD.off (by decide) rfl ?_
      first | refine QD.ev T (by decide) rfl rfl ?_ | refine QD.off (by decide) rfl ?_
      first | refine QD.ev T (by decide) rfl rfl ?_ | refine QD.off (by decide) rfl ?_
      first | refine QD.yv (by decide) rfl (Yv.load 0 T rfl rfl rfl rfl) ?_ | refine QD.yv (by decide) rfl (Yv.load 1 T rfl rfl rfl rfl) ?_ | refine QD.yv (by decide) rfl (Yv.load 2 T rfl rfl rfl rfl) ?_ | refine QD.yv (by decide) rfl (Yv.loadI T hA rfl rfl) ?_ | refine QD.off (by decide) rfl ?_
      first | refine QD.e (Ev.indexS T rfl rfl rfl rfl (by first | omega | (simp only [List.length_cons, List.length_nil] ; omega) | (simp; omega)) (by first | omega | (simp only [List.length_cons, List.length_nil] ; omega) | (simp; omega))) (by decide) rfl ?_ | refine QD.off (by decide) rfl ?_
      first | refine QD.yv (by decide) rfl (Yv.load 0 T rfl rfl rfl rfl) ?_ | refine QD.yv (by decide) rfl (Yv.load 1 T rfl rfl rfl rfl) ?_ | refine QD.yv (by decide) rfl (Yv.load 2 T rfl rfl rfl rfl) ?_ | refine QD.yv (by decide) rfl (Yv.loadI T hA rfl rfl) ?_ | refine QD.off (by decide) rfl ?_
      first | refine QD.e (Ev.eqlI rfl rfl) (by decide) rfl ?_ | refine QD.off (by decide) rfl ?_
      first | refine QD.ev T (by decide) rfl rfl ?_ | refine QD.off (by decide) rfl ?_
      refine QD.ev T (by decide) rfl rfl ?_
      refine QD.nil (hZ _ ?_)
      clear hZ Z
      repeat (first | refine Run.skip ?_ | refine Run.block ?_ | refine Run.cond_t rfl ?_)
      refine Run.regionP (D := [some 64, some 65, some 66, some 67, some 68, some 69, some 70, none]) [true, true, true, true, true, true, true] 7 rfl rfl rfl (by simp only [List.drop_succ_cons, List.drop_zero]; rfl) (fun Z hZ => ?_)
      refine QD.ev T (by decide) rfl rfl ?_
      refine QD.ev T (by decide) rfl rfl ?_
      refine QD.ev T (by decide) rfl rfl ?_
      first | refine QD.yv (by decide) rfl (Yv.load 0 T rfl rfl rfl rfl) ?_ | refine QD.yv (by decide) rfl (Yv.load 1 T rfl rfl rfl rfl) ?_ | refine QD.yv (by decide) rfl (Yv.load 2 T rfl rfl rfl rfl) ?_
      refine QD.e (Ev.addK (r := ((q + 1 : Nat) : Int)) rfl rfl (by rw [wI (by omega) (by omega)]; omega)) (by decide) rfl ?_
      refine QD.ev T (by decide) rfl rfl ?_
      refine QD.ev T (by decide) rfl rfl ?_
      refine QD.nil (hZ _ ?_)
      clear hZ Z
      first | refine Ops.store 0 rfl rfl rfl rfl rfl (T.sizeOk rfl) rfl (Nat.le_of_ble_eq_true rfl) rfl rfl ?_ | refine Ops.store 1 rfl rfl rfl rfl rfl (T.sizeOk rfl) rfl (Nat.le_of_ble_eq_true rfl) rfl rfl ?_ | refine Ops.store 2 rfl rfl rfl rfl rfl (T.sizeOk rfl) rfl (Nat.le_of_ble_eq_true rfl) rfl rfl ?_
      refine Ops.nil ?_
      repeat (first | refine Run.inBlock ?_)
      refine Run.keep [0] [_] rfl ?_
      exact ih (xs.length - (q + 1)) _ _ _ (by omega) ⟨q + 1, rfl, by omega, by omega, (by rw [← hs, drop_at hlt, hc]; simp [skipB, isBl]), rfl, rfl, rfl⟩
    by_cases c3 : xs.getD q 0 = 10
    · have hc := c3
      have hA : At J db (off + ((q : Int)).toNat * 1) [.int .u8 10] := by have := hR0.at' q hlt; rw [hc] at this; exact this
      refine Run.regionQ (D := [some 2, some 3, some 4, some 5, some 6, some 7, some 8, some 9, some 10, some 11, some 12, some 13, some 14, some 15, some 16, some 17, some 18, some 19, some 20, some 21, some 22, some 23, some 24, some 25, some 26, some 27, some 28, some 29, some 30, some 31, some 32, some 33, some 34, some 35, some 36, some 37, some 38, some 39, some 40, some 41, some 42, some 43, some 44, some 45, some 46, some 47, some 48, some 49, some 50, some 51, some 52, some 53, some 54, some 55, some 56, some 57, some 58, some 59, some 60, some 61, some 62, some 63]) [true, true, true, true, true, true, true, true, true, true, true, true, true, true, true, true, true, true, true, true, true, true, true, true, true, true, true, true, true, true, true, true, true, true, true, true, true, true, true, true, true, true, true, true, true, true, true, true, true, true, true, true, true, true, true, true, true, true, true, true, true, true] (bl 62 4611686018427387903) (by kernel_rfl) (by kernel_rfl) (by kernel_rfl) (by kernel_rfl) rfl (fun Z hZ => ?_)
      refine QD.ev T (by decide) rfl rfl ?_
      refine QD.ev T (by decide) rfl rfl ?_
      refine QD.ev T (by decide) rfl rfl ?_
      first | refine QD.yv (by decide) rfl (Yv.load 0 T rfl rfl rfl rfl) ?_ | refine QD.yv (by decide) rfl (Yv.load 1 T rfl rfl rfl rfl) ?_ | refine QD.yv (by decide) rfl (Yv.load 2 T rfl rfl rfl rfl) ?_ | refine QD.yv (by decide) rfl (Yv.loadI T hA rfl rfl) ?_
      refine QD.ev T (by decide) rfl rfl ?_
      refine QD.ev T (by decide) rfl rfl ?_
      refine QD.ev T (by decide) rfl rfl ?_
      first | refine QD.yv (by decide) rfl (Yv.load 0 T rfl rfl rfl rfl) ?_ | refine QD.yv (by decide) rfl (Yv.load 1 T rfl rfl rfl rfl) ?_ | refine QD.yv (by decide) rfl (Yv.load 2 T rfl rfl rfl rfl) ?_ | refine QD.yv (by decide) rfl (Yv.loadI T hA rfl rfl) ?_
      refine QD.ev T (by decide) rfl rfl ?_
      refine QD.e ((Ev.lss rfl rfl).as (show _ = Value.bool true from congrArg Value.bool (decide_eq_true hlt2))) (by decide) rfl ?_
      refine QD.ev T (by decide) rfl rfl ?_
      first | refine QD.ev T (by decide) rfl rfl ?_ | refine QD.off (by decide) rfl ?_
      first | refine QD.ev T (by decide) rfl rfl ?_ | refine QD.off (by decide) rfl ?_
      first | refine QD.ev T (by decide) rfl rfl ?_ | refine QD.off (by decide) rfl ?_
      first | refine QD.yv (by decide) rfl (Yv.load 0 T rfl rfl rfl rfl) ?_ | refine QD.yv (by decide) rfl (Yv.load 1 T rfl rfl rfl rfl) ?_ | refine QD.yv (by decide) rfl (Yv.load 2 T rfl rfl rfl rfl) ?_ | refine QD.yv (by decide) rfl (Yv.loadI T hA rfl rfl) ?_ | refine QD.off (by decide) rfl ?_
      first | refine QD.ev T (by decide) rfl rfl ?_ | refine QD.off (by decide) rfl ?_
      first | refine QD.ev T (by decide) rfl rfl ?_ | refine QD.off (by decide) rfl ?_
      first | refine QD.ev T (by decide) rfl rfl ?_ | refine QD.off (by decide) rfl ?_
      first | refine QD.yv (by decide) rfl (Yv.load 0 T rfl rfl rfl rfl) ?_ | refine QD.yv (by decide) rfl (Yv.load 1 T rfl rfl rfl rfl) ?_ | refine QD.yv (by decide) rfl (Yv.load 2 T rfl rfl rfl rfl) ?_ | refine QD.yv (by decide) rfl (Yv.loadI T hA rfl rfl) ?_ | refine QD.off (by decide) rfl ?_
      first | refine QD.e (Ev.indexS T rfl rfl rfl rfl (by first | omega | (simp only [List.length_cons, List.length_nil] ; omega) | (simp; omega)) (by first | omega | (simp only [List.length_cons, List.length_nil] ; omega) | (simp; omega))) (by decide) rfl ?_ | refine QD.off (by decide) rfl ?_
      first | refine QD.yv (by decide) rfl (Yv.load 0 T rfl rfl rfl rfl) ?_ | refine QD.yv (by decide) rfl (Yv.load 1 T rfl rfl rfl rfl) ?_ | refine QD.yv (by decide) rfl (Yv.load 2 T rfl rfl rfl rfl) ?_ | refine QD.yv (by decide) rfl (Yv.loadI T hA rfl rfl) ?_ | refine QD.off (by decide) rfl ?_
      first | refine QD.e (Ev.eqlI rfl rfl) (by decide) rfl ?_ | refine QD.off (by decide) rfl ?_
      first | refine QD.ev T (by decide) rfl rfl ?_ | refine QD.off (by decide) rfl ?_
      first | refine QD.ev T (by decide) rfl rfl ?_ | refine QD.off (by decide) rfl ?_
      first | refine QD.ev T (by decide) rfl rfl ?_ | refine QD.off (by decide) rfl ?_
      first | refine QD.ev T (by decide) rfl rfl ?_ | refine QD.off (by decide) rfl ?_
      first | refine QD.yv (by decide) rfl (Yv.load 0 T rfl rfl rfl rfl) ?_ | refine QD.yv (by decide) rfl (Yv.load 1 T rfl rfl rfl rfl) ?_ | refine QD.yv (by decide) rfl (Yv.load 2 T rfl rfl rfl rfl) ?_ | refine QD.yv (by decide) rfl (Yv.loadI T hA rfl rfl) ?_ | refine QD.off (by decide) rfl ?_
      first | refine QD.ev T (by decide) rfl rfl ?_ | refine QD.off (by decide) rfl ?_
      first | refine QD.ev T (by decide) rfl rfl ?_ | refine QD.off (by decide) rfl ?_
      first | refine QD.ev T (by decide) rfl rfl ?_ | refine QD.off (by decide) rfl ?_
      first | refine QD.yv (by decide) rfl (Yv.load 0 T rfl rfl rfl rfl) ?_ | refine QD.yv (by decide) rfl (Yv.load 1 T rfl rfl rfl rfl) ?_ | refine QD.yv (by decide) rfl (Yv.load 2 T rfl rfl rfl rfl) ?_ | refine QD.yv (by decide) rfl (Yv.loadI T hA rfl rfl) ?_ | refine QD.off (by decide) rfl ?_
      first | refine QD.e (Ev.indexS T rfl rfl rfl rfl (by first | omega | (simp only [List.length_cons, List.length_nil] ; omega) | (simp; omega)) (by first | omega | (simp only [List.length_cons, List.length_nil] ; omega) | (simp; omega))) (by decide) rfl ?_ | refine QD.off (by decide) rfl ?_
      first | refine QD.yv (by decide) rfl (Yv.load 0 T rfl rfl rfl rfl) ?_ | refine QD.yv (by decide) rfl (Yv.load 1 T rfl rfl rfl rfl) ?_ | refine QD.yv (by decide) rfl (Yv.load 2 T rfl rfl rfl rfl) ?_ | refine QD.yv (by decide) rfl (Yv.loadI T hA rfl rfl) ?_ | refine QD.off (by decide) rfl ?_
      first | refine QD.e (Ev.eqlI rfl rfl) (by decide) rfl ?_ | refine QD.off (by decide) rfl ?_
      first | refine QD.ev T (by decide) rfl rfl ?_ | refine QD.off (by decide) rfl ?_
      first | refine QD.ev T (by decide) rfl rfl ?_ | refine QD.off (by decide) rfl ?_
      first | refine QD.ev T (by decide) rfl rfl ?_ | refine QD.off (by decide) rfl ?_
      first | refine QD.ev T (by decide) rfl rfl ?_ | refine QD.off (by decide) rfl ?_
      first | refine QD.ev T (by decide) rfl rfl ?_ | refine QD.off (by decide) rfl ?_
      first | refine QD.yv (by decide) rfl (Yv.load 0 T rfl rfl rfl rfl) ?_ | refine QD.yv (by decide) rfl (Yv.load 1 T rfl rfl rfl rfl) ?_ | refine QD.yv (by decide) rfl (Yv.load 2 T rfl rfl rfl rfl) ?_ | refine QD.yv (by decide) rfl (Yv.loadI T hA rfl rfl) ?_ | refine QD.off (by decide) rfl ?_
      first | refine QD.ev T (by decide) rfl rfl ?_ | refine QD.off (by decide) rfl ?_
      first | refine QD.ev T (by decide) rfl rfl ?_ | refine QD.off (by decide) rfl ?_
      first | refine QD.ev T (by decide) rfl rfl ?_ | refine QD.off (by decide) rfl ?_
      first | refine QD.yv (by decide) rfl (Yv.load 0 T rfl rfl rfl rfl) ?_ | refine QD.yv (by decide) rfl (Yv.load 1 T rfl rfl rfl rfl) ?_ | refine QD.yv (by decide) rfl (Yv.load 2 T rfl rfl rfl rfl) ?_ | refine QD.yv (by decide) rfl (Yv.loadI T hA rfl rfl) ?_ | refine QD.off (by decide) rfl ?_
      first | refine QD.e (Ev.indexS T rfl rfl rfl rfl (by first | omega | (simp only [List.length_cons, List.length_nil] ; omega) | (simp; omega)) (by first | omega | (simp only [List.length_cons, List.length_nil] ; omega) | (simp; omega))) (by decide) rfl ?_ | refine QD.off (by decide) rfl ?_
      first | refine QD.yv (by decide) rfl (Yv.load 0 T rfl rfl rfl rfl) ?_ | refine QD.yv (by decide) rfl (Yv.load 1 T rfl rfl rfl rfl) ?_ | refine QD.yv (by decide) rfl (Yv.load 2 T rfl rfl rfl rfl) ?_ | refine QD.yv (by decide) rfl (Yv.loadI T hA rfl rfl) ?_ | refine QD.off (by decide) rfl ?_
      first | refine QD.e (Ev.eqlI rfl rfl) (by decide) rfl ?_ | refine QD.off (by decide) rfl ?_
      first | refine QD.ev T (by decide) rfl rfl ?_ | refine QD.off (by decide) rfl ?_
      first | refine QD.ev T (by decide) rfl rfl ?_ | refine QD.off (by decide) rfl ?_
      first | refine QD.ev T (by decide) rfl rfl ?_ | refine QD.off (by decide) rfl ?_
      first | refine QD.ev T (by decide) rfl rfl ?_ | refine QD.off (by decide) rfl ?_
      first | refine QD.ev T (by decide) rfl rfl ?_ | refine QD.off (by decide) rfl ?_
      first | refine QD.yv (by decide) rfl (Yv.load 0 T rfl rfl rfl rfl) ?_ | refine QD.yv (by decide) rfl (Yv.load 1 T rfl rfl rfl rfl) ?_ | refine QD.yv (by decide) rfl (Yv.load 2 T rfl rfl rfl rfl) ?_ | refine QD.yv (by decide) rfl (Yv.loadI T hA rfl rfl) ?_ | refine QD.off (by decide) rfl ?_
      first | refine QD.ev T (by decide) rfl rfl ?_ | refine QD.off (by decide) rfl ?_
      first | refine QD.ev T (by decide) rfl rfl ?_ | refine QD.off (by decide) rfl ?_
      first | refine QD.ev T (by decide) rfl rfl ?_ | refine QD.off (by decide) rfl ?_
      first | refine QD.yv (by decide) rfl (Yv.load 0 T rfl rfl rfl rfl) ?_ | refine QD.yv (by decide) rfl (Yv.load 1 T rfl rfl rfl rfl) ?_ | refine QD.yv (by decide) rfl (Yv.load 2 T rfl rfl rfl rfl) ?_ | refine QD.yv (by decide) rfl (Yv.loadI T hA rfl rfl) ?_ | refine QD.off (by decide) rfl ?_
      first | refine QD.e (Ev.indexS T rfl rfl rfl rfl (by first | omega | (simp only [List.length_cons, List.length_nil] ; omega) | (simp; omega)) (by first | omega | (simp only [List.length_cons, List.length_nil] ; omega) | (simp; omega))) (by decide) rfl ?_ | refine QD.off (by decide) rfl ?_
      first | refine QD.yv (by decide) rfl (Yv.load 0 T rfl rfl rfl rfl) ?_ | refine QD.yv (by decide) rfl (Yv.load 1 T rfl rfl rfl rfl) ?_ | refine QD.yv (by decide) rfl (Yv.load 2 T rfl rfl rfl rfl) ?_ | refine QD.yv (by decide) rfl (Yv.loadI T hA rfl rfl) ?_ | refine QD.off (by decide) rfl ?_
      first | refine QD.e (Ev.eqlI rfl rfl) (by decide) rfl ?_ | refine QD.off (by decide) rfl ?_
      first | refine QD.ev T (by decide) rfl rfl ?_ | refine QD.off (by decide) rfl ?_
      refine QD.ev T (by decide) rfl rfl ?_
      refine QD.nil (hZ _ ?_)
      clear hZ Z
      repeat (first | refine Run.skip ?_ | refine Run.block ?_ | refine Run.cond_t rfl ?_)
      refine Run.regionP (D := [some 64, some 65, some 66, some 67, some 68, some 69, some 70, none]) [true, true, true, true, true, true, true] 7 rfl rfl rfl (by simp only [List.drop_succ_cons, List.drop_zero]; rfl) (fun Z hZ => ?_)
      refine QD.ev T (by decide) rfl rfl ?_
      refine QD.ev T (by decide) rfl rfl ?_
      refine QD.ev T (by decide) rfl rfl ?_
      first | refine QD.yv (by decide) rfl (Yv.load 0 T rfl rfl rfl rfl) ?_ | refine QD.yv (by decide) rfl (Yv.load 1 T rfl rfl rfl rfl) ?_ | refine QD.yv (by decide) rfl (Yv.load 2 T rfl rfl rfl rfl) ?_
      refine QD.e (Ev.addK (r := ((q + 1 : Nat) : Int)) rfl rfl (by rw [wI (by omega) (by omega)]; omega)) (by decide) rfl ?_
      refine QD.ev T (by decide) rfl rfl ?_
      refine QD.ev T (by decide) rfl rfl ?_
      refine QD.nil (hZ _ ?_)
      clear hZ Z
      first | refine Ops.store 0 rfl rfl rfl rfl rfl (T.sizeOk rfl) rfl (Nat.le_of_ble_eq_true rfl) rfl rfl ?_ | refine Ops.store 1 rfl rfl rfl rfl rfl (T.sizeOk rfl) rfl (Nat.le_of_ble_eq_true rfl) rfl rfl ?_ | refine Ops.store 2 rfl rfl rfl rfl rfl (T.sizeOk rfl) rfl (Nat.le_of_ble_eq_true rfl) rfl rfl ?_
      refine Ops.nil ?_
      repeat (first | refine Run.inBlock ?_)
      refine Run.keep [0] [_] rfl ?_
      exact ih (xs.length - (q + 1)) _ _ _ (by omega) ⟨q + 1, rfl, by omega, by omega, (by rw [← hs, drop_at hlt, hc]; simp [skipB, isBl]), rfl, rfl, rfl⟩
    by_cases c4 : xs.getD q 0 = 13
    · have hc := c4
      have hA : At J db (off + ((q : Int)).toNat * 1) [.int .u8 13] := by have := hR0.at' q hlt; rw [hc] at this; exact this
      refine Run.regionQ (D := [some 2, some 3, some 4, some 5, some 6, some 7, some 8, some 9, some 10, some 11, some 12, some 13, some 14, some 15, some 16, some 17, some 18, some 19, some 20, some 21, some 22, some 23, some 24, some 25, some 26, some 27, some 28, some 29, some 30, some 31, some 32, some 33, some 34, some 35, some 36, some 37, some 38, some 39, some 40, some 41, some 42, some 43, some 44, some 45, some 46, some 47, some 48, some 49, some 50, some 51, some 52, some 53, some 54, some 55, some 56, some 57, some 58, some 59, some 60, some 61, some 62, some 63]) [true, true, true, true, true, true, true, true, true, true, true, true, true, true, true, true, true, true, true, true, true, true, true, true, true, true, true, true, true, true, true, true, true, true, true, true, true, true, true, true, true, true, true, true, true, true, true, true, true, true, true, true, true, true, true, true, true, true, true, true, true, true] (bl 62 4611686018427387903) (by kernel_rfl) (by kernel_rfl) (by kernel_rfl) (by kernel_rfl) rfl (fun Z hZ => ?_)
      refine QD.ev T (by decide) rfl rfl ?_
      refine QD.ev T (by decide) rfl rfl ?_
      refine QD.ev T (by decide) rfl rfl ?_
      first | refine QD.yv (by decide) rfl (Yv.load 0 T rfl rfl rfl rfl) ?_ | refine QD.yv (by decide) rfl (Yv.load 1 T rfl rfl rfl rfl) ?_ | refine QD.yv (by decide) rfl (Yv.load 2 T rfl rfl rfl rfl) ?_ | refine QD.yv (by decide) rfl (Yv.loadI T hA rfl rfl) ?_
      refine QD.ev T (by decide) rfl rfl ?_
      refine QD.ev T (by decide) rfl rfl ?_
      refine QD.ev T (by decide) rfl rfl ?_
      first | refine QD.yv (by decide) rfl (Yv.load 0 T rfl rfl rfl rfl) ?_ | refine QD.yv (by decide) rfl (Yv.load 1 T rfl rfl rfl rfl) ?_ | refine QD.yv (by decide) rfl (Yv.load 2 T rfl rfl rfl rfl) ?_ | refine QD.yv (by decide) rfl (Yv.loadI T hA rfl rfl) ?_
      refine QD.ev T (by decide) rfl rfl ?_
      refine QD.e ((Ev.lss rfl rfl).as (show _ = Value.bool true from congrArg Value.bool (decide_eq_true hlt2))) (by decide) rfl ?_
      refine QD.ev T (by decide) rfl rfl ?_
      first | refine QD.ev T (by decide) rfl rfl ?_ | refine QD.off (by decide) rfl ?_
      first | refine QD.ev T (by decide) rfl rfl ?_ | refine QD.off (by decide) rfl ?_
      first | refine QD.ev T (by decide) rfl rfl ?_ | refine QD.off (by decide) rfl ?_
      first | refine QD.yv (by decide) rfl (Yv.load 0 T rfl rfl rfl rfl) ?_ | refine QD.yv (by decide) rfl (Yv.load 1 T rfl rfl rfl rfl) ?_ | refine QD.yv (by decide) rfl (Yv.load 2 T rfl rfl rfl rfl) ?_ | refine QD.yv (by decide) rfl (Yv.loadI T hA rfl rfl) ?_ | refine QD.off (by decide) rfl ?_
      first | refine QD.ev T (by decide) rfl rfl ?_ | refine QD.off (by decide) rfl ?_
      first | refine QD.ev T (by decide) rfl rfl ?_ | refine QD.off (by decide) rfl ?_
      first | refine QD.ev T (by decide) rfl rfl ?_ | refine QD.off (by decide) rfl ?_
      first | refine QD.yv (by decide) rfl (Yv.load 0 T rfl rfl rfl rfl) ?_ | refine QD.yv (by decide) rfl (Yv.load 1 T rfl rfl rfl rfl) ?_ | refine QD.yv (by decide) rfl (Yv.load 2 T rfl rfl rfl rfl) ?_ | refine QD.yv (by decide) rfl (Yv.loadI T hA rfl rfl) ?_ | refine QD.off (by decide) rfl ?_
      first | refine QD.e (Ev.indexS T rfl rfl rfl rfl (by first | omega | (simp only [List.length_cons, List.length_nil] ; omega) | (simp; omega)) (by first | omega | (simp only [List.length_cons, List.length_nil] ; omega) | (simp; omega))) (by decide) rfl ?_ | refine QD.off (by decide) rfl ?_
      first | refine QD.yv (by decide) rfl (Yv.load 0 T rfl rfl rfl rfl) ?_ | refine QD.yv (by decide) rfl (Yv.load 1 T rfl rfl rfl rfl) ?_ | refine QD.yv (by decide) rfl (Yv.load 2 T rfl rfl rfl rfl) ?_ | refine QD.yv (by decide) rfl (Yv.loadI T hA rfl rfl) ?_ | refine QD.off (by decide) rfl ?_
      first | refine QD.e (Ev.eqlI rfl rfl) (by decide) rfl ?_ | refine QD.off (by decide) rfl ?_
      first | refine QD.ev T (by decide) rfl rfl ?_ | refine QD.off (by decide) rfl ?_
      first | refine QD.ev T (by decide) rfl rfl ?_ | refine QD.off (by decide) rfl ?_
      first | refine QD.ev T (by decide) rfl rfl ?_ | refine QD.off (by decide) rfl ?_
      first | refine QD.ev T (by decide) rfl rfl ?_ | refine QD.off (by decide) rfl ?_
      first | refine QD.yv (by decide) rfl (Yv.load 0 T rfl rfl rfl rfl) ?_ | refine QD.yv (by decide) rfl (Yv.load 1 T rfl rfl rfl rfl) ?_ | refine QD.yv (by decide) rfl (Yv.load 2 T rfl rfl rfl rfl) ?_ | refine QD.yv (by decide) rfl (Yv.loadI T hA rfl rfl) ?_ | refine QD.off (by decide) rfl ?_
      first | refine QD.ev T (by decide) rfl rfl ?_ | refine QD.off (by decide) rfl ?_
      first | refine QD.ev T (by decide) rfl rfl ?_ | refine QD.off (by decide) rfl ?_
      first | refine QD.ev T (by decide) rfl rfl ?_ | refine QD.off (by decide) rfl ?_
      first | refine QD.yv (by decide) rfl (Yv.load 0 T rfl rfl rfl rfl) ?_ | refine QD.yv (by decide) rfl (Yv.load 1 T rfl rfl rfl rfl) ?_ | refine QD.yv (by decide) rfl (Yv.load 2 T rfl rfl rfl rfl) ?_ | refine QD.yv (by decide) rfl (Yv.loadI T hA rfl rfl) ?_ | refine QD.off (by decide) rfl ?_
      first | refine QD.e (Ev.indexS T rfl rfl rfl rfl (by first | omega | (simp only [List.length_cons, List.length_nil] ; omega) | (simp; omega)) (by first | omega | (simp only [List.length_cons, List.length_nil] ; omega) | (simp; omega))) (by decide) rfl ?_ | refine QD.off (by decide) rfl ?_
      first | refine QD.yv (by decide) rfl (Yv.load 0 T rfl rfl rfl rfl) ?_ | refine QD.yv (by decide) rfl (Yv.load 1 T rfl rfl rfl rfl) ?_ | refine QD.yv (by decide) rfl (Yv.load 2 T rfl rfl rfl rfl) ?_ | refine QD.yv (by decide) rfl (Yv.loadI T hA rfl rfl) ?_ | refine QD.off (by decide) rfl ?_
      first | refine QD.e (Ev.eqlI rfl rfl) (by decide) rfl ?_ | refine QD.off (by decide) rfl ?_
      first | refine QD.ev T (by decide) rfl rfl ?_ | refine QD.off (by decide) rfl ?_
      first | refine QD.ev T (by decide) rfl rfl ?_ | refine QD.off (by decide) rfl ?_
      first | refine QD.ev T (by decide) rfl rfl ?_ | refine QD.off (by decide) rfl ?_
      first | refine QD.ev T (by decide) rfl rfl ?_ | refine QD.off (by decide) rfl ?_
      first | refine QD.ev T (by decide) rfl rfl ?_ | refine QD.off (by decide) rfl ?_
      first | refine QD.yv (by decide) rfl (Yv.load 0 T rfl rfl rfl rfl) ?_ | refine QD.yv (by decide) rfl (Yv.load 1 T rfl rfl rfl rfl) ?_ | refine QD.yv (by decide) rfl (Yv.load 2 T rfl rfl rfl rfl) ?_ | refine QD.yv (by decide) rfl (Yv.loadI T hA rfl rfl) ?_ | refine QD.off (by decide) rfl ?_
      first | refine QD.ev T (by decide) rfl rfl ?_ | refine QD.off (by decide) rfl ?_
      first | refine QD.ev T (by decide) rfl rfl ?_ | refine QD.off (by decide) rfl ?_
      first | refine QD.ev T (by decide) rfl rfl ?_ | refine QD.off (by decide) rfl ?_
      first | refine QD.yv (by decide) rfl (Yv.load 0 T rfl rfl rfl rfl) ?_ | refine QD.yv (by decide) rfl (Yv.load 1 T rfl rfl rfl rfl) ?_ | refine QD.yv (by decide) rfl (Yv.load 2 T rfl rfl rfl rfl) ?_ | refine QD.yv (by decide) rfl (Yv.loadI T hA rfl rfl) ?_ | refine QD.off (by decide) rfl ?_
      first | refine QD.e (Ev.indexS T rfl rfl rfl rfl (by first | omega | (simp only [List.length_cons, List.length_nil] ; omega) | (simp; omega)) (by first | omega | (simp only [List.length_cons, List.length_nil] ; omega) | (simp; omega))) (by decide) rfl ?_ | refine QD.off (by decide) rfl ?_
      first | refine QD.yv (by decide) rfl (Yv.load 0 T rfl rfl rfl rfl) ?_ | refine QD.yv (by decide) rfl (Yv.load 1 T rfl rfl rfl rfl) ?_ | refine QD.yv (by decide) rfl (Yv.load 2 T rfl rfl rfl rfl) ?_ | refine QD.yv (by decide) rfl (Yv.loadI T hA rfl rfl) ?_ | refine QD.off (by decide) rfl ?_
      first | refine QD.e (Ev.eqlI rfl rfl) (by decide) rfl ?_ | refine QD.off (by decide) rfl ?_
      first | refine QD.ev T (by decide) rfl rfl ?_ | refine QD.off (by decide) rfl ?_
      first | refine QD.ev T (by decide) rfl rfl ?_ | refine QD.off (by decide) rfl ?_
      first | refine QD.ev T (by decide) rfl rfl ?_ | refine QD.off (by decide) rfl ?_
      first | refine QD.ev T (by decide) rfl rfl ?_ | refine QD.off (by decide) rfl ?_
      first | refine QD.ev T (by decide) rfl rfl ?_ | refine QD.off (by decide) rfl ?_
      first | refine QD.yv (by decide) rfl (Yv.load 0 T rfl rfl rfl rfl) ?_ | refine QD.yv (by decide) rfl (Yv.load 1 T rfl rfl rfl rfl) ?_ | refine QD.yv (by decide) rfl (Yv.load 2 T rfl rfl rfl rfl) ?_ | refine QD.yv (by decide) rfl (Yv.loadI T hA rfl rfl) ?_ | refine QD.off (by decide) rfl ?_
      first | refine QD.ev T (by decide) rfl rfl ?_ | refine QD.off (by decide) rfl ?_
      first | refine QD.ev T (by decide) rfl rfl ?_ | refine QD.off (by decide) rfl ?_
      first | refine QD.ev T (by decide) rfl rfl ?_ | refine QD.off (by decide) rfl ?_
      first | refine QD.yv (by decide) rfl (Yv.load 0 T rfl rfl rfl rfl) ?_ | refine QD.yv (by decide) rfl (Yv.load 1 T rfl rfl rfl rfl) ?_ | refine QD.yv (by decide) rfl (Yv.load 2 T rfl rfl rfl rfl) ?_ | refine QD.yv (by decide) rfl (Yv.loadI T hA rfl rfl) ?_ | refine QD.off (by decide) rfl ?_
      first | refine QD.e (Ev.indexS T rfl rfl rfl rfl (by first | omega | (simp only [List.length_cons, List.length_nil] ; omega) | (simp; omega)) (by first | omega | (simp only [List.length_cons, List.length_nil] ; omega) | (simp; omega))) (by decide) rfl ?_ | refine QD.off (by decide) rfl ?_
      first | refine QD.yv (by decide) rfl (Yv.load 0 T rfl rfl rfl rfl) ?_ | refine QD.yv (by decide) rfl (Yv.load 1 T rfl rfl rfl rfl) ?_ | refine QD.yv (by decide) rfl (Yv.load 2 T rfl rfl rfl rfl) ?_ | refine QD.yv (by decide) rfl (Yv.loadI T hA rfl rfl) ?_ | refine QD.off (by decide) rfl ?_
      first | refine QD.e (Ev.eqlI rfl rfl) (by decide) rfl ?_ | refine QD.off (by decide) rfl ?_
      first | refine QD.ev T (by decide) rfl rfl ?_ | refine QD.off (by decide) rfl ?_
      refine QD.ev T (by decide) rfl rfl ?_
      refine QD.nil (hZ _ ?_)
      clear hZ Z
      repeat (first | refine Run.skip ?_ | refine Run.block ?_ | refine Run.cond_t rfl ?_)
      refine Run.regionP (D := [some 64, some 65, some 66, some 67, some 68, some 69, some 70, none]) [true, true, true, true, true, true, true] 7 rfl rfl rfl (by simp only [List.drop_succ_cons, List.drop_zero]; rfl) (fun Z hZ => ?_)
      refine QD.ev T (by decide) rfl rfl ?_
      refine QD.ev T (by decide) rfl rfl ?_
      refine QD.ev T (by decide) rfl rfl ?_
      first | refine QD.yv (by decide) rfl (Yv.load 0 T rfl rfl rfl rfl) ?_ | refine QD.yv (by decide) rfl (Yv.load 1 T rfl rfl rfl rfl) ?_ | refine QD.yv (by decide) rfl (Yv.load 2 T rfl rfl rfl rfl) ?_
      refine QD.e (Ev.addK (r := ((q + 1 : Nat) : Int)) rfl rfl (by rw [wI (by omega) (by omega)]; omega)) (by decide) rfl ?_
      refine QD.ev T (by decide) rfl rfl ?_
      refine QD.ev T (by decide) rfl rfl ?_
      refine QD.nil (hZ _ ?_)
      clear hZ Z
      first | refine Ops.store 0 rfl rfl rfl rfl rfl (T.sizeOk rfl) rfl (Nat.le_of_ble_eq_true rfl) rfl rfl ?_ | refine Ops.store 1 rfl rfl rfl rfl rfl (T.sizeOk rfl) rfl (Nat.le_of_ble_eq_true rfl) rfl rfl ?_ | refine Ops.store 2 rfl rfl rfl rfl rfl (T.sizeOk rfl) rfl (Nat.le_of_ble_eq_true rfl) rfl rfl ?_
      refine Ops.nil ?_
      repeat (first | refine Run.inBlock ?_)
      refine Run.keep [0] [_] rfl ?_
      exact ih (xs.length - (q + 1)) _ _ _ (by omega) ⟨q + 1, rfl, by omega, by omega, (by rw [← hs, drop_at hlt, hc]; simp [skipB, isBl]), rfl, rfl, rfl⟩
    have hA := hR0.at' q hlt
    have hfin : skipB (xs.drop p) = xs.drop q := by
      have hb : isBl (xs.getD q 0) = false := by simp only [isBl, Bool.or_eq_false_iff, beq_eq_false_iff_ne]; exact ⟨⟨⟨c1, c2⟩, c3⟩, c4⟩
      rw [← hs, drop_at hlt, skipB, List.dropWhile_cons, if_neg (by rw [hb]; decide)]
    have nn : ∀ k : UInt8, xs.getD q 0 ≠ k → ((xs.getD q 0).toNat : Int) ≠ (k.toNat : Int) := fun k h e => h (UInt8.toNat_inj.1 (by omega))
    have n1 := nn _ c1
    have n2 := nn _ c2
    have n3 := nn _ c3
    have n4 := nn _ c4
    generalize xs.getD q 0 = b at hA n1 n2 n3 n4
    refine Run.regionQ (D := [some 2, some 3, some 4, some 5, some 6, some 7, some 8, some 9, some 10, some 11, some 12, some 13, some 14, some 15, some 16, some 17, some 18, some 19, some 20, some 21, some 22, some 23, some 24, some 25, some 26, some 27, some 28, some 29, some 30, some 31, some 32, some 33, some 34, some 35, some 36, some 37, some 38, some 39, some 40, some 41, some 42, some 43, some 44, some 45, some 46, some 47, some 48, some 49, some 50, some 51, some 52, some 53, some 54, some 55, some 56, some 57, some 58, some 59, some 60, some 61, some 62, some 63]) [true, true, true, true, true, true, true, true, true, true, true, true, true, true, true, true, true, true, true, true, true, true, true, true, true, true, true, true, true, true, true, true, true, true, true, true, true, true, true, true, true, true, true, true, true, true, true, true, true, true, true, true, true, true, true, true, true, true, true, true, true, true] (bl 62 4611686018427387903) (by kernel_rfl) (by kernel_rfl) (by kernel_rfl) (by kernel_rfl) rfl (fun Z hZ => ?_)
    refine QD.ev T (by decide) rfl rfl ?_
    refine QD.ev T (by decide) rfl rfl ?_
    refine QD.ev T (by decide) rfl rfl ?_
    first | refine QD.yv (by decide) rfl (Yv.load 0 T rfl rfl rfl rfl) ?_ | refine QD.yv (by decide) rfl (Yv.load 1 T rfl rfl rfl rfl) ?_ | refine QD.yv (by decide) rfl (Yv.load 2 T rfl rfl rfl rfl) ?_ | refine QD.yv (by decide) rfl (Yv.loadI T hA rfl rfl) ?_
    refine QD.ev T (by decide) rfl rfl ?_
    refine QD.ev T (by decide) rfl rfl ?_
    refine QD.ev T (by decide) rfl rfl ?_
    first | refine QD.yv (by decide) rfl (Yv.load 0 T rfl rfl rfl rfl) ?_ | refine QD.yv (by decide) rfl (Yv.load 1 T rfl rfl rfl rfl) ?_ | refine QD.yv (by decide) rfl (Yv.load 2 T rfl rfl rfl rfl) ?_ | refine QD.yv (by decide) rfl (Yv.loadI T hA rfl rfl) ?_
    refine QD.ev T (by decide) rfl rfl ?_
    refine QD.e ((Ev.lss rfl rfl).as (show _ = Value.bool true from congrArg Value.bool (decide_eq_true hlt2))) (by decide) rfl ?_
    refine QD.ev T (by decide) rfl rfl ?_
    first | refine QD.ev T (by decide) rfl rfl ?_ | refine QD.off (by decide) rfl ?_
    first | refine QD.ev T (by decide) rfl rfl ?_ | refine QD.off (by decide) rfl ?_
    first | refine QD.ev T (by decide) rfl rfl ?_ | refine QD.off (by decide) rfl ?_
    first | refine QD.yv (by decide) rfl (Yv.load 0 T rfl rfl rfl rfl) ?_ | refine QD.yv (by decide) rfl (Yv.load 1 T rfl rfl rfl rfl) ?_ | refine QD.yv (by decide) rfl (Yv.load 2 T rfl rfl rfl rfl) ?_ | refine QD.yv (by decide) rfl (Yv.loadI T hA rfl rfl) ?_ | refine QD.off (by decide) rfl ?_
    first | refine QD.ev T (by decide) rfl rfl ?_ | refine QD.off (by decide) rfl ?_
    first | refine QD.ev T (by decide) rfl rfl ?_ | refine QD.off (by decide) rfl ?_
    first | refine QD.ev T (by decide) rfl rfl ?_ | refine QD.off (by decide) rfl ?_
    first | refine QD.yv (by decide) rfl (Yv.load 0 T rfl rfl rfl rfl) ?_ | refine QD.yv (by decide) rfl (Yv.load 1 T rfl rfl rfl rfl) ?_ | refine QD.yv (by decide) rfl (Yv.load 2 T rfl rfl rfl rfl) ?_ | refine QD.yv (by decide) rfl (Yv.loadI T hA rfl rfl) ?_ | refine QD.off (by decide) rfl ?_
    first | refine QD.e (Ev.indexS T rfl rfl rfl rfl (by first | omega | (simp only [List.length_cons, List.length_nil] ; omega) | (simp; omega)) (by first | omega | (simp only [List.length_cons, List.length_nil] ; omega) | (simp; omega))) (by decide) rfl ?_ | refine QD.off (by decide) rfl ?_
    first | refine QD.yv (by decide) rfl (Yv.load 0 T rfl rfl rfl rfl) ?_ | refine QD.yv (by decide) rfl (Yv.load 1 T rfl rfl rfl rfl) ?_ | refine QD.yv (by decide) rfl (Yv.load 2 T rfl rfl rfl rfl) ?_ | refine QD.yv (by decide) rfl (Yv.loadI T hA rfl rfl) ?_ | refine QD.off (by decide) rfl ?_
    refine QD.e ((Ev.eqlI rfl rfl).as (show _ = Value.bool false from congrArg Value.bool (decide_eq_false n1))) (by decide) rfl ?_
    first | refine QD.ev T (by decide) rfl rfl ?_ | refine QD.off (by decide) rfl ?_
    first | refine QD.ev T (by decide) rfl rfl ?_ | refine QD.off (by decide) rfl ?_
    first | refine QD.ev T (by decide) rfl rfl ?_ | refine QD.off (by decide) rfl ?_
    first | refine QD.ev T (by decide) rfl rfl ?_ | refine QD.off (by decide) rfl ?_
    first | refine QD.yv (by decide) rfl (Yv.load 0 T rfl rfl rfl rfl) ?_ | refine QD.yv (by decide) rfl (Yv.load 1 T rfl rfl rfl rfl) ?_ | refine QD.yv (by decide) rfl (Yv.load 2 T rfl rfl rfl rfl) ?_ | refine QD.yv (by decide) rfl (Yv.loadI T hA rfl rfl) ?_ | refine QD.off (by decide) rfl ?_
    first | refine QD.ev T (by decide) rfl rfl ?_ | refine QD.off (by decide) rfl ?_
    first | refine QD.ev T (by decide) rfl rfl ?_ | refine QD.off (by decide) rfl ?_
    first | refine QD.ev T (by decide) rfl rfl ?_ | refine QD.off (by decide) rfl ?_
    first | refine QD.yv (by decide) rfl (Yv.load 0 T rfl rfl rfl rfl) ?_ | refine QD.yv (by decide) rfl (Yv.load 1 T rfl rfl rfl rfl) ?_ | refine QD.yv (by decide) rfl (Yv.load 2 T rfl rfl rfl rfl) ?_ | refine QD.yv (by decide) rfl (Yv.loadI T hA rfl rfl) ?_ | refine QD.off (by decide) rfl ?_
    first | refine QD.e (Ev.indexS T rfl rfl rfl rfl (by first | omega | (simp only [List.length_cons, List.length_nil] ; omega) | (simp; omega)) (by first | omega | (simp only [List.length_cons, List.length_nil] ; omega) | (simp; omega))) (by decide) rfl ?_ | refine QD.off (by decide) rfl ?_
    first | refine QD.yv (by decide) rfl (Yv.load 0 T rfl rfl rfl rfl) ?_ | refine QD.yv (by decide) rfl (Yv.load 1 T rfl rfl rfl rfl) ?_ | refine QD.yv (by decide) rfl (Yv.load 2 T rfl rfl rfl rfl) ?_ | refine QD.yv (by decide) rfl (Yv.loadI T hA rfl rfl) ?_ | refine QD.off (by decide) rfl ?_
    refine QD.e ((Ev.eqlI rfl rfl).as (show _ = Value.bool false from congrArg Value.bool (decide_eq_false n2))) (by decide) rfl ?_
    first | refine QD.ev T (by decide) rfl rfl ?_ | refine QD.off (by decide) rfl ?_
    first | refine QD.ev T (by decide) rfl rfl ?_ | refine QD.off (by decide) rfl ?_
    first | refine QD.ev T (by decide) rfl rfl ?_ | refine QD.off (by decide) rfl ?_
    first | refine QD.ev T (by decide) rfl rfl ?_ | refine QD.off (by decide) rfl ?_
    first | refine QD.ev T (by decide) rfl rfl ?_ | refine QD.off (by decide) rfl ?_
    first | refine QD.yv (by decide) rfl (Yv.load 0 T rfl rfl rfl rfl) ?_ | refine QD.yv (by decide) rfl (Yv.load 1 T rfl rfl rfl rfl) ?_ | refine QD.yv (by decide) rfl (Yv.load 2 T rfl rfl rfl rfl) ?_ | refine QD.yv (by decide) rfl (Yv.loadI T hA rfl rfl) ?_ | refine QD.off (by decide) rfl ?_
    first | refine QD.ev T (by decide) rfl rfl ?_ | refine QD.off (by decide) rfl ?_
    first | refine QD.ev T (by decide) rfl rfl ?_ | refine QD.off (by decide) rfl ?_
    first | refine QD.ev T (by decide) rfl rfl ?_ | refine QD.off (by decide) rfl ?_
    first | refine QD.yv (by decide) rfl (Yv.load 0 T rfl rfl rfl rfl) ?_ | refine QD.yv (by decide) rfl (Yv.load 1 T rfl rfl rfl rfl) ?_ | refine QD.yv (by decide) rfl (Yv.load 2 T rfl rfl rfl rfl) ?_ | refine QD.yv (by decide) rfl (Yv.loadI T hA rfl rfl) ?_ | refine QD.off (by decide) rfl ?_
    first | refine QD.e (Ev.indexS T rfl rfl rfl rfl (by first | omega | (simp only [List.length_cons, List.length_nil] ; omega) | (simp; omega)) (by first | omega | (simp only [List.length_cons, List.length_nil] ; omega) | (simp; omega))) (by decide) rfl ?_ | refine QD.off (by decide) rfl ?_
    first | refine QD.yv (by decide) rfl (Yv.load 0 T rfl rfl rfl rfl) ?_ | refine QD.yv (by decide) rfl (Yv.load 1 T rfl rfl rfl rfl) ?_ | refine QD.yv (by decide) rfl (Yv.load 2 T rfl rfl rfl rfl) ?_ | refine QD.yv (by decide) rfl (Yv.loadI T hA rfl rfl) ?_ | refine QD.off (by decide) rfl ?_
    refine QD.e ((Ev.eqlI rfl rfl).as (show _ = Value.bool false from congrArg Value.bool (decide_eq_false n3))) (by decide) rfl ?_
    first | refine QD.ev T (by decide) rfl rfl ?_ | refine QD.off (by decide) rfl ?_
    first | refine QD.ev T (by decide) rfl rfl ?_ | refine QD.off (by decide) rfl ?_
    first | refine QD.ev T (by decide) rfl rfl ?_ | refine QD.off (by decide) rfl ?_
    first | refine QD.ev T (by decide) rfl rfl ?_ | refine QD.off (by decide) rfl ?_
    first | refine QD.ev T (by decide) rfl rfl ?_ | refine QD.off (by decide) rfl ?_
    first | refine QD.yv (by decide) rfl (Yv.load 0 T rfl rfl rfl rfl) ?_ | refine QD.yv (by decide) rfl (Yv.load 1 T rfl rfl rfl rfl) ?_ | refine QD.yv (by decide) rfl (Yv.load 2 T rfl rfl rfl rfl) ?_ | refine QD.yv (by decide) rfl (Yv.loadI T hA rfl rfl) ?_ | refine QD.off (by decide) rfl ?_
    first | refine QD.ev T (by decide) rfl rfl ?_ | refine QD.off (by decide) rfl ?_
    first | refine QD.ev T (by decide) rfl rfl ?_ | refine QD.off (by decide) rfl ?_
    first | refine QD.ev T (by decide) rfl rfl ?_ | refine QD.off (by decide) rfl ?_
    first | refine QD.yv (by decide) rfl (Yv.load 0 T rfl rfl rfl rfl) ?_ | refine QD.yv (by decide) rfl (Yv.load 1 T rfl rfl rfl rfl) ?_ | refine QD.yv (by decide) rfl (Yv.load 2 T rfl rfl rfl rfl) ?_ | refine QD.yv (by decide) rfl (Yv.loadI T hA rfl rfl) ?_ | refine QD.off (by decide) rfl ?_
    first | refine QD.e (Ev.indexS T rfl rfl rfl rfl (by first | omega | (simp only [List.length_cons, List.length_nil] ; omega) | (simp; omega)) (by first | omega | (simp only [List.length_cons, List.length_nil] ; omega) | (simp; omega))) (by decide) rfl ?_ | refine QD.off (by decide) rfl ?_
    first | refine QD.yv (by decide) rfl (Yv.load 0 T rfl rfl rfl rfl) ?_ | refine QD.yv (by decide) rfl (Yv.load 1 T rfl rfl rfl rfl) ?_ | refine QD.yv (by decide) rfl (Yv.load 2 T rfl rfl rfl rfl) ?_ | refine QD.yv (by decide) rfl (Yv.loadI T hA rfl rfl) ?_ | refine QD.off (by decide) rfl ?_
    refine QD.e ((Ev.eqlI rfl rfl).as (show _ = Value.bool false from congrArg Value.bool (decide_eq_false n4))) (by decide) rfl ?_
    first | refine QD.ev T (by decide) rfl rfl ?_ | refine QD.off (by decide) rfl ?_
    refine QD.ev T (by decide) rfl rfl ?_
    refine QD.nil (hZ _ ?_)
    clear hZ Z
    repeat (first | refine Run.exit rfl ?_ | refine Run.cond_f rfl ?_)
    refine Run.end0 (by rw [hCf]; exact func121) results121 (hR _ _ _ ?_)
    refine ⟨?_, rfl⟩
    rw [hfin, List.length_drop, show xs.length - (xs.length - q) = q by omega]
  · skip
    repeat (first | refine Run.seq ?_)
    refine Run.regionQ (D := [some 2, some 3, some 4, some 5, some 6, some 7, some 8, some 9, some 10, some 11, some 12, some 13, some 14, some 15, some 16, some 17, some 18, some 19, some 20, some 21, some 22, some 23, some 24, some 25, some 26, some 27, some 28, some 29, some 30, some 31, some 32, some 33, some 34, some 35, some 36, some 37, some 38, some 39, some 40, some 41, some 42, some 43, some 44, some 45, some 46, some 47, some 48, some 49, some 50, some 51, some 52, some 53, some 54, some 55, some 56, some 57, some 58, some 59, some 60, some 61, some 62, some 63]) [true, true, true, true, true, true, true, true, true, true, true, true, true, true, true, true, true, true, true, true, true, true, true, true, true, true, true, true, true, true, true, true, true, true, true, true, true, true, true, true, true, true, true, true, true, true, true, true, true, true, true, true, true, true, true, true, true, true, true, true, true, true] (bl 62 4611686018427387903) (by kernel_rfl) (by kernel_rfl) (by kernel_rfl) (by kernel_rfl) rfl (fun Z hZ => ?_)
    refine QD.ev T (by decide) rfl rfl ?_
    refine QD.ev T (by decide) rfl rfl ?_
    refine QD.ev T (by decide) rfl rfl ?_
    first | refine QD.yv (by decide) rfl (Yv.load 0 T rfl rfl rfl rfl) ?_ | refine QD.yv (by decide) rfl (Yv.load 1 T rfl rfl rfl rfl) ?_ | refine QD.yv (by decide) rfl (Yv.load 2 T rfl rfl rfl rfl) ?_
    refine QD.ev T (by decide) rfl rfl ?_
    refine QD.ev T (by decide) rfl rfl ?_
    refine QD.ev T (by decide) rfl rfl ?_
    first | refine QD.yv (by decide) rfl (Yv.load 0 T rfl rfl rfl rfl) ?_ | refine QD.yv (by decide) rfl (Yv.load 1 T rfl rfl rfl rfl) ?_ | refine QD.yv (by decide) rfl (Yv.load 2 T rfl rfl rfl rfl) ?_
    refine QD.ev T (by decide) rfl rfl ?_
    refine QD.e ((Ev.lss rfl rfl).as (show _ = Value.bool false from congrArg Value.bool (decide_eq_false (by omega)))) (by decide) rfl ?_
    refine QD.ev T (by decide) rfl rfl ?_
    first | refine QD.ev T (by decide) rfl rfl ?_ | refine QD.off (by decide) rfl ?_
    first | refine QD.ev T (by decide) rfl rfl ?_ | refine QD.off (by decide) rfl ?_
    first | refine QD.ev T (by decide) rfl rfl ?_ | refine QD.off (by decide) rfl ?_
    first | refine QD.yv (by decide) rfl (Yv.load 0 T rfl rfl rfl rfl) ?_ | refine QD.yv (by decide) rfl (Yv.load 1 T rfl rfl rfl rfl) ?_ | refine QD.yv (by decide) rfl (Yv.load 2 T rfl rfl rfl rfl) ?_ | refine QD.off (by decide) rfl ?_
    first | refine QD.ev T (by decide) rfl rfl ?_ | refine QD.off (by decide) rfl ?_
    first | refine QD.ev T (by decide) rfl rfl ?_ | refine QD.off (by decide) rfl ?_
    first | refine QD.ev T (by decide) rfl rfl ?_ | refine QD.off (by decide) rfl ?_
    first | refine QD.yv (by decide) rfl (Yv.load 0 T rfl rfl rfl rfl) ?_ | refine QD.yv (by decide) rfl (Yv.load 1 T rfl rfl rfl rfl) ?_ | refine QD.yv (by decide) rfl (Yv.load 2 T rfl rfl rfl rfl) ?_ | refine QD.off (by decide) rfl ?_
    first | refine QD.e (Ev.indexS T rfl rfl rfl rfl (by first | omega | (simp only [List.length_cons, List.length_nil] ; omega) | (simp; omega)) (by first | omega | (simp only [List.length_cons, List.length_nil] ; omega) | (simp; omega))) (by decide) rfl ?_ | refine QD.off (by decide) rfl ?_
    first | refine QD.yv (by decide) rfl (Yv.load 0 T rfl rfl rfl rfl) ?_ | refine QD.yv (by decide) rfl (Yv.load 1 T rfl rfl rfl rfl) ?_ | refine QD.yv (by decide) rfl (Yv.load 2 T rfl rfl rfl rfl) ?_ | refine QD.off (by decide) rfl ?_
    first | refine QD.e (Ev.eqlI rfl rfl) (by decide) rfl ?_ | refine QD.off (by decide) rfl ?_
    first | refine QD.ev T (by decide) rfl rfl ?_ | refine QD.off (by decide) rfl ?_
    first | refine QD.ev T (by decide) rfl rfl ?_ | refine QD.off (by decide) rfl ?_
    first | refine QD.ev T (by decide) rfl rfl ?_ | refine QD.off (by decide) rfl ?_
    first | refine QD.ev T (by decide) rfl rfl ?_ | refine QD.off (by decide) rfl ?_
    first | refine QD.yv (by decide) rfl (Yv.load 0 T rfl rfl rfl rfl) ?_ | refine QD.yv (by decide) rfl (Yv.load 1 T rfl rfl rfl rfl) ?_ | refine QD.yv (by decide) rfl (Yv.load 2 T rfl rfl rfl rfl) ?_ | refine QD.off (by decide) rfl ?_
    first | refine QD.ev T (by decide) rfl rfl ?_ | refine QD.off (by decide) rfl ?_
    first | refine QD.ev T (by decide) rfl rfl ?_ | refine QD.off (by decide) rfl ?_
    first | refine QD.ev T (by decide) rfl rfl ?_ | refine QD.off (by decide) rfl ?_
    first | refine QD.yv (by decide) rfl (Yv.load 0 T rfl rfl rfl rfl) ?_ | refine QD.yv (by decide) rfl (Yv.load 1 T rfl rfl rfl rfl) ?_ | refine QD.yv (by decide) rfl (Yv.load 2 T rfl rfl rfl rfl) ?_ | refine QD.off (by decide) rfl ?_
    first | refine QD.e (Ev.indexS T rfl rfl rfl rfl (by first | omega | (simp only [List.length_cons, List.length_nil] ; omega) | (simp; omega)) (by first | omega | (simp only [List.length_cons, List.length_nil] ; omega) | (simp; omega))) (by decide) rfl ?_ | refine QD.off (by decide) rfl ?_
    first | refine QD.yv (by decide) rfl (Yv.load 0 T rfl rfl rfl rfl) ?_ | refine QD.yv (by decide) rfl (Yv.load 1 T rfl rfl rfl rfl) ?_ | refine QD.yv (by decide) rfl (Yv.load 2 T rfl rfl rfl rfl) ?_ | refine QD.off (by decide) rfl ?_
    first | refine QD.e (Ev.eqlI rfl rfl) (by decide) rfl ?_ | refine QD.off (by decide) rfl ?_
    first | refine QD.ev T (by decide) rfl rfl ?_ | refine QD.off (by decide) rfl ?_
    first | refine QD.ev T (by decide) rfl rfl ?_ | refine QD.off (by decide) rfl ?_
    first | refine QD.ev T (by decide) rfl rfl ?_ | refine QD.off (by decide) rfl ?_
    first | refine QD.ev T (by decide) rfl rfl ?_ | refine QD.off (by decide) rfl ?_
    first | refine QD.ev T (by decide) rfl rfl ?_ | refine QD.off (by decide) rfl ?_
    first | refine QD.yv (by decide) rfl (Yv.load 0 T rfl rfl rfl rfl) ?_ | refine QD.yv (by decide) rfl (Yv.load 1 T rfl rfl rfl rfl) ?_ | refine QD.yv (by decide) rfl (Yv.load 2 T rfl rfl rfl rfl) ?_ | refine QD.off (by decide) rfl ?_
    first | refine QD.ev T (by decide) rfl rfl ?_ | refine QD.off (by decide) rfl ?_
    first | refine QD.ev T (by decide) rfl rfl ?_ | refine QD.off (by decide) rfl ?_
    first | refine QD.ev T (by decide) rfl rfl ?_ | refine QD.off (by decide) rfl ?_
    first | refine QD.yv (by decide) rfl (Yv.load 0 T rfl rfl rfl rfl) ?_ | refine QD.yv (by decide) rfl (Yv.load 1 T rfl rfl rfl rfl) ?_ | refine QD.yv (by decide) rfl (Yv.load 2 T rfl rfl rfl rfl) ?_ | refine QD.off (by decide) rfl ?_
    first | refine QD.e (Ev.indexS T rfl rfl rfl rfl (by first | omega | (simp only [List.length_cons, List.length_nil] ; omega) | (simp; omega)) (by first | omega | (simp only [List.length_cons, List.length_nil] ; omega) | (simp; omega))) (by decide) rfl ?_ | refine QD.off (by decide) rfl ?_
    first | refine QD.yv (by decide) rfl (Yv.load 0 T rfl rfl rfl rfl) ?_ | refine QD.yv (by decide) rfl (Yv.load 1 T rfl rfl rfl rfl) ?_ | refine QD.yv (by decide) rfl (Yv.load 2 T rfl rfl rfl rfl) ?_ | refine QD.off (by decide) rfl ?_
    first | refine QD.e (Ev.eqlI rfl rfl) (by decide) rfl ?_ | refine QD.off (by decide) rfl ?_
    first | refine QD.ev T (by decide) rfl rfl ?_ | refine QD.off (by decide) rfl ?_
    first | refine QD.ev T (by decide) rfl rfl ?_ | refine QD.off (by decide) rfl ?_
    first | refine QD.ev T (by decide) rfl rfl ?_ | refine QD.off (by decide) rfl ?_
    first | refine QD.ev T (by decide) rfl rfl ?_ | refine QD.off (by decide) rfl ?_
    first | refine QD.ev T (by decide) rfl rfl ?_ | refine QD.off (by decide) rfl ?_
    first | refine QD.yv (by decide) rfl (Yv.load 0 T rfl rfl rfl rfl) ?_ | refine QD.yv (by decide) rfl (Yv.load 1 T rfl rfl rfl rfl) ?_ | refine QD.yv (by decide) rfl (Yv.load 2 T rfl rfl rfl rfl) ?_ | refine QD.off (by decide) rfl ?_
    first | refine QD.ev T (by decide) rfl rfl ?_ | refine QD.off (by decide) rfl ?_
    first | refine QD.ev T (by decide) rfl rfl ?_ | refine QD.off (by decide) rfl ?_
    first | refine QD.ev T (by decide) rfl rfl ?_ | refine QD.off (by decide) rfl ?_
    first | refine QD.yv (by decide) rfl (Yv.load 0 T rfl rfl rfl rfl) ?_ | refine QD.yv (by decide) rfl (Yv.load 1 T rfl rfl rfl rfl) ?_ | refine QD.yv (by decide) rfl (Yv.load 2 T rfl rfl rfl rfl) ?_ | refine QD.off (by decide) rfl ?_
    first | refine QD.e (Ev.indexS T rfl rfl rfl rfl (by first | omega | (simp only [List.length_cons, List.length_nil] ; omega) | (simp; omega)) (by first | omega | (simp only [List.length_cons, List.length_nil] ; omega) | (simp; omega))) (by decide) rfl ?_ | refine QD.off (by decide) rfl ?_
    first | refine QD.yv (by decide) rfl (Yv.load 0 T rfl rfl rfl rfl) ?_ | refine QD.yv (by decide) rfl (Yv.load 1 T rfl rfl rfl rfl) ?_ | refine QD.yv (by decide) rfl (Yv.load 2 T rfl rfl rfl rfl) ?_ | refine QD.off (by decide) rfl ?_
    first | refine QD.e (Ev.eqlI rfl rfl) (by decide) rfl ?_ | refine QD.off (by decide) rfl ?_
    first | refine QD.ev T (by decide) rfl rfl ?_ | refine QD.off (by decide) rfl ?_
    refine QD.ev T (by decide) rfl rfl ?_
    refine QD.nil (hZ _ ?_)
    clear hZ Z
    repeat (first | refine Run.exit rfl ?_ | refine Run.cond_f rfl ?_)
    refine Run.end0 (by rw [hCf]; exact func121) results121 (hR _ _ _ ?_)
    refine ⟨?_, rfl⟩
    have : q = xs.length := by omega
    rw [← hs, this]; simp [skipB]
end Go.V
