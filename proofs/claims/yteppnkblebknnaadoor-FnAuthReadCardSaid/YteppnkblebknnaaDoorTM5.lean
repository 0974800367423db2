import Derived.Test.YteppnkblebknnaaDoorTM4
/-
  Base 64 written by the package.
-/
namespace Go.V
open Go.RowKit
set_option linter.unusedVariables false
set_option linter.unusedSimpArgs false
set_option maxRecDepth 10000
attribute [local irreducible] Run Ops QD
theorem b64ix {n : Nat} (h : n < 64) : Value.int .u8 (((b64A.getD ((n : Nat) : Int).toNat 0).toNat : Nat) : Int) = w8 (b64c n) := by
  unfold b64c
  rw [Nat.mod_eq_of_lt h]; rfl
theorem and3 (a : Nat) : a &&& 3 = a % 4 := Nat.and_two_pow_sub_one_eq_mod a 2
theorem and15 (a : Nat) : a &&& 15 = a % 16 := Nat.and_two_pow_sub_one_eq_mod a 4
theorem shl8_4 {y : Nat} (h : y < 16) : IntKind.u8.wrap (((y : Nat) : Int) * 2 ^ (4 : Int).toNat) = ((y * 16 : Nat) : Int) := by
  show IntKind.u8.wrap (((y : Nat) : Int) * 16) = _
  rw [wrap8]; omega
theorem shl8_2 {y : Nat} (h : y < 64) : IntKind.u8.wrap (((y : Nat) : Int) * 2 ^ (2 : Int).toNat) = ((y * 4 : Nat) : Int) := by
  show IntKind.u8.wrap (((y : Nat) : Int) * 4) = _
  rw [wrap8]; omega
set_option maxHeartbeats 4000000 in
theorem zz_Base64 (I : Imm) (v : Value) (bs : Bs) (hS0 : Sl tU8 I v bs) (hl : bs.length ≤ 1099511627776) : Pure Proofs.Tryd.prog 39 [v] I fun w J => w = str (b64 bs) := by
  refine Spec.enter 58 [(0, _)] Proofs.Tryd.func39 rfl Proofs.Tryd.ntmps39 (by simp) rfl ?_
  intro C hCf hR hCI
  refine Run.seq ?_
  refine Run.regionO (D := [some 2]) [true] rfl rfl rfl (fun Z hZ => ?_)
  refine q1 dc rfl rfl ?_
  refine QD.nil (hZ _ ?_)
  clear hZ Z
  refine Run.seq ?_
  refine Run.regionO (D := [some 3]) [true] rfl rfl rfl (fun Z hZ => ?_)
  refine q1 dc rfl rfl ?_
  refine QD.nil (hZ _ ?_)
  clear hZ Z
  refine Run.seq ?_; refine Run.block ?_
  refine Run.keep [0, 3] [_, _] rfl ?_
  refine Run.rounds (fun m env L J => ∃ (rest out : Bs) (v0 v3 : Value) (M : Own), m = rest.length ∧ Sl tU8 J v0 rest ∧ Buf 5 v3 out M ∧ out.length + 4 * rest.length ≤ 4 * bs.length + 8 ∧ out ++ b64 rest = b64 bs ∧ env = [(0, v0), (3, v3)] ∧ L = M ∧ Le I J) bs.length
    ⟨bs, [], v, _, [], rfl, hS0, Buf.nil _, by simp, rfl, rfl, rfl, Le.refl _⟩ ?_
  rintro m env L J ⟨rest, out, v0, v3, M, rfl, hS, hB, hol, heq, rfl, rfl, hle⟩ ih
  obtain ⟨A0, c0, rfl⟩ := hS.isSl
  repeat refine Run.seq ?_
  match rest, hS, hol, heq with
  | [], hS, hol, heq =>
    refine Run.regionO (D := [some 8, some 9, some 10]) [true, true, true] rfl rfl rfl (fun Z hZ => ?_)
    iterate 2 refine q1 dc rfl rfl ?_
    refine QD.e (Ev.gtr rfl rfl) dc rfl ?_
    refine QD.nil (hZ _ ?_)
    clear hZ Z
    repeat (first | refine Run.seq ?_ | refine Run.exit rfl ?_ | refine Run.cond_f rfl ?_)
    refine Run.regionO (D := [some 56, some 57, some 2]) [true, true, true] rfl rfl rfl (fun Z hZ => ?_)
    refine q1 dc rfl rfl ?_
    refine QD.yv dc rfl (Yv.bytesBuf T hB (fun x hx => hx) rfl rfl rfl rfl) ?_
    refine q1 dc rfl rfl ?_
    refine QD.nil (hZ _ ?_)
    clear hZ Z
    skip
    refine Run.fin (Run.ret1 (by rw [hCf]; exact Proofs.Tryd.func39) Proofs.Tryd.results39 rfl (hR _ _ _ ?_))
    refine ⟨rfl, ?_⟩
    rw [← heq]; simp [b64]
  | [a], hS, hol, heq =>
    refine Run.regionO (D := [some 8, some 9, some 10]) [true, true, true] rfl rfl rfl (fun Z hZ => ?_)
    iterate 2 refine q1 dc rfl rfl ?_
    refine qt (Ev.gtr rfl rfl) (by simp only [List.length_cons]; omega) dc rfl ?_
    refine QD.nil (hZ _ ?_)
    clear hZ Z
    repeat (first | refine Run.seq ?_ | refine Run.skip ?_ | refine Run.block ?_ | refine Run.cond_t rfl ?_)
    refine Run.region ?_
    refine Ops.alloc rfl dc (T.zeroOk rfl) rfl (fun b4 => ?_)
    refine Ops.nil ?_
    refine Run.seq ?_
    obtain ⟨news, hC, hF⟩ := First.sl (q := 1) hS (by simp only [List.length_cons]; omega)
    obtain rfl := hC.bytes_eq
    refine Run.regionP (D := [some 11, some 12, some 13, some 5]) [true, true] 2 rfl rfl rfl (by simp only [List.drop_succ_cons, List.drop_zero]; rfl) (fun Z hZ => ?_)
    refine QD.e (Ev.sliceArr T rfl rfl rfl) dc rfl ?_
    refine q1 dc rfl rfl ?_
    refine QD.nil (hZ _ ?_)
    clear hZ Z
    refine Ops.copyOwn (q := 1) 0 T rfl dc rfl rfl rfl rfl (fun W => rfl) (by show min _ 3 = _; simp only [List.length_cons, List.length_nil]; omega) rfl (fun W hi => hF W _ _ _ _ hi) (Nat.le_of_ble_eq_true rfl) rfl rfl ?_
    refine Ops.pure T rfl dc rfl ?_
    refine Ops.nil ?_
    refine Run.seq ?_
    refine Run.region ?_
    iterate 2 refine Ops.pure T rfl dc rfl ?_
    refine Ops.sliceSl (kd := .i64) (kd' := .i64) (l' := 1) hS rfl dc rfl (.inl ⟨rfl, rfl⟩) (.inr ⟨_, rfl, rfl⟩) (by simp only [List.length_cons]; omega) (Nat.le_refl _) (T.undOk rfl) (T.sizeOk rfl) fun v2 hS2 => ?_
    rw [List.take_length] at hS2
    simp only [List.drop_succ_cons, List.drop_zero] at hS2
    refine Ops.pure T rfl dc rfl ?_
    refine Ops.nil ?_
    refine Run.seq ?_
    have la := a.toNat_lt
    have lb := (0 : UInt8).toNat_lt
    have lc := (0 : UInt8).toNat_lt
    refine Run.regionT (D := [some 17, some 18, some 19, some 20, some 21, some 22, some 23, some 24, some 25, some 26, some 27, some 28, some 29, some 30, some 31, some 32, some 33, some 34, some 35, some 36, some 37, some 38, some 39, some 40, some 41, some 42, some 43, some 6]) (fun _ => True) [true, true, true, true, true, true, true, true, true, true, true, true, true, true, true, true, true, true, true, true, true, true, true, true, true, true] (bl 28 67108863) 2 (by kernel_rfl) (by kernel_rfl) (by kernel_rfl) rfl (fun Z hZ => ?_)
    refine QD.e (Ev.indexP T rfl rfl rfl rfl om om) dc rfl ?_
    refine QD.yv dc rfl (Yv.load 0 T rfl rfl rfl rfl) ?_
    refine QD.e (Ev.shrK rfl rfl dc dc (shrL a.toNat 2)) dc rfl ?_
    refine QD.e ((Ev.indexT T rfl rfl rfl (by omega) (by show _ < (64 : Int); omega)).as (b64ix (n := a.toNat / 4) (by omega))) dc rfl ?_
    refine QD.e (Ev.indexP T rfl rfl rfl rfl om om) dc rfl ?_
    refine QD.yv dc rfl (Yv.load 0 T rfl rfl rfl rfl) ?_
    refine QD.e (Ev.andK (b := 3) (c := a.toNat % 4) rfl rfl la dc (and3 _) (wrapN8 (by omega))) dc rfl ?_
    refine QD.e (Ev.shlK rfl rfl dc dc (shl8_4 (by omega))) dc rfl ?_
    refine QD.e (Ev.indexP T rfl rfl rfl rfl om om) dc rfl ?_
    refine QD.yv dc rfl (Yv.load 0 T rfl rfl rfl rfl) ?_
    refine QD.e (Ev.shrK rfl rfl dc dc (shrL (0 : UInt8).toNat 4)) dc rfl ?_
    refine QD.e (Ev.orK (a := a.toNat % 4 * 16) (b := (0 : UInt8).toNat / 16) (c := a.toNat % 4 * 16 + (0 : UInt8).toNat / 16) rfl rfl (by show _ < 256; omega) (by show _ < 256; omega) (orSh 4 (by omega)) (wrapN8 (by omega))) dc rfl ?_
    refine QD.e ((Ev.indexT T rfl rfl rfl (by omega) (by show _ < (64 : Int); omega)).as (b64ix (n := a.toNat % 4 * 16 + (0 : UInt8).toNat / 16) (by omega))) dc rfl ?_
    refine QD.e (Ev.indexP T rfl rfl rfl rfl om om) dc rfl ?_
    refine QD.yv dc rfl (Yv.load 0 T rfl rfl rfl rfl) ?_
    refine QD.e (Ev.andK (b := 15) (c := (0 : UInt8).toNat % 16) rfl rfl lb dc (and15 _) (wrapN8 (by omega))) dc rfl ?_
    refine QD.e (Ev.shlK rfl rfl dc dc (shl8_2 (by omega))) dc rfl ?_
    refine QD.e (Ev.indexP T rfl rfl rfl rfl om om) dc rfl ?_
    refine QD.yv dc rfl (Yv.load 0 T rfl rfl rfl rfl) ?_
    refine QD.e (Ev.shrK rfl rfl dc dc (shrL (0 : UInt8).toNat 6)) dc rfl ?_
    refine QD.e (Ev.orK (a := (0 : UInt8).toNat % 16 * 4) (b := (0 : UInt8).toNat / 64) (c := (0 : UInt8).toNat % 16 * 4 + (0 : UInt8).toNat / 64) rfl rfl (by show _ < 256; omega) (by show _ < 256; omega) (orSh 2 (by omega)) (wrapN8 (by omega))) dc rfl ?_
    refine QD.e ((Ev.indexT T rfl rfl rfl (by omega) (by show _ < (64 : Int); omega)).as (b64ix (n := (0 : UInt8).toNat % 16 * 4 + (0 : UInt8).toNat / 64) (by omega))) dc rfl ?_
    refine QD.e (Ev.indexP T rfl rfl rfl rfl om om) dc rfl ?_
    refine QD.yv dc rfl (Yv.load 0 T rfl rfl rfl rfl) ?_
    refine QD.e (Ev.andK (b := 63) (c := (0 : UInt8).toNat % 64) rfl rfl lc dc (and63 _) (wrapN8 (by omega))) dc rfl ?_
    refine QD.e ((Ev.indexT T rfl rfl rfl (by omega) (by show _ < (64 : Int); omega)).as (b64ix (n := (0 : UInt8).toNat % 64) (by omega))) dc rfl ?_
    refine QD.nil (hZ _ ?_)
    clear hZ Z
    refine RAny.on 26 (bl 28 134217727) rfl (by kernel_rfl) rfl dc (Eff.lit T rfl rfl rfl dc dc rfl rfl rfl rfl rfl fun bq => ⟨fun _ _ => trivial, ?_⟩)
    refine RAny.tk 27 (bl 28 268435455) rfl (by kernel_rfl) dc (fun _ _ => trivial) (Yld.eval T rfl rfl) ?_
    refine RAny.done _ (by kernel_rfl) ?_
    repeat refine Run.seq ?_
    refine Run.regionO (D := [some 44, some 45, some 7]) [true, true, true] rfl rfl rfl (fun Z hZ => ?_)
    refine q1 dc rfl rfl ?_
    refine QD.e (Ev.addI rfl rfl (wI om om)) dc rfl ?_
    refine q1 dc rfl rfl ?_
    refine QD.nil (hZ _ ?_)
    clear hZ Z
    refine Run.block ?_
    refine Run.loop ?_
    repeat refine Run.seq ?_
    refine Run.regionO (D := [some 46, some 47]) [true, true] rfl rfl rfl (fun Z hZ => ?_)
    refine q1 dc rfl rfl ?_
    refine QD.e (Ev.lss rfl rfl) dc rfl ?_
    refine QD.nil (hZ _ ?_)
    clear hZ Z
    repeat (first | refine Run.seq ?_ | refine Run.skip ?_ | refine Run.block ?_ | refine Run.cond_t rfl ?_)
    refine Run.regionP (D := [some 50, some 51, some 52, none]) [true, true, true] 3 rfl rfl rfl (by simp only [List.drop_succ_cons, List.drop_zero]; rfl) (fun Z hZ => ?_)
    iterate 2 refine q1 dc rfl rfl ?_
    refine QD.e (Ev.indexS T rfl rfl rfl rfl om om) dc rfl ?_
    refine QD.nil (hZ _ ?_)
    clear hZ Z
    refine Ops.store 0 rfl rfl rfl rfl rfl (T.sizeOk rfl) rfl (Nat.le_of_ble_eq_true rfl) rfl rfl ?_
    refine Ops.nil ?_
    refine Run.inBlock ?_
    refine Run.regionO (D := [some 48, some 49, some 7]) [true, true, true] rfl rfl rfl (fun Z hZ => ?_)
    refine q1 dc rfl rfl ?_
    refine QD.e (Ev.addI rfl rfl (wI om om)) dc rfl ?_
    refine q1 dc rfl rfl ?_
    refine QD.nil (hZ _ ?_)
    clear hZ Z
    refine Run.inLoop ?_
    repeat refine Run.seq ?_
    refine Run.regionO (D := [some 46, some 47]) [true, true] rfl rfl rfl (fun Z hZ => ?_)
    refine q1 dc rfl rfl ?_
    refine QD.e (Ev.lss rfl rfl) dc rfl ?_
    refine QD.nil (hZ _ ?_)
    clear hZ Z
    repeat (first | refine Run.seq ?_ | refine Run.skip ?_ | refine Run.block ?_ | refine Run.cond_t rfl ?_)
    refine Run.regionP (D := [some 50, some 51, some 52, none]) [true, true, true] 3 rfl rfl rfl (by simp only [List.drop_succ_cons, List.drop_zero]; rfl) (fun Z hZ => ?_)
    iterate 2 refine q1 dc rfl rfl ?_
    refine QD.e (Ev.indexS T rfl rfl rfl rfl om om) dc rfl ?_
    refine QD.nil (hZ _ ?_)
    clear hZ Z
    refine Ops.store 0 rfl rfl rfl rfl rfl (T.sizeOk rfl) rfl (Nat.le_of_ble_eq_true rfl) rfl rfl ?_
    refine Ops.nil ?_
    refine Run.inBlock ?_
    refine Run.regionO (D := [some 48, some 49, some 7]) [true, true, true] rfl rfl rfl (fun Z hZ => ?_)
    refine q1 dc rfl rfl ?_
    refine QD.e (Ev.addI rfl rfl (wI om om)) dc rfl ?_
    refine q1 dc rfl rfl ?_
    refine QD.nil (hZ _ ?_)
    clear hZ Z
    refine Run.inLoop ?_
    repeat refine Run.seq ?_
    refine Run.regionO (D := [some 46, some 47]) [true, true] rfl rfl rfl (fun Z hZ => ?_)
    refine q1 dc rfl rfl ?_
    refine QD.e (Ev.lss rfl rfl) dc rfl ?_
    refine QD.nil (hZ _ ?_)
    clear hZ Z
    repeat (first | refine Run.exit rfl ?_ | refine Run.cond_f rfl ?_)
    refine Run.regionP (D := [some 53, some 54, some 55, some 3]) [true, true] 2 rfl rfl rfl (by simp only [List.drop_succ_cons, List.drop_zero]; rfl) (fun Z hZ => ?_)
    iterate 2 refine q1 dc rfl rfl ?_
    refine QD.nil (hZ _ ?_)
    clear hZ Z
    refine Ops.appLit [b64c (a.toNat / 4), b64c (a.toNat % 4 * 16), 61, 61] (N := [_]) btB hB rfl dc rfl rfl rfl rfl rfl (by simp; omega) fun v3 M3 hB3 => ?_
    refine Ops.pure T rfl dc rfl ?_
    refine Ops.nil ?_
    refine Run.inBlock ?_
    refine Run.keep [0, 3] [_, _] rfl ?_
    refine Run.dropL (List.sublist_cons_self _ _) ?_
    exact ih ([] : Bs).length _ _ _ (by simp only [List.length_cons, List.length_nil]; omega) ⟨[], out ++ [b64c (a.toNat / 4), b64c (a.toNat % 4 * 16), 61, 61], _, v3, M3, rfl, hS2, hB3, by simp only [List.length_append, List.length_cons, List.length_nil] at hol ⊢; omega, by rw [← heq]; simp [b64], rfl, rfl, hle⟩
  | [a, b], hS, hol, heq =>
    refine Run.regionO (D := [some 8, some 9, some 10]) [true, true, true] rfl rfl rfl (fun Z hZ => ?_)
    iterate 2 refine q1 dc rfl rfl ?_
    refine qt (Ev.gtr rfl rfl) (by simp only [List.length_cons]; omega) dc rfl ?_
    refine QD.nil (hZ _ ?_)
    clear hZ Z
    repeat (first | refine Run.seq ?_ | refine Run.skip ?_ | refine Run.block ?_ | refine Run.cond_t rfl ?_)
    refine Run.region ?_
    refine Ops.alloc rfl dc (T.zeroOk rfl) rfl (fun b4 => ?_)
    refine Ops.nil ?_
    refine Run.seq ?_
    obtain ⟨news, hC, hF⟩ := First.sl (q := 2) hS (by simp only [List.length_cons]; omega)
    obtain rfl := hC.bytes_eq
    refine Run.regionP (D := [some 11, some 12, some 13, some 5]) [true, true] 2 rfl rfl rfl (by simp only [List.drop_succ_cons, List.drop_zero]; rfl) (fun Z hZ => ?_)
    refine QD.e (Ev.sliceArr T rfl rfl rfl) dc rfl ?_
    refine q1 dc rfl rfl ?_
    refine QD.nil (hZ _ ?_)
    clear hZ Z
    refine Ops.copyOwn (q := 2) 0 T rfl dc rfl rfl rfl rfl (fun W => rfl) (by show min _ 3 = _; simp only [List.length_cons, List.length_nil]; omega) rfl (fun W hi => hF W _ _ _ _ hi) (Nat.le_of_ble_eq_true rfl) rfl rfl ?_
    refine Ops.pure T rfl dc rfl ?_
    refine Ops.nil ?_
    refine Run.seq ?_
    refine Run.region ?_
    iterate 2 refine Ops.pure T rfl dc rfl ?_
    refine Ops.sliceSl (kd := .i64) (kd' := .i64) (l' := 2) hS rfl dc rfl (.inl ⟨rfl, rfl⟩) (.inr ⟨_, rfl, rfl⟩) (by simp only [List.length_cons]; omega) (Nat.le_refl _) (T.undOk rfl) (T.sizeOk rfl) fun v2 hS2 => ?_
    rw [List.take_length] at hS2
    simp only [List.drop_succ_cons, List.drop_zero] at hS2
    refine Ops.pure T rfl dc rfl ?_
    refine Ops.nil ?_
    refine Run.seq ?_
    have la := a.toNat_lt
    have lb := b.toNat_lt
    have lc := (0 : UInt8).toNat_lt
    refine Run.regionT (D := [some 17, some 18, some 19, some 20, some 21, some 22, some 23, some 24, some 25, some 26, some 27, some 28, some 29, some 30, some 31, some 32, some 33, some 34, some 35, some 36, some 37, some 38, some 39, some 40, some 41, some 42, some 43, some 6]) (fun _ => True) [true, true, true, true, true, true, true, true, true, true, true, true, true, true, true, true, true, true, true, true, true, true, true, true, true, true] (bl 28 67108863) 2 (by kernel_rfl) (by kernel_rfl) (by kernel_rfl) rfl (fun Z hZ => ?_)
    refine QD.e (Ev.indexP T rfl rfl rfl rfl om om) dc rfl ?_
    refine QD.yv dc rfl (Yv.load 0 T rfl rfl rfl rfl) ?_
    refine QD.e (Ev.shrK rfl rfl dc dc (shrL a.toNat 2)) dc rfl ?_
    refine QD.e ((Ev.indexT T rfl rfl rfl (by omega) (by show _ < (64 : Int); omega)).as (b64ix (n := a.toNat / 4) (by omega))) dc rfl ?_
    refine QD.e (Ev.indexP T rfl rfl rfl rfl om om) dc rfl ?_
    refine QD.yv dc rfl (Yv.load 0 T rfl rfl rfl rfl) ?_
    refine QD.e (Ev.andK (b := 3) (c := a.toNat % 4) rfl rfl la dc (and3 _) (wrapN8 (by omega))) dc rfl ?_
    refine QD.e (Ev.shlK rfl rfl dc dc (shl8_4 (by omega))) dc rfl ?_
    refine QD.e (Ev.indexP T rfl rfl rfl rfl om om) dc rfl ?_
    refine QD.yv dc rfl (Yv.load 0 T rfl rfl rfl rfl) ?_
    refine QD.e (Ev.shrK rfl rfl dc dc (shrL b.toNat 4)) dc rfl ?_
    refine QD.e (Ev.orK (a := a.toNat % 4 * 16) (b := b.toNat / 16) (c := a.toNat % 4 * 16 + b.toNat / 16) rfl rfl (by show _ < 256; omega) (by show _ < 256; omega) (orSh 4 (by omega)) (wrapN8 (by omega))) dc rfl ?_
    refine QD.e ((Ev.indexT T rfl rfl rfl (by omega) (by show _ < (64 : Int); omega)).as (b64ix (n := a.toNat % 4 * 16 + b.toNat / 16) (by omega))) dc rfl ?_
    refine QD.e (Ev.indexP T rfl rfl rfl rfl om om) dc rfl ?_
    refine QD.yv dc rfl (Yv.load 0 T rfl rfl rfl rfl) ?_
    refine QD.e (Ev.andK (b := 15) (c := b.toNat % 16) rfl rfl lb dc (and15 _) (wrapN8 (by omega))) dc rfl ?_
    refine QD.e (Ev.shlK rfl rfl dc dc (shl8_2 (by omega))) dc rfl ?_
    refine QD.e (Ev.indexP T rfl rfl rfl rfl om om) dc rfl ?_
    refine QD.yv dc rfl (Yv.load 0 T rfl rfl rfl rfl) ?_
    refine QD.e (Ev.shrK rfl rfl dc dc (shrL (0 : UInt8).toNat 6)) dc rfl ?_
    refine QD.e (Ev.orK (a := b.toNat % 16 * 4) (b := (0 : UInt8).toNat / 64) (c := b.toNat % 16 * 4 + (0 : UInt8).toNat / 64) rfl rfl (by show _ < 256; omega) (by show _ < 256; omega) (orSh 2 (by omega)) (wrapN8 (by omega))) dc rfl ?_
    refine QD.e ((Ev.indexT T rfl rfl rfl (by omega) (by show _ < (64 : Int); omega)).as (b64ix (n := b.toNat % 16 * 4 + (0 : UInt8).toNat / 64) (by omega))) dc rfl ?_
    refine QD.e (Ev.indexP T rfl rfl rfl rfl om om) dc rfl ?_
    refine QD.yv dc rfl (Yv.load 0 T rfl rfl rfl rfl) ?_
    refine QD.e (Ev.andK (b := 63) (c := (0 : UInt8).toNat % 64) rfl rfl lc dc (and63 _) (wrapN8 (by omega))) dc rfl ?_
    refine QD.e ((Ev.indexT T rfl rfl rfl (by omega) (by show _ < (64 : Int); omega)).as (b64ix (n := (0 : UInt8).toNat % 64) (by omega))) dc rfl ?_
    refine QD.nil (hZ _ ?_)
    clear hZ Z
    refine RAny.on 26 (bl 28 134217727) rfl (by kernel_rfl) rfl dc (Eff.lit T rfl rfl rfl dc dc rfl rfl rfl rfl rfl fun bq => ⟨fun _ _ => trivial, ?_⟩)
    refine RAny.tk 27 (bl 28 268435455) rfl (by kernel_rfl) dc (fun _ _ => trivial) (Yld.eval T rfl rfl) ?_
    refine RAny.done _ (by kernel_rfl) ?_
    repeat refine Run.seq ?_
    refine Run.regionO (D := [some 44, some 45, some 7]) [true, true, true] rfl rfl rfl (fun Z hZ => ?_)
    refine q1 dc rfl rfl ?_
    refine QD.e (Ev.addI rfl rfl (wI om om)) dc rfl ?_
    refine q1 dc rfl rfl ?_
    refine QD.nil (hZ _ ?_)
    clear hZ Z
    refine Run.block ?_
    refine Run.loop ?_
    repeat refine Run.seq ?_
    refine Run.regionO (D := [some 46, some 47]) [true, true] rfl rfl rfl (fun Z hZ => ?_)
    refine q1 dc rfl rfl ?_
    refine QD.e (Ev.lss rfl rfl) dc rfl ?_
    refine QD.nil (hZ _ ?_)
    clear hZ Z
    repeat (first | refine Run.seq ?_ | refine Run.skip ?_ | refine Run.block ?_ | refine Run.cond_t rfl ?_)
    refine Run.regionP (D := [some 50, some 51, some 52, none]) [true, true, true] 3 rfl rfl rfl (by simp only [List.drop_succ_cons, List.drop_zero]; rfl) (fun Z hZ => ?_)
    iterate 2 refine q1 dc rfl rfl ?_
    refine QD.e (Ev.indexS T rfl rfl rfl rfl om om) dc rfl ?_
    refine QD.nil (hZ _ ?_)
    clear hZ Z
    refine Ops.store 0 rfl rfl rfl rfl rfl (T.sizeOk rfl) rfl (Nat.le_of_ble_eq_true rfl) rfl rfl ?_
    refine Ops.nil ?_
    refine Run.inBlock ?_
    refine Run.regionO (D := [some 48, some 49, some 7]) [true, true, true] rfl rfl rfl (fun Z hZ => ?_)
    refine q1 dc rfl rfl ?_
    refine QD.e (Ev.addI rfl rfl (wI om om)) dc rfl ?_
    refine q1 dc rfl rfl ?_
    refine QD.nil (hZ _ ?_)
    clear hZ Z
    refine Run.inLoop ?_
    repeat refine Run.seq ?_
    refine Run.regionO (D := [some 46, some 47]) [true, true] rfl rfl rfl (fun Z hZ => ?_)
    refine q1 dc rfl rfl ?_
    refine QD.e (Ev.lss rfl rfl) dc rfl ?_
    refine QD.nil (hZ _ ?_)
    clear hZ Z
    repeat (first | refine Run.exit rfl ?_ | refine Run.cond_f rfl ?_)
    refine Run.regionP (D := [some 53, some 54, some 55, some 3]) [true, true] 2 rfl rfl rfl (by simp only [List.drop_succ_cons, List.drop_zero]; rfl) (fun Z hZ => ?_)
    iterate 2 refine q1 dc rfl rfl ?_
    refine QD.nil (hZ _ ?_)
    clear hZ Z
    refine Ops.appLit [b64c (a.toNat / 4), b64c (a.toNat % 4 * 16 + b.toNat / 16), b64c (b.toNat % 16 * 4), 61] (N := [_]) btB hB rfl dc rfl rfl rfl rfl rfl (by simp; omega) fun v3 M3 hB3 => ?_
    refine Ops.pure T rfl dc rfl ?_
    refine Ops.nil ?_
    refine Run.inBlock ?_
    refine Run.keep [0, 3] [_, _] rfl ?_
    refine Run.dropL (List.sublist_cons_self _ _) ?_
    exact ih ([] : Bs).length _ _ _ (by simp only [List.length_cons, List.length_nil]; omega) ⟨[], out ++ [b64c (a.toNat / 4), b64c (a.toNat % 4 * 16 + b.toNat / 16), b64c (b.toNat % 16 * 4), 61], _, v3, M3, rfl, hS2, hB3, by simp only [List.length_append, List.length_cons, List.length_nil] at hol ⊢; omega, by rw [← heq]; simp [b64], rfl, rfl, hle⟩
  | a :: b :: c :: t, hS, hol, heq =>
    refine Run.regionO (D := [some 8, some 9, some 10]) [true, true, true] rfl rfl rfl (fun Z hZ => ?_)
    iterate 2 refine q1 dc rfl rfl ?_
    refine qt (Ev.gtr rfl rfl) (by simp only [List.length_cons]; omega) dc rfl ?_
    refine QD.nil (hZ _ ?_)
    clear hZ Z
    repeat (first | refine Run.seq ?_ | refine Run.skip ?_ | refine Run.block ?_ | refine Run.cond_t rfl ?_)
    refine Run.region ?_
    refine Ops.alloc rfl dc (T.zeroOk rfl) rfl (fun b4 => ?_)
    refine Ops.nil ?_
    refine Run.seq ?_
    obtain ⟨news, hC, hF⟩ := First.sl (q := 3) hS (by simp only [List.length_cons]; omega)
    obtain rfl := hC.bytes_eq
    refine Run.regionP (D := [some 11, some 12, some 13, some 5]) [true, true] 2 rfl rfl rfl (by simp only [List.drop_succ_cons, List.drop_zero]; rfl) (fun Z hZ => ?_)
    refine QD.e (Ev.sliceArr T rfl rfl rfl) dc rfl ?_
    refine q1 dc rfl rfl ?_
    refine QD.nil (hZ _ ?_)
    clear hZ Z
    refine Ops.copyOwn (q := 3) 0 T rfl dc rfl rfl rfl rfl (fun W => rfl) (by show min _ 3 = _; simp only [List.length_cons, List.length_nil]; omega) rfl (fun W hi => hF W _ _ _ _ hi) (Nat.le_of_ble_eq_true rfl) rfl rfl ?_
    refine Ops.pure T rfl dc rfl ?_
    refine Ops.nil ?_
    refine Run.seq ?_
    refine Run.region ?_
    iterate 2 refine Ops.pure T rfl dc rfl ?_
    refine Ops.sliceSl (kd := .i64) (kd' := .i64) (l' := 3) hS rfl dc rfl (.inl ⟨rfl, rfl⟩) (.inr ⟨_, rfl, rfl⟩) (by simp only [List.length_cons]; omega) (Nat.le_refl _) (T.undOk rfl) (T.sizeOk rfl) fun v2 hS2 => ?_
    rw [List.take_length] at hS2
    simp only [List.drop_succ_cons, List.drop_zero] at hS2
    refine Ops.pure T rfl dc rfl ?_
    refine Ops.nil ?_
    refine Run.seq ?_
    have la := a.toNat_lt
    have lb := b.toNat_lt
    have lc := c.toNat_lt
    refine Run.regionT (D := [some 17, some 18, some 19, some 20, some 21, some 22, some 23, some 24, some 25, some 26, some 27, some 28, some 29, some 30, some 31, some 32, some 33, some 34, some 35, some 36, some 37, some 38, some 39, some 40, some 41, some 42, some 43, some 6]) (fun _ => True) [true, true, true, true, true, true, true, true, true, true, true, true, true, true, true, true, true, true, true, true, true, true, true, true, true, true] (bl 28 67108863) 2 (by kernel_rfl) (by kernel_rfl) (by kernel_rfl) rfl (fun Z hZ => ?_)
    refine QD.e (Ev.indexP T rfl rfl rfl rfl om om) dc rfl ?_
    refine QD.yv dc rfl (Yv.load 0 T rfl rfl rfl rfl) ?_
    refine QD.e (Ev.shrK rfl rfl dc dc (shrL a.toNat 2)) dc rfl ?_
    refine QD.e ((Ev.indexT T rfl rfl rfl (by omega) (by show _ < (64 : Int); omega)).as (b64ix (n := a.toNat / 4) (by omega))) dc rfl ?_
    refine QD.e (Ev.indexP T rfl rfl rfl rfl om om) dc rfl ?_
    refine QD.yv dc rfl (Yv.load 0 T rfl rfl rfl rfl) ?_
    refine QD.e (Ev.andK (b := 3) (c := a.toNat % 4) rfl rfl la dc (and3 _) (wrapN8 (by omega))) dc rfl ?_
    refine QD.e (Ev.shlK rfl rfl dc dc (shl8_4 (by omega))) dc rfl ?_
    refine QD.e (Ev.indexP T rfl rfl rfl rfl om om) dc rfl ?_
    refine QD.yv dc rfl (Yv.load 0 T rfl rfl rfl rfl) ?_
    refine QD.e (Ev.shrK rfl rfl dc dc (shrL b.toNat 4)) dc rfl ?_
    refine QD.e (Ev.orK (a := a.toNat % 4 * 16) (b := b.toNat / 16) (c := a.toNat % 4 * 16 + b.toNat / 16) rfl rfl (by show _ < 256; omega) (by show _ < 256; omega) (orSh 4 (by omega)) (wrapN8 (by omega))) dc rfl ?_
    refine QD.e ((Ev.indexT T rfl rfl rfl (by omega) (by show _ < (64 : Int); omega)).as (b64ix (n := a.toNat % 4 * 16 + b.toNat / 16) (by omega))) dc rfl ?_
    refine QD.e (Ev.indexP T rfl rfl rfl rfl om om) dc rfl ?_
    refine QD.yv dc rfl (Yv.load 0 T rfl rfl rfl rfl) ?_
    refine QD.e (Ev.andK (b := 15) (c := b.toNat % 16) rfl rfl lb dc (and15 _) (wrapN8 (by omega))) dc rfl ?_
    refine QD.e (Ev.shlK rfl rfl dc dc (shl8_2 (by omega))) dc rfl ?_
    refine QD.e (Ev.indexP T rfl rfl rfl rfl om om) dc rfl ?_
    refine QD.yv dc rfl (Yv.load 0 T rfl rfl rfl rfl) ?_
    refine QD.e (Ev.shrK rfl rfl dc dc (shrL c.toNat 6)) dc rfl ?_
    refine QD.e (Ev.orK (a := b.toNat % 16 * 4) (b := c.toNat / 64) (c := b.toNat % 16 * 4 + c.toNat / 64) rfl rfl (by show _ < 256; omega) (by show _ < 256; omega) (orSh 2 (by omega)) (wrapN8 (by omega))) dc rfl ?_
    refine QD.e ((Ev.indexT T rfl rfl rfl (by omega) (by show _ < (64 : Int); omega)).as (b64ix (n := b.toNat % 16 * 4 + c.toNat / 64) (by omega))) dc rfl ?_
    refine QD.e (Ev.indexP T rfl rfl rfl rfl om om) dc rfl ?_
    refine QD.yv dc rfl (Yv.load 0 T rfl rfl rfl rfl) ?_
    refine QD.e (Ev.andK (b := 63) (c := c.toNat % 64) rfl rfl lc dc (and63 _) (wrapN8 (by omega))) dc rfl ?_
    refine QD.e ((Ev.indexT T rfl rfl rfl (by omega) (by show _ < (64 : Int); omega)).as (b64ix (n := c.toNat % 64) (by omega))) dc rfl ?_
    refine QD.nil (hZ _ ?_)
    clear hZ Z
    refine RAny.on 26 (bl 28 134217727) rfl (by kernel_rfl) rfl dc (Eff.lit T rfl rfl rfl dc dc rfl rfl rfl rfl rfl fun bq => ⟨fun _ _ => trivial, ?_⟩)
    refine RAny.tk 27 (bl 28 268435455) rfl (by kernel_rfl) dc (fun _ _ => trivial) (Yld.eval T rfl rfl) ?_
    refine RAny.done _ (by kernel_rfl) ?_
    repeat refine Run.seq ?_
    refine Run.regionO (D := [some 44, some 45, some 7]) [true, true, true] rfl rfl rfl (fun Z hZ => ?_)
    refine q1 dc rfl rfl ?_
    refine QD.e (Ev.addI rfl rfl (wI om om)) dc rfl ?_
    refine q1 dc rfl rfl ?_
    refine QD.nil (hZ _ ?_)
    clear hZ Z
    refine Run.block ?_
    refine Run.loop ?_
    repeat refine Run.seq ?_
    refine Run.regionO (D := [some 46, some 47]) [true, true] rfl rfl rfl (fun Z hZ => ?_)
    refine q1 dc rfl rfl ?_
    refine QD.e (Ev.lss rfl rfl) dc rfl ?_
    refine QD.nil (hZ _ ?_)
    clear hZ Z
    repeat (first | refine Run.exit rfl ?_ | refine Run.cond_f rfl ?_)
    refine Run.regionP (D := [some 53, some 54, some 55, some 3]) [true, true] 2 rfl rfl rfl (by simp only [List.drop_succ_cons, List.drop_zero]; rfl) (fun Z hZ => ?_)
    iterate 2 refine q1 dc rfl rfl ?_
    refine QD.nil (hZ _ ?_)
    clear hZ Z
    refine Ops.appLit [b64c (a.toNat / 4), b64c (a.toNat % 4 * 16 + b.toNat / 16), b64c (b.toNat % 16 * 4 + c.toNat / 64), b64c (c.toNat % 64)] (N := [_]) btB hB rfl dc rfl rfl rfl rfl rfl (by simp; omega) fun v3 M3 hB3 => ?_
    refine Ops.pure T rfl dc rfl ?_
    refine Ops.nil ?_
    refine Run.inBlock ?_
    refine Run.keep [0, 3] [_, _] rfl ?_
    refine Run.dropL (List.sublist_cons_self _ _) ?_
    exact ih (t : Bs).length _ _ _ (by simp only [List.length_cons, List.length_nil]; omega) ⟨t, out ++ [b64c (a.toNat / 4), b64c (a.toNat % 4 * 16 + b.toNat / 16), b64c (b.toNat % 16 * 4 + c.toNat / 64), b64c (c.toNat % 64)], _, v3, M3, rfl, hS2, hB3, by simp only [List.length_append, List.length_cons, List.length_nil] at hol ⊢; omega, by rw [← heq]; simp [b64], rfl, rfl, hle⟩
end Go.V
/-
  Ways taken: spec.wayward.take, blank.
-/
namespace Go.V
open Go.RowKit
set_option linter.unusedVariables false
set_option linter.unusedSimpArgs false
set_option maxRecDepth 10000
attribute [local irreducible] Run Ops QD
/-- bytes that are left to take -/
def Wy (I : Imm) (w : Bs) (o : Obj) : Prop := ∃ (v : Value) (ws : Bs) (k : Nat), o = blk [v, .int .i64 (k : Int)] 69 ∧ Sl tU8 I v ws ∧ k ≤ ws.length ∧ ws.drop k = w ∧ ws.length ≤ 2147483647
theorem Wy.mono {I J : Imm} {w : Bs} {o : Obj} (h : Wy I w o) (hle : Le I J) : Wy J w o := by
  obtain ⟨v, ws, k, h1, h2, h3⟩ := h
  exact ⟨v, ws, k, h1, h2.mono hle, h3⟩
set_option maxHeartbeats 1000000 in
theorem way_take (I : Imm) (w : Bs) (p n : Nat) (o : Obj) (hW : Wy I w o) (hn : 0 < n) (hn2 : n ≤ 4611686018427387904) :
    Spec Proofs.Tryd.prog 32 [.pointer (some ⟨p, 0, none⟩), .int .i64 (n : Int)] I [(p, o)] fun v J M => v = .int .i64 ((tk n w).1 : Int) ∧ ∃ o', M = [(p, o')] ∧ Wy J (tk n w).2 o' := by
  obtain ⟨v, ws, k, rfl, hS, hk, hd, hl⟩ := hW
  have hS0 := hS
  obtain ⟨A0, c0, rfl⟩ := hS.isSl
  refine Spec.enter 36 [(0, _), (1, _)] Proofs.Tryd.func32 rfl Proofs.Tryd.ntmps32 (by simp) rfl ?_
  intro C hCf hR hCI
  refine Run.seq ?_
  refine Run.regionO (D := [some 4]) [true] rfl rfl rfl (fun Z hZ => ?_)
  refine q1 dc rfl rfl ?_
  refine QD.nil (hZ _ ?_)
  clear hZ Z
  repeat refine Run.seq ?_
  refine Run.regionAny (Holds I [(p, blk [.slice A0 ws.length c0, .int .i64 (k : Int)] 69)]) (bl 10 0) (by kernel_rfl) (by kernel_rfl) ?_
  refine RAny.tk 0 (bl 10 1) rfl (by kernel_rfl) dc (fun W h => h.holds (Le.refl _) (by first | exact mp rfl | exact mq rfl)) (Yld.eval T rfl rfl) ?_
  refine RAny.tk 1 (bl 10 3) rfl (by kernel_rfl) dc (fun W h => h.holds (Le.refl _) (by first | exact mp rfl | exact mq rfl)) (Yld.eval T rfl rfl) ?_
  refine RAny.tk 2 (bl 10 7) rfl (by kernel_rfl) dc (fun W h => h.holds (Le.refl _) (by first | exact mp rfl | exact mq rfl)) (Yld.eval T rfl rfl) ?_
  refine RAny.tk 3 (bl 10 15) rfl (by kernel_rfl) dc (fun W h => h.holds (Le.refl _) (by first | exact mp rfl | exact mq rfl)) (Yld.load 0 T rfl rfl rfl rfl rfl) ?_
  refine RAny.tk 4 (bl 10 31) rfl (by kernel_rfl) dc (fun W h => h.holds (Le.refl _) (by first | exact mp rfl | exact mq rfl)) (Yld.eval T rfl rfl) ?_
  refine RAny.tk 5 (bl 10 63) rfl (by kernel_rfl) dc (fun W h => h.holds (Le.refl _) (by first | exact mp rfl | exact mq rfl)) (Yld.eval T rfl rfl) ?_
  refine RAny.tk 6 (bl 10 127) rfl (by kernel_rfl) dc (fun W h => h.holds (Le.refl _) (by first | exact mp rfl | exact mq rfl)) (Yld.eval T rfl rfl) ?_
  refine RAny.tk 7 (bl 10 255) rfl (by kernel_rfl) dc (fun W h => h.holds (Le.refl _) (by first | exact mp rfl | exact mq rfl)) (Yld.load 0 T rfl rfl rfl rfl rfl) ?_
  refine RAny.tk 8 (bl 10 511) rfl (by kernel_rfl) dc (fun W h => h.holds (Le.refl _) (by first | exact mp rfl | exact mq rfl)) (Yld.lenV T rfl rfl rfl) ?_
  skip
  by_cases hlt : k < ws.length
  · obtain ⟨db, off, c, hRd⟩ := Rd.of hS (fun h => by rw [h] at hlt; simp at hlt)
    cases hRd.eq
    have hget : ws.drop k = ws[k] :: ws.drop (k + 1) := List.drop_eq_getElem_cons hlt
    rw [hget] at hd
    subst hd
    have hb := ws[k].toNat_lt
    have hat := hRd.at' k hlt
    rw [show ws.getD k 0 = ws[k] by rw [List.getD_eq_getElem?_getD, List.getElem?_eq_getElem hlt]; rfl] at hat
    refine RAny.tk 9 (bl 10 1023) rfl (by kernel_rfl) dc (fun W h => h.holds (Le.refl _) (by first | exact mp rfl | exact mq rfl)) (Yld.ev ((Ev.geq rfl rfl).as (show _ = Value.bool false from congrArg Value.bool (decide_eq_false (by omega)))) rfl) ?_
    refine RAny.done _ (by kernel_rfl) ?_
    repeat (first | refine Run.seq ?_ | refine Run.skip ?_ | refine Run.cond_f rfl ?_)
    refine Run.regionP (D := [some 15, some 16, some 17, some 18, some 19, some 20, some 21, none]) [true, true, true, true, true] 5 rfl rfl rfl (by simp only [List.drop_succ_cons, List.drop_zero]; rfl) (fun Z hZ => ?_)
    iterate 3 refine q1 dc rfl rfl ?_
    refine QD.yv dc rfl (Yv.load 0 T rfl rfl rfl rfl) ?_
    refine QD.e (Ev.addK (r := ((k + 1 : Nat) : Int)) rfl rfl (by rw [wI (by omega) (by omega)]; omega)) dc rfl ?_
    refine QD.nil (hZ _ ?_)
    clear hZ Z
    iterate 2 refine Ops.pure T rfl dc rfl ?_
    refine Ops.store 0 rfl rfl rfl rfl rfl (T.sizeOk rfl) rfl (Nat.le_of_ble_eq_true rfl) rfl rfl ?_
    refine Ops.nil ?_
    refine Run.seq ?_
    refine Run.regionAny (Holds I [(p, blk [.slice (some ⟨db, off, none⟩) ws.length c0, .int .i64 ((k + 1 : Nat) : Int)] 69)]) (bl 15 0) (by kernel_rfl) (by kernel_rfl) ?_
    refine RAny.tk 0 (bl 15 1) rfl (by kernel_rfl) dc (fun W h => h.holds (Le.refl _) (by first | exact mp rfl | exact mq rfl)) (Yld.eval T rfl rfl) ?_
    refine RAny.tk 1 (bl 15 3) rfl (by kernel_rfl) dc (fun W h => h.holds (Le.refl _) (by first | exact mp rfl | exact mq rfl)) (Yld.eval T rfl rfl) ?_
    refine RAny.tk 2 (bl 15 7) rfl (by kernel_rfl) dc (fun W h => h.holds (Le.refl _) (by first | exact mp rfl | exact mq rfl)) (Yld.eval T rfl rfl) ?_
    refine RAny.tk 3 (bl 15 15) rfl (by kernel_rfl) dc (fun W h => h.holds (Le.refl _) (by first | exact mp rfl | exact mq rfl)) (Yld.load 0 T rfl rfl rfl rfl rfl) ?_
    refine RAny.tk 4 (bl 15 31) rfl (by kernel_rfl) dc (fun W h => h.holds (Le.refl _) (by first | exact mp rfl | exact mq rfl)) (Yld.eval T rfl rfl) ?_
    refine RAny.tk 5 (bl 15 63) rfl (by kernel_rfl) dc (fun W h => h.holds (Le.refl _) (by first | exact mp rfl | exact mq rfl)) (Yld.eval T rfl rfl) ?_
    refine RAny.tk 6 (bl 15 127) rfl (by kernel_rfl) dc (fun W h => h.holds (Le.refl _) (by first | exact mp rfl | exact mq rfl)) (Yld.eval T rfl rfl) ?_
    refine RAny.tk 7 (bl 15 255) rfl (by kernel_rfl) dc (fun W h => h.holds (Le.refl _) (by first | exact mp rfl | exact mq rfl)) (Yld.load 0 T rfl rfl rfl rfl rfl) ?_
    refine RAny.tk 8 (bl 15 511) rfl (by kernel_rfl) dc (fun W h => h.holds (Le.refl _) (by first | exact mp rfl | exact mq rfl)) (Yld.ev (Ev.subK (r := (k : Int)) rfl rfl (by rw [wI (by omega) (by omega)]; omega)) rfl) ?_
    refine RAny.tk 9 (bl 15 1023) rfl (by kernel_rfl) dc (fun W h => h.holds (Le.refl _) (by first | exact mp rfl | exact mq rfl)) (Yld.indexSl (t := tU8) T rfl rfl rfl rfl rfl rfl (by omega) (by omega)) ?_
    refine RAny.tk 10 (bl 15 2047) rfl (by kernel_rfl) dc (fun W h => h.holds (Le.refl _) (by first | exact mp rfl | exact mq rfl)) (Yld.loadI T hat rfl rfl rfl) ?_
    refine RAny.tk 11 (bl 15 4095) rfl (by kernel_rfl) dc (fun W h => h.holds (Le.refl _) (by first | exact mp rfl | exact mq rfl)) (Yld.ev (Ev.conv (r := ((ws[k].toNat : Nat) : Int)) T rfl rfl rfl (wI (by omega) (by omega))) rfl) ?_
    refine RAny.tk 12 (bl 15 8191) rfl (by kernel_rfl) dc (fun W h => h.holds (Le.refl _) (by first | exact mp rfl | exact mq rfl)) (Yld.eval T rfl rfl) ?_
    refine RAny.tk 13 (bl 15 16383) rfl (by kernel_rfl) dc (fun W h => h.holds (Le.refl _) (by first | exact mp rfl | exact mq rfl)) (Yld.ev (Ev.remI (r := ((ws[k].toNat % n : Nat) : Int)) rfl rfl (by omega) (by rw [Int.tmod_eq_emod_of_nonneg (by omega)]; omega)) rfl) ?_
    refine RAny.tk 14 (bl 15 32767) rfl (by kernel_rfl) dc (fun W h => h.holds (Le.refl _) (by first | exact mp rfl | exact mq rfl)) (Yld.eval T rfl rfl) ?_
    refine RAny.done _ (by kernel_rfl) ?_
    skip
    refine Run.ret1 (by rw [hCf]; exact Proofs.Tryd.func32) Proofs.Tryd.results32 rfl (hR _ _ _ ?_)
    exact ⟨rfl, _, rfl, _, ws, k + 1, rfl, hS0, by omega, rfl, hl⟩
  · skip
    skip
    have hk' : k = ws.length := by omega
    have hd' : w = [] := by rw [← hd, hk', List.drop_length]
    subst hd'
    refine RAny.tk 9 (bl 10 1023) rfl (by kernel_rfl) dc (fun W h => h.holds (Le.refl _) (by first | exact mp rfl | exact mq rfl)) (Yld.ev ((Ev.geq rfl rfl).as (show _ = Value.bool true from congrArg Value.bool (decide_eq_true (by omega)))) rfl) ?_
    refine RAny.done _ (by kernel_rfl) ?_
    repeat (first | refine Run.seq ?_ | refine Run.cond_t rfl ?_)
    refine Run.regionO (D := [some 4]) [true] rfl rfl rfl (fun Z hZ => ?_)
    refine q1 dc rfl rfl ?_
    refine QD.nil (hZ _ ?_)
    clear hZ Z
    skip
    refine Run.ret1 (by rw [hCf]; exact Proofs.Tryd.func32) Proofs.Tryd.results32 rfl (hR _ _ _ ?_)
    exact ⟨rfl, _, rfl, _, ws, k, rfl, hS0, hk, hd, hl⟩
end Go.V
/-
  Texts of runes written as JSON by the package.
-/
namespace Go.V
open Go.RowKit
set_option linter.unusedVariables false
set_option linter.unusedSimpArgs false
set_option maxRecDepth 10000
attribute [local irreducible] Run Ops QD
section
variable {P : Program} {I : Imm} {L : Own} {n : Nat} {C : Cx} {env : Env} {ops : Array Oper} {ty : TypeId} {ps : String} {af : Array Edge} {g : Option (Nat × Bool)} {d : Nat}
theorem Eff.appLit {s x : Operand} {ts e : TypeId} {b q c : Nat} {M N : Own} {v : Value} {xs : List UInt8} {news : List Value} {K : Value → Own → Imm → Prop} (ys : List UInt8) (hE : Bt P ts e) (hG : Buf e v xs M) (hs : opnd env s = some v) (hx : opnd env x = some (.slice (some ⟨b, 0, none⟩) q c))
    (hL : L = (b, blk news e) :: (N ++ M)) (hn : news = wb ys) (hq : ys.length = q) (hbytes : 2 * (xs.length + ys.length) + 512 ≤ 281474976710656)
    (next : ∀ v' M', Buf e v' (xs ++ ys) M' → K v' (N ++ M') I) : Eff P n C env L I ⟨some d, .call ⟨.builtin .append, #[s, x], #[ts, ts]⟩, ty, ps, af, g⟩ K := by
  subst hL; subst hn; subst hq
  intro a W he hi
  have hp : ((b, blk (wb ys) e) :: (N ++ M)).Perm (M ++ ((b, blk (wb ys) e) :: N)) := (List.Perm.cons _ List.perm_append_comm).trans List.perm_middle.symm
  have hsrc := src_own (P := P) (ts := ts) (pre := []) (post := []) (ys := ys) (b := b) (c := c) (e' := e) hE.el.under hi (by simp)
  simp only [List.length_nil] at hsrc
  obtain ⟨v', W', M', hr, hG', hi'⟩ := run_append_buf (P := P) (ty := ty) hE.el hE.zero (hi.perm hp) hG hsrc hbytes (by omega)
  refine .inl ⟨v', W', N ++ M', I, .inl ?_, ?_, next v' M' hG'⟩
  · simp [execOp, resolve, Go.invoke, builtin, eval_opnd he hs, eval_opnd he hx, hr]
  · exact (hi'.perm List.perm_append_comm).weakenL (List.Sublist.append_right (List.sublist_cons_self _ _) _)
end
def hexT : Bs := [48, 49, 50, 51, 52, 53, 54, 55, 56, 57, 97, 98, 99, 100, 101, 102]
theorem hexT_fin : ∀ k : Fin 16, hexT.getD k.val 0 = hexD k.val := by decide
theorem hexV16 {n : Nat} (h : n < 16) : Value.int .u8 (((hexT.getD ((n : Nat) : Int).toNat 0).toNat : Nat) : Int) = w8 (hexD n) := by
  rw [Int.toNat_natCast, hexT_fin ⟨n, h⟩]
theorem hexD_mod (n : Nat) : hexD (n % 16) = hexD n := by unfold hexD; simp
theorem quo1_len {c : Nat} (g : goodR c) : (quo1 c).length ≤ 6 := by
  have h := encR_pos c
  unfold quo1 hexes
  repeat' split
  all_goals simp <;> omega
theorem flat_len : ∀ (rs : List Nat), (∀ r ∈ rs, goodR r) → (rs.flatMap quo1).length ≤ 6 * rs.length
  | [], _ => by simp
  | r :: rs, h => by
    have := flat_len rs fun x hx => h x (by simp [hx])
    have := quo1_len (h r (by simp))
    simp only [List.flatMap_cons, List.length_append, List.length_cons]; omega
end Go.V
/-
  Blanks and digits of base 16.
-/
namespace Go.V
open Go.RowKit
set_option linter.unusedVariables false
set_option linter.unusedSimpArgs false
set_option maxRecDepth 10000
attribute [local irreducible] Run Ops QD
theorem way_blank (I : Imm) (w : Bs) (p : Nat) (o : Obj) (hW : Wy I w o) :
    Spec Proofs.Tryd.prog 30 [.pointer (some ⟨p, 0, none⟩)] I [(p, o)] fun v J M => v = str (blk5 w).1 ∧ ∃ o', M = [(p, o')] ∧ Wy J (blk5 w).2 o' := by
  have h5 : (tk 5 w).1 < 5 := by
    cases w with
    | nil => exact Nat.zero_lt_succ _
    | cons b t => exact Nat.mod_lt _ (by decide)
  refine Spec.enter 8 [(0, _)] Proofs.Tryd.func30 rfl Proofs.Tryd.ntmps30 (by simp) rfl ?_
  intro C hCf hR hCI
  refine Run.seq ?_
  refine Run.regionO (D := [some 2]) [true] rfl rfl rfl (fun Z hZ => ?_)
  refine q1 dc rfl rfl ?_
  refine QD.nil (hZ _ ?_)
  clear hZ Z
  refine Run.seq ?_
  refine Run.region ?_
  refine Ops.lit T rfl rfl rfl dc rfl dc dc rfl rfl rfl rfl rfl (fun bq => ?_)
  refine Ops.freezeAt 0 rfl rfl fun J1 l1 hJ1 => ?_
  have hS : Sl tStr J1 (.slice (some ⟨bq, 0, none⟩) 5 5) blks := Sl.ofBlock hJ1 (Cells.strs blks) rfl (Nat.le_refl _)
  refine Ops.pure T rfl dc rfl ?_
  refine Ops.callP (N := []) ((way_take J1 w p 5 o (hW.mono l1) dc dc)) (.refl _) rfl dc Proofs.Tryd.call32 rfl ?_
  rintro v J2 M2 l2 ⟨rfl, o', rfl, hW'⟩
  refine Ops.indexSl (j := ((tk 5 w).1 : Int)) (hS.mono l2) rfl dc rfl rfl (T.undOk rfl) (T.sizeOk rfl) (by omega) (by show _ < (5 : Int); omega) fun bb off q cs hq hr hA => ?_
  obtain rfl : cs = [str q] := hr
  rw [Int.toNat_natCast] at hq
  have he : (blk5 w).1 = q := by unfold blk5; rw [List.getD_eq_getElem?_getD, hq]; rfl
  refine Ops.loadI rfl dc rfl hA (T.aggOk rfl) ?_
  refine Ops.pure T rfl dc rfl ?_
  refine Ops.nil ?_
  skip
  refine Run.ret1 (by rw [hCf]; exact Proofs.Tryd.func30) Proofs.Tryd.results30 rfl (hR _ _ _ ?_)
  exact ⟨by rw [he], o', rfl, hW'⟩
set_option maxHeartbeats 1000000 in
theorem spec_hexes (I : Imm) (x : Nat) (hx : x < 1114112) : Pure Proofs.Tryd.prog 40 [.int .i32 (x : Int)] I fun w J => w = str (hexes x) := by
  have e : hexes x = [hexD (x / 2 ^ 12 % 16), hexD (x / 2 ^ 8 % 16), hexD (x / 2 ^ 4 % 16), hexD (x % 16)] := by
    rw [hexD_mod, hexD_mod, hexD_mod, hexD_mod]; rfl
  refine Spec.enter 25 [(0, _)] Proofs.Tryd.func40 rfl Proofs.Tryd.ntmps40 (by simp) rfl ?_
  intro C hCf hR hCI
  refine Run.seq ?_
  refine Run.regionO (D := [some 2]) [true] rfl rfl rfl (fun Z hZ => ?_)
  refine q1 dc rfl rfl ?_
  refine QD.nil (hZ _ ?_)
  clear hZ Z
  refine Run.seq ?_
  refine Run.regionO (D := [some 3]) [true] rfl rfl rfl (fun Z hZ => ?_)
  refine q1 dc rfl rfl ?_
  refine QD.nil (hZ _ ?_)
  clear hZ Z
  refine Run.seq ?_
  refine Run.regionAny (fun _ => True) (bl 22 0) (by kernel_rfl) (by kernel_rfl) ?_
  refine RAny.tk 0 (bl 22 1) rfl (by kernel_rfl) dc (fun _ _ => trivial) (Yld.eval T rfl rfl) ?_
  refine RAny.tk 1 (bl 22 3) rfl (by kernel_rfl) dc (fun _ _ => trivial) (Yld.eval T rfl rfl) ?_
  refine RAny.tk 2 (bl 22 7) rfl (by kernel_rfl) dc (fun _ _ => trivial) (Yld.ev (Ev.shrK rfl rfl dc dc (shrL x 12)) rfl) ?_
  refine RAny.tk 3 (bl 22 15) rfl (by kernel_rfl) dc (fun _ _ => trivial) (Yld.ev (Ev.andK (a := x / 2 ^ 12) (b := 15) (c := x / 2 ^ 12 % 16) rfl rfl (by show _ < 4294967296; omega) dc (and15 _) (wrapI32 (by omega) (by omega))) rfl) ?_
  refine RAny.tk 4 (bl 22 31) rfl (by kernel_rfl) dc (fun _ _ => trivial) (Yld.ev ((Ev.indexT (s := hexT) T rfl rfl rfl (by omega) (by show _ < (16 : Int); omega)).as (hexV16 (n := x / 2 ^ 12 % 16) (by omega))) rfl) ?_
  refine RAny.tk 5 (bl 22 63) rfl (by kernel_rfl) dc (fun _ _ => trivial) (Yld.eval T rfl rfl) ?_
  refine RAny.tk 6 (bl 22 127) rfl (by kernel_rfl) dc (fun _ _ => trivial) (Yld.eval T rfl rfl) ?_
  refine RAny.tk 7 (bl 22 255) rfl (by kernel_rfl) dc (fun _ _ => trivial) (Yld.ev (Ev.shrK rfl rfl dc dc (shrL x 8)) rfl) ?_
  refine RAny.tk 8 (bl 22 511) rfl (by kernel_rfl) dc (fun _ _ => trivial) (Yld.ev (Ev.andK (a := x / 2 ^ 8) (b := 15) (c := x / 2 ^ 8 % 16) rfl rfl (by show _ < 4294967296; omega) dc (and15 _) (wrapI32 (by omega) (by omega))) rfl) ?_
  refine RAny.tk 9 (bl 22 1023) rfl (by kernel_rfl) dc (fun _ _ => trivial) (Yld.ev ((Ev.indexT (s := hexT) T rfl rfl rfl (by omega) (by show _ < (16 : Int); omega)).as (hexV16 (n := x / 2 ^ 8 % 16) (by omega))) rfl) ?_
  refine RAny.tk 10 (bl 22 2047) rfl (by kernel_rfl) dc (fun _ _ => trivial) (Yld.eval T rfl rfl) ?_
  refine RAny.tk 11 (bl 22 4095) rfl (by kernel_rfl) dc (fun _ _ => trivial) (Yld.eval T rfl rfl) ?_
  refine RAny.tk 12 (bl 22 8191) rfl (by kernel_rfl) dc (fun _ _ => trivial) (Yld.ev (Ev.shrK rfl rfl dc dc (shrL x 4)) rfl) ?_
  refine RAny.tk 13 (bl 22 16383) rfl (by kernel_rfl) dc (fun _ _ => trivial) (Yld.ev (Ev.andK (a := x / 2 ^ 4) (b := 15) (c := x / 2 ^ 4 % 16) rfl rfl (by show _ < 4294967296; omega) dc (and15 _) (wrapI32 (by omega) (by omega))) rfl) ?_
  refine RAny.tk 14 (bl 22 32767) rfl (by kernel_rfl) dc (fun _ _ => trivial) (Yld.ev ((Ev.indexT (s := hexT) T rfl rfl rfl (by omega) (by show _ < (16 : Int); omega)).as (hexV16 (n := x / 2 ^ 4 % 16) (by omega))) rfl) ?_
  refine RAny.tk 15 (bl 22 65535) rfl (by kernel_rfl) dc (fun _ _ => trivial) (Yld.eval T rfl rfl) ?_
  refine RAny.tk 16 (bl 22 131071) rfl (by kernel_rfl) dc (fun _ _ => trivial) (Yld.eval T rfl rfl) ?_
  refine RAny.tk 17 (bl 22 262143) rfl (by kernel_rfl) dc (fun _ _ => trivial) (Yld.ev (Ev.andK (a := x) (b := 15) (c := x % 16) rfl rfl (by show _ < 4294967296; omega) dc (and15 _) (wrapI32 (by omega) (by omega))) rfl) ?_
  refine RAny.tk 18 (bl 22 524287) rfl (by kernel_rfl) dc (fun _ _ => trivial) (Yld.ev ((Ev.indexT (s := hexT) T rfl rfl rfl (by omega) (by show _ < (16 : Int); omega)).as (hexV16 (n := x % 16) (by omega))) rfl) ?_
  refine RAny.on 19 (bl 22 1048575) rfl (by kernel_rfl) rfl dc (Eff.lit T rfl rfl rfl dc dc rfl rfl rfl rfl rfl fun bq => ⟨fun _ _ => trivial, ?_⟩)
  refine RAny.on 20 (bl 22 2097151) rfl (by kernel_rfl) rfl dc (Eff.yv (Yv.bytesBuf (xs := hexes x) (N := [(bq, blk ([] ++ wb (hexes x) ++ []) 5)]) T (.inr ⟨bq, [], [], 4, rfl, rfl, by rw [e]; simp, by rw [e]; simp⟩) (fun _ h => by rw [List.mem_singleton.1 h, e]; exact List.mem_singleton.2 rfl) rfl rfl rfl rfl) ⟨fun _ _ => trivial, ?_⟩)
  refine RAny.tk 21 (bl 22 4194303) rfl (by kernel_rfl) dc (fun _ _ => trivial) (Yld.eval T rfl rfl) ?_
  refine RAny.done _ (by kernel_rfl) ?_
  skip
  refine Run.fin (Run.ret1 (by rw [hCf]; exact Proofs.Tryd.func40) Proofs.Tryd.results40 rfl (hR _ _ _ ?_))
  exact ⟨rfl, rfl⟩
end Go.V
/-
  Texts quoted by the document: spec.quoted.
-/
namespace Go.V
open Go.RowKit
set_option linter.unusedVariables false
set_option linter.unusedSimpArgs false
set_option maxRecDepth 10000
attribute [local irreducible] Run Ops QD
theorem ba_size (s : Bs) : (ba s).size = s.length := str_size s
theorem getD_drop0 (s : Bs) (p k : Nat) : (s.drop p).getD k 0 = s.getD (p + k) 0 := by rw [List.getD_eq_getElem?_getD, List.getD_eq_getElem?_getD, List.getElem?_drop]
theorem runeAt_drop (s : Bs) (p : Nat) : runeAt s p = runeAt (s.drop p) 0 := by
  have e : ∀ k, (0 + k < (s.drop p).length) = (p + k < s.length) := fun k => propext (by rw [List.length_drop]; omega)
  unfold runeAt Utf8.decode
  simp only [Nat.add_zero, ba_get, ba_size, getD_drop0, Nat.zero_add] at e ⊢
  simp only [e]
theorem runeAt_mid {c : Nat} (g : goodR c) (a t : Bs) : runeAt (a ++ (encR (c : Int) ++ t)) a.length = (c, (encR (c : Int)).length) := by
  rw [runeAt_drop, List.drop_left]; exact runeAt_enc g t
theorem Ev.convRune {P : Program} {n : Nat} {env : Env} {x : Operand} {src dst : TypeId} {kd : IntKind} {r : Int} (T : Tab P) (hs : T.und src = some (.int kd)) (ht : T.und dst = some .string) (hx : opnd env x = some (.int kd r)) : Ev P n env (.convert src dst x) (str (encR r)) :=
  fun a W he _ _ _ _ _ => by
    simp [execOp, eval_opnd he hx, convert, T.undOk hs, T.undOk ht, Conv.intToString, encR_str]
end Go.V
