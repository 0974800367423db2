import Derived.Test.YteppnkblebknnaaDoorSM4
/-
  Base 64 written by the package.
-/
namespace Go.V
open Go.RowKit
set_option linter.unusedVariables false
set_option linter.unusedSimpArgs false
set_option maxRecDepth 10000
attribute [local irreducible] Run Ops QD
theorem b64ix {n : Nat} (h : n < 64) : Value.int .u8 (((b64A.getD ((n : Nat) : Int).toNat 0).toNat : Nat) : Int) = w8 (b64c n) := by
  unfold b64c
  rw [Nat.mod_eq_of_lt h]; rfl
theorem and3 (a : Nat) : a &&& 3 = a % 4 := Nat.and_two_pow_sub_one_eq_mod a 2
theorem and15 (a : Nat) : a &&& 15 = a % 16 := Nat.and_two_pow_sub_one_eq_mod a 4
theorem shl8_4 {y : Nat} (h : y < 16) : IntKind.u8.wrap (((y : Nat) : Int) * 2 ^ (4 : Int).toNat) = ((y * 16 : Nat) : Int) := by
  show IntKind.u8.wrap (((y : Nat) : Int) * 16) = _
  rw [wrap8]; omega
theorem shl8_2 {y : Nat} (h : y < 64) : IntKind.u8.wrap (((y : Nat) : Int) * 2 ^ (2 : Int).toNat) = ((y * 4 : Nat) : Int) := by
  show IntKind.u8.wrap (((y : Nat) : Int) * 4) = _
  rw [wrap8]; omega
set_option maxHeartbeats 4000000 in
theorem zz_Base64 (I : Imm) (v : Value) (bs : Bs) (hS0 : Sl tU8 I v bs) (hl : bs.length ≤ 1099511627776) : Pure Proofs.Tryd.prog 39 [v] I fun w J => w = str (b64 bs) := by
  refine Spec.enter 58 [(0, _)] Proofs.Tryd.func39 rfl Proofs.Tryd.ntmps39 (by simp) rfl ?_
  intro C hCf hR hCI
  repeat (first | refine Run.seq ?_)
  refine Run.regionO (D := [some 2]) [true] rfl rfl rfl (fun Z hZ => ?_)
  refine QD.ev T (by decide) rfl rfl ?_
  refine QD.nil (hZ _ ?_)
  clear hZ Z
  repeat (first | refine Run.seq ?_)
  refine Run.regionO (D := [some 3]) [true] rfl rfl rfl (fun Z hZ => ?_)
  refine QD.ev T (by decide) rfl rfl ?_
  refine QD.nil (hZ _ ?_)
  clear hZ Z
  repeat (first | refine Run.seq ?_ | refine Run.block ?_)
  refine Run.keep [0, 3] [_, _] rfl ?_
  refine Run.rounds (fun m env L J => ∃ (rest out : Bs) (v0 v3 : Value) (M : Own), m = rest.length ∧ Sl tU8 J v0 rest ∧ Buf 5 v3 out M ∧ out.length + 4 * rest.length ≤ 4 * bs.length + 8 ∧ out ++ b64 rest = b64 bs ∧ env = [(0, v0), (3, v3)] ∧ L = M ∧ Le I J) bs.length
    ⟨bs, [], v, _, [], rfl, hS0, Buf.nil _, by simp, rfl, rfl, rfl, Le.refl _⟩ ?_
  rintro m env L J ⟨rest, out, v0, v3, M, rfl, hS, hB, hol, heq, rfl, rfl, hle⟩ ih
  obtain ⟨A0, c0, rfl⟩ := hS.isSl
  repeat (first | refine Run.seq ?_)
  match rest, hS, hol, heq with
  | [], hS, hol, heq =>
    refine Run.regionO (D := [some 8, some 9, some 10]) [true, true, true] rfl rfl rfl (fun Z hZ => ?_)
    refine QD.ev T (by decide) rfl rfl ?_
    refine QD.ev T (by decide) rfl rfl ?_
    refine QD.e (Ev.gtr rfl rfl) (by decide) rfl ?_
    refine QD.nil (hZ _ ?_)
    clear hZ Z
    repeat (first | refine Run.seq ?_ | refine Run.exit rfl ?_ | refine Run.cond_f rfl ?_)
    refine Run.regionO (D := [some 56, some 57, some 2]) [true, true, true] rfl rfl rfl (fun Z hZ => ?_)
    refine QD.ev T (by decide) rfl rfl ?_
    refine QD.yv (by decide) rfl (Yv.bytesBuf T hB (fun x hx => hx) rfl rfl rfl rfl) ?_
    refine QD.ev T (by decide) rfl rfl ?_
    refine QD.nil (hZ _ ?_)
    clear hZ Z
    skip
    refine Run.fin (Run.ret1 (by rw [hCf]; exact Proofs.Tryd.func39) Proofs.Tryd.results39 rfl (hR _ _ _ ?_))
    refine ⟨rfl, ?_⟩
    rw [← heq]; simp [b64]
  | [a], hS, hol, heq =>
    refine Run.regionO (D := [some 8, some 9, some 10]) [true, true, true] rfl rfl rfl (fun Z hZ => ?_)
    refine QD.ev T (by decide) rfl rfl ?_
    refine QD.ev T (by decide) rfl rfl ?_
    refine QD.e ((Ev.gtr rfl rfl).as (show _ = Value.bool true from congrArg Value.bool (decide_eq_true (by simp only [List.length_cons]; omega)))) (by decide) rfl ?_
    refine QD.nil (hZ _ ?_)
    clear hZ Z
    repeat (first | refine Run.seq ?_ | refine Run.skip ?_ | refine Run.block ?_ | refine Run.cond_t rfl ?_)
    refine Run.region ?_
    refine Ops.alloc rfl (by decide) (T.zeroOk rfl) rfl (fun b4 => ?_)
    refine Ops.nil ?_
    repeat (first | refine Run.seq ?_)
    obtain ⟨news, hC, hF⟩ := First.sl (q := 1) hS (by simp only [List.length_cons]; omega)
    obtain rfl := hC.bytes_eq
    refine Run.regionP (D := [some 11, some 12, some 13, some 5]) [true, true] 2 rfl rfl rfl (by simp only [List.drop_succ_cons, List.drop_zero]; rfl) (fun Z hZ => ?_)
    refine QD.e (Ev.sliceArr T rfl rfl rfl) (by decide) rfl ?_
    refine QD.ev T (by decide) rfl rfl ?_
    refine QD.nil (hZ _ ?_)
    clear hZ Z
    refine Ops.copyOwn (q := 1) 0 T rfl (by decide) rfl rfl rfl rfl (fun W => rfl) (by show min _ 3 = _; simp only [List.length_cons, List.length_nil]; omega) rfl (fun W hi => hF W _ _ _ _ hi) (Nat.le_of_ble_eq_true rfl) rfl rfl ?_
    refine Ops.pure T rfl (by decide) rfl ?_
    refine Ops.nil ?_
    repeat (first | refine Run.seq ?_)
    refine Run.region ?_
    refine Ops.pure T rfl (by decide) rfl ?_
    refine Ops.pure T rfl (by decide) rfl ?_
    refine Ops.sliceSl (kd := .i64) (kd' := .i64) (l' := 1) hS rfl (by decide) rfl (.inl ⟨rfl, rfl⟩) (.inr ⟨_, rfl, rfl⟩) (by simp only [List.length_cons]; omega) (Nat.le_refl _) (T.undOk rfl) (T.sizeOk rfl) fun v2 hS2 => ?_
    rw [List.take_length] at hS2
    simp only [List.drop_succ_cons, List.drop_zero] at hS2
    refine Ops.pure T rfl (by decide) rfl ?_
    refine Ops.nil ?_
    repeat (first | refine Run.seq ?_)
    have la := a.toNat_lt
    have lb := (0 : UInt8).toNat_lt
    have lc := (0 : UInt8).toNat_lt
    refine Run.regionT (D := [some 17, some 18, some 19, some 20, some 21, some 22, some 23, some 24, some 25, some 26, some 27, some 28, some 29, some 30, some 31, some 32, some 33, some 34, some 35, some 36, some 37, some 38, some 39, some 40, some 41, some 42, some 43, some 6]) (fun _ => True) [true, true, true, true, true, true, true, true, true, true, true, true, true, true, true, true, true, true, true, true, true, true, true, true, true, true] (bl 28 67108863) 2 (by kernel_rfl) (by kernel_rfl) (by kernel_rfl) rfl (fun Z hZ => ?_)
    refine QD.e (Ev.indexP T rfl rfl rfl rfl (by first | omega | (simp only [List.length_cons, List.length_nil] ; omega) | (simp; omega)) (by first | omega | (simp only [List.length_cons, List.length_nil] ; omega) | (simp; omega))) (by decide) rfl ?_
    first | refine QD.yv (by decide) rfl (Yv.load 0 T rfl rfl rfl rfl) ?_ | refine QD.yv (by decide) rfl (Yv.load 1 T rfl rfl rfl rfl) ?_ | refine QD.yv (by decide) rfl (Yv.load 2 T rfl rfl rfl rfl) ?_
    refine QD.e (Ev.shrK rfl rfl (by decide) (by decide) (shrL a.toNat 2)) (by decide) rfl ?_
    refine QD.e ((Ev.indexT T rfl rfl rfl (by omega) (by show _ < (64 : Int); omega)).as (b64ix (n := a.toNat / 4) (by omega))) (by decide) rfl ?_
    refine QD.e (Ev.indexP T rfl rfl rfl rfl (by first | omega | (simp only [List.length_cons, List.length_nil] ; omega) | (simp; omega)) (by first | omega | (simp only [List.length_cons, List.length_nil] ; omega) | (simp; omega))) (by decide) rfl ?_
    first | refine QD.yv (by decide) rfl (Yv.load 0 T rfl rfl rfl rfl) ?_ | refine QD.yv (by decide) rfl (Yv.load 1 T rfl rfl rfl rfl) ?_ | refine QD.yv (by decide) rfl (Yv.load 2 T rfl rfl rfl rfl) ?_
    refine QD.e (Ev.andK (b := 3) (c := a.toNat % 4) rfl rfl la (by decide) (and3 _) (wrapN8 (by omega))) (by decide) rfl ?_
    refine QD.e (Ev.shlK rfl rfl (by decide) (by decide) (shl8_4 (by omega))) (by decide) rfl ?_
    refine QD.e (Ev.indexP T rfl rfl rfl rfl (by first | omega | (simp only [List.length_cons, List.length_nil] ; omega) | (simp; omega)) (by first | omega | (simp only [List.length_cons, List.length_nil] ; omega) | (simp; omega))) (by decide) rfl ?_
    first | refine QD.yv (by decide) rfl (Yv.load 0 T rfl rfl rfl rfl) ?_ | refine QD.yv (by decide) rfl (Yv.load 1 T rfl rfl rfl rfl) ?_ | refine QD.yv (by decide) rfl (Yv.load 2 T rfl rfl rfl rfl) ?_
    refine QD.e (Ev.shrK rfl rfl (by decide) (by decide) (shrL (0 : UInt8).toNat 4)) (by decide) rfl ?_
    refine QD.e (Ev.orK (a := a.toNat % 4 * 16) (b := (0 : UInt8).toNat / 16) (c := a.toNat % 4 * 16 + (0 : UInt8).toNat / 16) rfl rfl (by show _ < 256; omega) (by show _ < 256; omega) (orSh 4 (by omega)) (wrapN8 (by omega))) (by decide) rfl ?_
    refine QD.e ((Ev.indexT T rfl rfl rfl (by omega) (by show _ < (64 : Int); omega)).as (b64ix (n := a.toNat % 4 * 16 + (0 : UInt8).toNat / 16) (by omega))) (by decide) rfl ?_
    refine QD.e (Ev.indexP T rfl rfl rfl rfl (by first | omega | (simp only [List.length_cons, List.length_nil] ; omega) | (simp; omega)) (by first | omega | (simp only [List.length_cons, List.length_nil] ; omega) | (simp; omega))) (by decide) rfl ?_
    first | refine QD.yv (by decide) rfl (Yv.load 0 T rfl rfl rfl rfl) ?_ | refine QD.yv (by decide) rfl (Yv.load 1 T rfl rfl rfl rfl) ?_ | refine QD.yv (by decide) rfl (Yv.load 2 T rfl rfl rfl rfl) ?_
    refine QD.e (Ev.andK (b := 15) (c := (0 : UInt8).toNat % 16) rfl rfl lb (by decide) (and15 _) (wrapN8 (by omega))) (by decide) rfl ?_
    refine QD.e (Ev.shlK rfl rfl (by decide) (by decide) (shl8_2 (by omega))) (by decide) rfl ?_
    refine QD.e (Ev.indexP T rfl rfl rfl rfl (by first | omega | (simp only [List.length_cons, List.length_nil] ; omega) | (simp; omega)) (by first | omega | (simp only [List.length_cons, List.length_nil] ; omega) | (simp; omega))) (by decide) rfl ?_
    first | refine QD.yv (by decide) rfl (Yv.load 0 T rfl rfl rfl rfl) ?_ | refine QD.yv (by decide) rfl (Yv.load 1 T rfl rfl rfl rfl) ?_ | refine QD.yv (by decide) rfl (Yv.load 2 T rfl rfl rfl rfl) ?_
    refine QD.e (Ev.shrK rfl rfl (by decide) (by decide) (shrL (0 : UInt8).toNat 6)) (by decide) rfl ?_
    refine QD.e (Ev.orK (a := (0 : UInt8).toNat % 16 * 4) (b := (0 : UInt8).toNat / 64) (c := (0 : UInt8).toNat % 16 * 4 + (0 : UInt8).toNat / 64) rfl rfl (by show _ < 256; omega) (by show _ < 256; omega) (orSh 2 (by omega)) (wrapN8 (by omega))) (by decide) rfl ?_
    refine QD.e ((Ev.indexT T rfl rfl rfl (by omega) (by show _ < (64 : Int); omega)).as (b64ix (n := (0 : UInt8).toNat % 16 * 4 + (0 : UInt8).toNat / 64) (by omega))) (by decide) rfl ?_
    refine QD.e (Ev.indexP T rfl rfl rfl rfl (by first | omega | (simp only [List.length_cons, List.length_nil] ; omega) | (simp; omega)) (by first | omega | (simp only [List.length_cons, List.length_nil] ; omega) | (simp; omega))) (by decide) rfl ?_
    first | refine QD.yv (by decide) rfl (Yv.load 0 T rfl rfl rfl rfl) ?_ | refine QD.yv (by decide) rfl (Yv.load 1 T rfl rfl rfl rfl) ?_ | refine QD.yv (by decide) rfl (Yv.load 2 T rfl rfl rfl rfl) ?_
    refine QD.e (Ev.andK (b := 63) (c := (0 : UInt8).toNat % 64) rfl rfl lc (by decide) (and63 _) (wrapN8 (by omega))) (by decide) rfl ?_
    refine QD.e ((Ev.indexT T rfl rfl rfl (by omega) (by show _ < (64 : Int); omega)).as (b64ix (n := (0 : UInt8).toNat % 64) (by omega))) (by decide) rfl ?_
    refine QD.nil (hZ _ ?_)
    clear hZ Z
    refine RAny.on 26 (bl 28 134217727) rfl (by kernel_rfl) rfl (by decide) (Eff.lit T rfl rfl rfl (by decide) (by decide) rfl rfl rfl rfl rfl fun bq => ⟨fun _ _ => trivial, ?_⟩)
    refine RAny.tk 27 (bl 28 268435455) rfl (by kernel_rfl) (by decide) (fun _ _ => trivial) (Yld.eval T rfl rfl) ?_
    refine RAny.done _ (by kernel_rfl) ?_
    repeat (first | refine Run.seq ?_)
    refine Run.regionO (D := [some 44, some 45, some 7]) [true, true, true] rfl rfl rfl (fun Z hZ => ?_)
    refine QD.ev T (by decide) rfl rfl ?_
    refine QD.e (Ev.addI rfl rfl (wI (by first | omega | (simp only [List.length_cons, List.length_nil] ; omega) | (simp; omega)) (by first | omega | (simp only [List.length_cons, List.length_nil] ; omega) | (simp; omega)))) (by decide) rfl ?_
    refine QD.ev T (by decide) rfl rfl ?_
    refine QD.nil (hZ _ ?_)
    clear hZ Z
    repeat (first | refine Run.block ?_)
    refine Run.loop ?_
    repeat (first | refine Run.seq ?_)
    refine Run.regionO (D := [some 46, some 47]) [true, true] rfl rfl rfl (fun Z hZ => ?_)
    refine QD.ev T (by decide) rfl rfl ?_
    refine QD.e (Ev.lss rfl rfl) (by decide) rfl ?_
    refine QD.nil (hZ _ ?_)
    clear hZ Z
    repeat (first | refine Run.seq ?_ | refine Run.skip ?_ | refine Run.block ?_ | refine Run.cond_t rfl ?_)
    refine Run.regionP (D := [some 50, some 51, some 52, none]) [true, true, true] 3 rfl rfl rfl (by simp only [List.drop_succ_cons, List.drop_zero]; rfl) (fun Z hZ => ?_)
    refine QD.ev T (by decide) rfl rfl ?_
    refine QD.ev T (by decide) rfl rfl ?_
    refine QD.e (Ev.indexS T rfl rfl rfl rfl (by first | omega | (simp only [List.length_cons, List.length_nil] ; omega) | (simp; omega)) (by first | omega | (simp only [List.length_cons, List.length_nil] ; omega) | (simp; omega))) (by decide) rfl ?_
    refine QD.nil (hZ _ ?_)
    clear hZ Z
    first | refine Ops.store 0 rfl rfl rfl rfl rfl (T.sizeOk rfl) rfl (Nat.le_of_ble_eq_true rfl) rfl rfl ?_ | refine Ops.store 1 rfl rfl rfl rfl rfl (T.sizeOk rfl) rfl (Nat.le_of_ble_eq_true rfl) rfl rfl ?_ | refine Ops.store 2 rfl rfl rfl rfl rfl (T.sizeOk rfl) rfl (Nat.le_of_ble_eq_true rfl) rfl rfl ?_
    refine Ops.nil ?_
    repeat (first | refine Run.inBlock ?_)
    refine Run.regionO (D := [some 48, some 49, some 7]) [true, true, true] rfl rfl rfl (fun Z hZ => ?_)
    refine QD.ev T (by decide) rfl rfl ?_
    refine QD.e (Ev.addI rfl rfl (wI (by first | omega | (simp only [List.length_cons, List.length_nil] ; omega) | (simp; omega)) (by first | omega | (simp only [List.length_cons, List.length_nil] ; omega) | (simp; omega)))) (by decide) rfl ?_
    refine QD.ev T (by decide) rfl rfl ?_
    refine QD.nil (hZ _ ?_)
    clear hZ Z
    refine Run.inLoop ?_
    repeat (first | refine Run.seq ?_)
    refine Run.regionO (D := [some 46, some 47]) [true, true] rfl rfl rfl (fun Z hZ => ?_)
    refine QD.ev T (by decide) rfl rfl ?_
    refine QD.e (Ev.lss rfl rfl) (by decide) rfl ?_
    refine QD.nil (hZ _ ?_)
    clear hZ Z
    repeat (first | refine Run.seq ?_ | refine Run.skip ?_ | refine Run.block ?_ | refine Run.cond_t rfl ?_)
    refine Run.regionP (D := [some 50, some 51, some 52, none]) [true, true, true] 3 rfl rfl rfl (by simp only [List.drop_succ_cons, List.drop_zero]; rfl) (fun Z hZ => ?_)
    refine QD.ev T (by decide) rfl rfl ?_
    refine QD.ev T (by decide) rfl rfl ?_
    refine QD.e (Ev.indexS T rfl rfl rfl rfl (by first | omega | (simp only [List.length_cons, List.length_nil] ; omega) | (simp; omega)) (by first | omega | (simp only [List.length_cons, List.length_nil] ; omega) | (simp; omega))) (by decide) rfl ?_
    refine QD.nil (hZ _ ?_)
    clear hZ Z
    first | refine Ops.store 0 rfl rfl rfl rfl rfl (T.sizeOk rfl) rfl (Nat.le_of_ble_eq_true rfl) rfl rfl ?_ | refine Ops.store 1 rfl rfl rfl rfl rfl (T.sizeOk rfl) rfl (Nat.le_of_ble_eq_true rfl) rfl rfl ?_ | refine Ops.store 2 rfl rfl rfl rfl rfl (T.sizeOk rfl) rfl (Nat.le_of_ble_eq_true rfl) rfl rfl ?_
    refine Ops.nil ?_
    repeat (first | refine Run.inBlock ?_)
    refine Run.regionO (D := [some 48, some 49, some 7]) [true, true, true] rfl rfl rfl (fun Z hZ => ?_)
    refine QD.ev T (by decide) rfl rfl ?_
    refine QD.e (Ev.addI rfl rfl (wI (by first | omega | (simp only [List.length_cons, List.length_nil] ; omega) | (simp; omega)) (by first | omega | (simp only [List.length_cons, List.length_nil] ; omega) | (simp; omega)))) (by decide) rfl ?_
    refine QD.ev T (by decide) rfl rfl ?_
    refine QD.nil (hZ _ ?_)
    clear hZ Z
    refine Run.inLoop ?_
    repeat (first | refine Run.seq ?_)
    refine Run.regionO (D := [some 46, some 47]) [true, true] rfl rfl rfl (fun Z hZ => ?_)
    refine QD.ev T (by decide) rfl rfl ?_
    refine QD.e (Ev.lss rfl rfl) (by decide) rfl ?_
    refine QD.nil (hZ _ ?_)
    clear hZ Z
    repeat (first | refine Run.exit rfl ?_ | refine Run.cond_f rfl ?_)
    refine Run.regionP (D := [some 53, some 54, some 55, some 3]) [true, true] 2 rfl rfl rfl (by simp only [List.drop_succ_cons, List.drop_zero]; rfl) (fun Z hZ => ?_)
    refine QD.ev T (by decide) rfl rfl ?_
    refine QD.ev T (by decide) rfl rfl ?_
    refine QD.nil (hZ _ ?_)
    clear hZ Z
    refine Ops.appLit [b64c (a.toNat / 4), b64c (a.toNat % 4 * 16), 61, 61] (N := [_]) btB hB rfl (by decide) rfl rfl rfl rfl rfl (by simp; omega) fun v3 M3 hB3 => ?_
    refine Ops.pure T rfl (by decide) rfl ?_
    refine Ops.nil ?_
    repeat (first | refine Run.inBlock ?_)
    refine Run.keep [0, 3] [_, _] rfl ?_
    refine Run.dropL (List.sublist_cons_self _ _) ?_
    exact ih ([] : Bs).length _ _ _ (by simp only [List.length_cons, List.length_nil]; omega) ⟨[], out ++ [b64c (a.toNat / 4), b64c (a.toNat % 4 * 16), 61, 61], _, v3, M3, rfl, hS2, hB3, by simp only [List.length_append, List.length_cons, List.length_nil] at hol ⊢; omega, by rw [← heq]; simp [b64], rfl, rfl, hle⟩
  | [a, b], hS, hol, heq =>
    refine Run.regionO (D := [some 8, some 9, some 10]) [true, true, true] rfl rfl rfl (fun Z hZ => ?_)
    refine QD.ev T (by decide) rfl rfl ?_
    refine QD.ev T (by decide) rfl rfl ?_
    refine QD.e ((Ev.gtr rfl rfl).as (show _ = Value.bool true from congrArg Value.bool (decide_eq_true (by simp only [List.length_cons]; omega)))) (by decide) rfl ?_
    refine QD.nil (hZ _ ?_)
    clear hZ Z
    repeat (first | refine Run.seq ?_ | refine Run.skip ?_ | refine Run.block ?_ | refine Run.cond_t rfl ?_)
    refine Run.region ?_
    refine Ops.alloc rfl (by decide) (T.zeroOk rfl) rfl (fun b4 => ?_)
    refine Ops.nil ?_
    repeat (first | refine Run.seq ?_)
    obtain ⟨news, hC, hF⟩ := First.sl (q := 2) hS (by simp only [List.length_cons]; omega)
    obtain rfl := hC.bytes_eq
    refine Run.regionP (D := [some 11, some 12, some 13, some 5]) [true, true] 2 rfl rfl rfl (by simp only [List.drop_succ_cons, List.drop_zero]; rfl) (fun Z hZ => ?_)
    refine QD.e (Ev.sliceArr T rfl rfl rfl) (by decide) rfl ?_
    refine QD.ev T (by decide) rfl rfl ?_
    refine QD.nil (hZ _ ?_)
    clear hZ Z
    refine Ops.copyOwn (q := 2) 0 T rfl (by decide) rfl rfl rfl rfl (fun W => rfl) (by show min _ 3 = _; simp only [List.length_cons, List.length_nil]; omega) rfl (fun W hi => hF W _ _ _ _ hi) (Nat.le_of_ble_eq_true rfl) rfl rfl ?_
    refine Ops.pure T rfl (by decide) rfl ?_
    refine Ops.nil ?_
    repeat (first | refine Run.seq ?_)
    refine Run.region ?_
    refine Ops.pure T rfl (by decide) rfl ?_
    refine Ops.pure T rfl (by decide) rfl ?_
    refine Ops.sliceSl (kd := .i64) (kd' := .i64) (l' := 2) hS rfl (by decide) rfl (.inl ⟨rfl, rfl⟩) (.inr ⟨_, rfl, rfl⟩) (by simp only [List.length_cons]; omega) (Nat.le_refl _) (T.undOk rfl) (T.sizeOk rfl) fun v2 hS2 => ?_
    rw [List.take_length] at hS2
    simp only [List.drop_succ_cons, List.drop_zero] at hS2
    refine Ops.pure T rfl (by decide) rfl ?_
    refine Ops.nil ?_
    repeat (first | refine Run.seq ?_)
    have la := a.toNat_lt
    have lb := b.toNat_lt
    have lc := (0 : UInt8).toNat_lt
    refine Run.regionT (D := [some 17, some 18, some 19, some 20, some 21, some 22, some 23, some 24, some 25, some 26, some 27, some 28, some 29, some 30, some 31, some 32, some 33, some 34, some 35, some 36, some 37, some 38, some 39, some 40, some 41, some 42, some 43, some 6]) (fun _ => True) [true, true, true, true, true, true, true, true, true, true, true, true, true, true, true, true, true, true, true, true, true, true, true, true, true, true] (bl 28 67108863) 2 (by kernel_rfl) (by kernel_rfl) (by kernel_rfl) rfl (fun Z hZ => ?_)
    refine QD.e (Ev.indexP T rfl rfl rfl rfl (by first | omega | (simp only [List.length_cons, List.length_nil] ; omega) | (simp; omega)) (by first | omega | (simp only [List.length_cons, List.length_nil] ; omega) | (simp; omega))) (by decide) rfl ?_
    first | refine QD.yv (by decide) rfl (Yv.load 0 T rfl rfl rfl rfl) ?_ | refine QD.yv (by decide) rfl (Yv.load 1 T rfl rfl rfl rfl) ?_ | refine QD.yv (by decide) rfl (Yv.load 2 T rfl rfl rfl rfl) ?_
    refine QD.e (Ev.shrK rfl rfl (by decide) (by decide) (shrL a.toNat 2)) (by decide) rfl ?_
    refine QD.e ((Ev.indexT T rfl rfl rfl (by omega) (by show _ < (64 : Int); omega)).as (b64ix (n := a.toNat / 4) (by omega))) (by decide) rfl ?_
    refine QD.e (Ev.indexP T rfl rfl rfl rfl (by first | omega | (simp only [List.length_cons, List.length_nil] ; omega) | (simp; omega)) (by first | omega | (simp only [List.length_cons, List.length_nil] ; omega) | (simp; omega))) (by decide) rfl ?_
    first | refine QD.yv (by decide) rfl (Yv.load 0 T rfl rfl rfl rfl) ?_ | refine QD.yv (by decide) rfl (Yv.load 1 T rfl rfl rfl rfl) ?_ | refine QD.yv (by decide) rfl (Yv.load 2 T rfl rfl rfl rfl) ?_
    refine QD.e (Ev.andK (b := 3) (c := a.toNat % 4) rfl rfl la (by decide) (and3 _) (wrapN8 (by omega))) (by decide) rfl ?_
    refine QD.e (Ev.shlK rfl rfl (by decide) (by decide) (shl8_4 (by omega))) (by decide) rfl ?_
    refine QD.e (Ev.indexP T rfl rfl rfl rfl (by first | omega | (simp only [List.length_cons, List.length_nil] ; omega) | (simp; omega)) (by first | omega | (simp only [List.length_cons, List.length_nil] ; omega) | (simp; omega))) (by decide) rfl ?_
    first | refine QD.yv (by decide) rfl (Yv.load 0 T rfl rfl rfl rfl) ?_ | refine QD.yv (by decide) rfl (Yv.load 1 T rfl rfl rfl rfl) ?_ | refine QD.yv (by decide) rfl (Yv.load 2 T rfl rfl rfl rfl) ?_
    refine QD.e (Ev.shrK rfl rfl (by decide) (by decide) (shrL b.toNat 4)) (by decide) rfl ?_
    refine QD.e (Ev.orK (a := a.toNat % 4 * 16) (b := b.toNat / 16) (c := a.toNat % 4 * 16 + b.toNat / 16) rfl rfl (by show _ < 256; omega) (by show _ < 256; omega) (orSh 4 (by omega)) (wrapN8 (by omega))) (by decide) rfl ?_
    refine QD.e ((Ev.indexT T rfl rfl rfl (by omega) (by show _ < (64 : Int); omega)).as (b64ix (n := a.toNat % 4 * 16 + b.toNat / 16) (by omega))) (by decide) rfl ?_
    refine QD.e (Ev.indexP T rfl rfl rfl rfl (by first | omega | (simp only [List.length_cons, List.length_nil] ; omega) | (simp; omega)) (by first | omega | (simp only [List.length_cons, List.length_nil] ; omega) | (simp; omega))) (by decide) rfl ?_
    first | refine QD.yv (by decide) rfl (Yv.load 0 T rfl rfl rfl rfl) ?_ | refine QD.yv (by decide) rfl (Yv.load 1 T rfl rfl rfl rfl) ?_ | refine QD.yv (by decide) rfl (Yv.load 2 T rfl rfl rfl rfl) ?_
    refine QD.e (Ev.andK (b := 15) (c := b.toNat % 16) rfl rfl lb (by decide) (and15 _) (wrapN8 (by omega))) (by decide) rfl ?_
    refine QD.e (Ev.shlK rfl rfl (by decide) (by decide) (shl8_2 (by omega))) (by decide) rfl ?_
    refine QD.e (Ev.indexP T rfl rfl rfl rfl (by first | omega | (simp only [List.length_cons, List.length_nil] ; omega) | (simp; omega)) (by first | omega | (simp only [List.length_cons, List.length_nil] ; omega) | (simp; omega))) (by decide) rfl ?_
    first | refine QD.yv (by decide) rfl (Yv.load 0 T rfl rfl rfl rfl) ?_ | refine QD.yv (by decide) rfl (Yv.load 1 T rfl rfl rfl rfl) ?_ | refine QD.yv (by decide) rfl (Yv.load 2 T rfl rfl rfl rfl) ?_
    refine QD.e (Ev.shrK rfl rfl (by decide) (by decide) (shrL (0 : UInt8).toNat 6)) (by decide) rfl ?_
    refine QD.e (Ev.orK (a := b.toNat % 16 * 4) (b := (0 : UInt8).toNat / 64) (c := b.toNat % 16 * 4 + (0 : UInt8).toNat / 64) rfl rfl (by show _ < 256; omega) (by show _ < 256; omega) (orSh 2 (by omega)) (wrapN8 (by omega))) (by decide) rfl ?_
    refine QD.e ((Ev.indexT T rfl rfl rfl (by omega) (by show _ < (64 : Int); omega)).as (b64ix (n := b.toNat % 16 * 4 + (0 : UInt8).toNat / 64) (by omega))) (by decide) rfl ?_
    refine QD.e (Ev.indexP T rfl rfl rfl rfl (by first | omega | (simp only [List.length_cons, List.length_nil] ; omega) | (simp; omega)) (by first | omega | (simp only [List.length_cons, List.length_nil] ; omega) | (simp; omega))) (by decide) rfl ?_
    first | refine QD.yv (by decide) rfl (Yv.load 0 T rfl rfl rfl rfl) ?_ | refine QD.yv (by decide) rfl (Yv.load 1 T rfl rfl rfl rfl) ?_ | refine QD.yv (by decide) rfl (Yv.load 2 T rfl rfl rfl rfl) ?_
    refine QD.e (Ev.andK (b := 63) (c := (0 : UInt8).toNat % 64) rfl rfl lc (by decide) (and63 _) (wrapN8 (by omega))) (by decide) rfl ?_
    refine QD.e ((Ev.indexT T rfl rfl rfl (by omega) (by show _ < (64 : Int); omega)).as (b64ix (n := (0 : UInt8).toNat % 64) (by omega))) (by decide) rfl ?_
    refine QD.nil (hZ _ ?_)
    clear hZ Z
    refine RAny.on 26 (bl 28 134217727) rfl (by kernel_rfl) rfl (by decide) (Eff.lit T rfl rfl rfl (by decide) (by decide) rfl rfl rfl rfl rfl fun bq => ⟨fun _ _ => trivial, ?_⟩)
    refine RAny.tk 27 (bl 28 268435455) rfl (by kernel_rfl) (by decide) (fun _ _ => trivial) (Yld.eval T rfl rfl) ?_
    refine RAny.done _ (by kernel_rfl) ?_
    repeat (first | refine Run.seq ?_)
    refine Run.regionO (D := [some 44, some 45, some 7]) [true, true, true] rfl rfl rfl (fun Z hZ => ?_)
    refine QD.ev T (by decide) rfl rfl ?_
    refine QD.e (Ev.addI rfl rfl (wI (by first | omega | (simp only [List.length_cons, List.length_nil] ; omega) | (simp; omega)) (by first | omega | (simp only [List.length_cons, List.length_nil] ; omega) | (simp; omega)))) (by decide) rfl ?_
    refine QD.ev T (by decide) rfl rfl ?_
    refine QD.nil (hZ _ ?_)
    clear hZ Z
    repeat (first | refine Run.block ?_)
    refine Run.loop ?_
    repeat (first | refine Run.seq ?_)
    refine Run.regionO (D := [some 46, some 47]) [true, true] rfl rfl rfl (fun Z hZ => ?_)
    refine QD.ev T (by decide) rfl rfl ?_
    refine QD.e (Ev.lss rfl rfl) (by decide) rfl ?_
    refine QD.nil (hZ _ ?_)
    clear hZ Z
    repeat (first | refine Run.seq ?_ | refine Run.skip ?_ | refine Run.block ?_ | refine Run.cond_t rfl ?_)
    refine Run.regionP (D := [some 50, some 51, some 52, none]) [true, true, true] 3 rfl rfl rfl (by simp only [List.drop_succ_cons, List.drop_zero]; rfl) (fun Z hZ => ?_)
    refine QD.ev T (by decide) rfl rfl ?_
    refine QD.ev T (by decide) rfl rfl ?_
    refine QD.e (Ev.indexS T rfl rfl rfl rfl (by first | omega | (simp only [List.length_cons, List.length_nil] ; omega) | (simp; omega)) (by first | omega | (simp only [List.length_cons, List.length_nil] ; omega) | (simp; omega))) (by decide) rfl ?_
    refine QD.nil (hZ _ ?_)
    clear hZ Z
    first | refine Ops.store 0 rfl rfl rfl rfl rfl (T.sizeOk rfl) rfl (Nat.le_of_ble_eq_true rfl) rfl rfl ?_ | refine Ops.store 1 rfl rfl rfl rfl rfl (T.sizeOk rfl) rfl (Nat.le_of_ble_eq_true rfl) rfl rfl ?_ | refine Ops.store 2 rfl rfl rfl rfl rfl (T.sizeOk rfl) rfl (Nat.le_of_ble_eq_true rfl) rfl rfl ?_
    refine Ops.nil ?_
    repeat (first | refine Run.inBlock ?_)
    refine Run.regionO (D := [some 48, some 49, some 7]) [true, true, true] rfl rfl rfl (fun Z hZ => ?_)
    refine QD.ev T (by decide) rfl rfl ?_
    refine QD.e (Ev.addI rfl rfl (wI (by first | omega | (simp only [List.length_cons, List.length_nil] ; omega) | (simp; omega)) (by first | omega | (simp only [List.length_cons, List.length_nil] ; omega) | (simp; omega)))) (by decide) rfl ?_
    refine QD.ev T (by decide) rfl rfl ?_
    refine QD.nil (hZ _ ?_)
    clear hZ Z
    refine Run.inLoop ?_
    repeat (first | refine Run.seq ?_)
    refine Run.regionO (D := [some 46, some 47]) [true, true] rfl rfl rfl (fun Z hZ => ?_)
    refine QD.ev T (by decide) rfl rfl ?_
    refine QD.e (Ev.lss rfl rfl) (by decide) rfl ?_
    refine QD.nil (hZ _ ?_)
    clear hZ Z
    repeat (first | refine Run.exit rfl ?_ | refine Run.cond_f rfl ?_)
    refine Run.regionP (D := [some 53, some 54, some 55, some 3]) [true, true] 2 rfl rfl rfl (by simp only [List.drop_succ_cons, List.drop_zero]; rfl) (fun Z hZ => ?_)
    refine QD.ev T (by decide) rfl rfl ?_
    refine QD.ev T (by decide) rfl rfl ?_
    refine QD.nil (hZ _ ?_)
    clear hZ Z
    refine Ops.appLit [b64c (a.toNat / 4), b64c (a.toNat % 4 * 16 + b.toNat / 16), b64c (b.toNat % 16 * 4), 61] (N := [_]) btB hB rfl (by decide) rfl rfl rfl rfl rfl (by simp; omega) fun v3 M3 hB3 => ?_
    refine Ops.pure T rfl (by decide) rfl ?_
    refine Ops.nil ?_
    repeat (first | refine Run.inBlock ?_)
    refine Run.keep [0, 3] [_, _] rfl ?_
    refine Run.dropL (List.sublist_cons_self _ _) ?_
    exact ih ([] : Bs).length _ _ _ (by simp only [List.length_cons, List.length_nil]; omega) ⟨[], out ++ [b64c (a.toNat / 4), b64c (a.toNat % 4 * 16 + b.toNat / 16), b64c (b.toNat % 16 * 4), 61], _, v3, M3, rfl, hS2, hB3, by simp only [List.length_append, List.length_cons, List.length_nil] at hol ⊢; omega, by rw [← heq]; simp [b64], rfl, rfl, hle⟩
  | a :: b :: c :: t, hS, hol, heq =>
    refine Run.regionO (D := [some 8, some 9, some 10]) [true, true, true] rfl rfl rfl (fun Z hZ => ?_)
    refine QD.ev T (by decide) rfl rfl ?_
    refine QD.ev T (by decide) rfl rfl ?_
    refine QD.e ((Ev.gtr rfl rfl).as (show _ = Value.bool true from congrArg Value.bool (decide_eq_true (by simp only [List.length_cons]; omega)))) (by decide) rfl ?_
    refine QD.nil (hZ _ ?_)
    clear hZ Z
    repeat (first | refine Run.seq ?_ | refine Run.skip ?_ | refine Run.block ?_ | refine Run.cond_t rfl ?_)
    refine Run.region ?_
    refine Ops.alloc rfl (by decide) (T.zeroOk rfl) rfl (fun b4 => ?_)
    refine Ops.nil ?_
    repeat (first | refine Run.seq ?_)
    obtain ⟨news, hC, hF⟩ := First.sl (q := 3) hS (by simp only [List.length_cons]; omega)
    obtain rfl := hC.bytes_eq
    refine Run.regionP (D := [some 11, some 12, some 13, some 5]) [true, true] 2 rfl rfl rfl (by simp only [List.drop_succ_cons, List.drop_zero]; rfl) (fun Z hZ => ?_)
    refine QD.e (Ev.sliceArr T rfl rfl rfl) (by decide) rfl ?_
    refine QD.ev T (by decide) rfl rfl ?_
    refine QD.nil (hZ _ ?_)
    clear hZ Z
    refine Ops.copyOwn (q := 3) 0 T rfl (by decide) rfl rfl rfl rfl (fun W => rfl) (by show min _ 3 = _; simp only [List.length_cons, List.length_nil]; omega) rfl (fun W hi => hF W _ _ _ _ hi) (Nat.le_of_ble_eq_true rfl) rfl rfl ?_
    refine Ops.pure T rfl (by decide) rfl ?_
    refine Ops.nil ?_
    repeat (first | refine Run.seq ?_)
    refine Run.region ?_
    refine Ops.pure T rfl (by decide) rfl ?_
    refine Ops.pure T rfl (by decide) rfl ?_
    refine Ops.sliceSl (kd := .i64) (kd' := .i64) (l' := 3) hS rfl (by decide) rfl (.inl ⟨rfl, rfl⟩) (.inr ⟨_, rfl, rfl⟩) (by simp only [List.length_cons]; omega) (Nat.le_refl _) (T.undOk rfl) (T.sizeOk rfl) fun v2 hS2 => ?_
    rw [List.take_length] at hS2
    simp only [List.drop_succ_cons, List.drop_zero] at hS2
    refine Ops.pure T rfl (by decide) rfl ?_
    refine Ops.nil ?_
    repeat (first | refine Run.seq ?_)
    have la := a.toNat_lt
    have lb := b.toNat_lt
    have lc := c.toNat_lt
    refine Run.regionT (D := [some 17, some 18, some 19, some 20, some 21, some 22, some 23, some 24, some 25, some 26, some 27, some 28, some 29, some 30, some 31, some 32, some 33, some 34, some 35, some 36, some 37, some 38, some 39, some 40, some 41, some 42, some 43, some 6]) (fun _ => True) [true, true, true, true, true, true, true, true, true, true, true, true, true, true, true, true, true, true, true, true, true, true, true, true, true, true] (bl 28 67108863) 2 (by kernel_rfl) (by kernel_rfl) (by kernel_rfl) rfl (fun Z hZ => ?_)
    refine QD.e (Ev.indexP T rfl rfl rfl rfl (by first | omega | (simp only [List.length_cons, List.length_nil] ; omega) | (simp; omega)) (by first | omega | (simp only [List.length_cons, List.length_nil] ; omega) | (simp; omega))) (by decide) rfl ?_
    first | refine QD.yv (by decide) rfl (Yv.load 0 T rfl rfl rfl rfl) ?_ | refine QD.yv (by decide) rfl (Yv.load 1 T rfl rfl rfl rfl) ?_ | refine QD.yv (by decide) rfl (Yv.load 2 T rfl rfl rfl rfl) ?_
    refine QD.e (Ev.shrK rfl rfl (by decide) (by decide) (shrL a.toNat 2)) (by decide) rfl ?_
    refine QD.e ((Ev.indexT T rfl rfl rfl (by omega) (by show _ < (64 : Int); omega)).as (b64ix (n := a.toNat / 4) (by omega))) (by decide) rfl ?_
    refine QD.e (Ev.indexP T rfl rfl rfl rfl (by first | omega | (simp only [List.length_cons, List.length_nil] ; omega) | (simp; omega)) (by first | omega | (simp only [List.length_cons, List.length_nil] ; omega) | (simp; omega))) (by decide) rfl ?_
    first | refine QD.yv (by decide) rfl (Yv.load 0 T rfl rfl rfl rfl) ?_ | refine QD.yv (by decide) rfl (Yv.load 1 T rfl rfl rfl rfl) ?_ | refine QD.yv (by decide) rfl (Yv.load 2 T rfl rfl rfl rfl) ?_
    refine QD.e (Ev.andK (b := 3) (c := a.toNat % 4) rfl rfl la (by decide) (and3 _) (wrapN8 (by omega))) (by decide) rfl ?_
    refine QD.e (Ev.shlK rfl rfl (by decide) (by decide) (shl8_4 (by omega))) (by decide) rfl ?_
    refine QD.e (Ev.indexP T rfl rfl rfl rfl (by first | omega | (simp only [List.length_cons, List.length_nil] ; omega) | (simp; omega)) (by first | omega | (simp only [List.length_cons, List.length_nil] ; omega) | (simp; omega))) (by decide) rfl ?_
    first | refine QD.yv (by decide) rfl (Yv.load 0 T rfl rfl rfl rfl) ?_ | refine QD.yv (by decide) rfl (Yv.load 1 T rfl rfl rfl rfl) ?_ | refine QD.yv (by decide) rfl (Yv.load 2 T rfl rfl rfl rfl) ?_
    refine QD.e (Ev.shrK rfl rfl (by decide) (by decide) (shrL b.toNat 4)) (by decide) rfl ?_
    refine QD.e (Ev.orK (a := a.toNat % 4 * 16) (b := b.toNat / 16) (c := a.toNat % 4 * 16 + b.toNat / 16) rfl rfl (by show _ < 256; omega) (by show _ < 256; omega) (orSh 4 (by omega)) (wrapN8 (by omega))) (by decide) rfl ?_
    refine QD.e ((Ev.indexT T rfl rfl rfl (by omega) (by show _ < (64 : Int); omega)).as (b64ix (n := a.toNat % 4 * 16 + b.toNat / 16) (by omega))) (by decide) rfl ?_
    refine QD.e (Ev.indexP T rfl rfl rfl rfl (by first | omega | (simp only [List.length_cons, List.length_nil] ; omega) | (simp; omega)) (by first | omega | (simp only [List.length_cons, List.length_nil] ; omega) | (simp; omega))) (by decide) rfl ?_
    first | refine QD.yv (by decide) rfl (Yv.load 0 T rfl rfl rfl rfl) ?_ | refine QD.yv (by decide) rfl (Yv.load 1 T rfl rfl rfl rfl) ?_ | refine QD.yv (by decide) rfl (Yv.load 2 T rfl rfl rfl rfl) ?_
    refine QD.e (Ev.andK (b := 15) (c := b.toNat % 16) rfl rfl lb (by decide) (and15 _) (wrapN8 (by omega))) (by decide) rfl ?_
    refine QD.e (Ev.shlK rfl rfl (by decide) (by decide) (shl8_2 (by omega))) (by decide) rfl ?_
    refine QD.e (Ev.indexP T rfl rfl rfl rfl (by first | omega | (simp only [List.length_cons, List.length_nil] ; omega) | (simp; omega)) (by first | omega | (simp only [List.length_cons, List.length_nil] ; omega) | (simp; omega))) (by decide) rfl ?_
    first | refine QD.yv (by decide) rfl (Yv.load 0 T rfl rfl rfl rfl) ?_ | refine QD.yv (by decide) rfl (Yv.load 1 T rfl rfl rfl rfl) ?_ | refine QD.yv (by decide) rfl (Yv.load 2 T rfl rfl rfl rfl) ?_
    refine QD.e (Ev.shrK rfl rfl (by decide) (by decide) (shrL c.toNat 6)) (by decide) rfl ?_
    refine QD.e (Ev.orK (a := b.toNat % 16 * 4) (b := c.toNat / 64) (c := b.toNat % 16 * 4 + c.toNat / 64) rfl rfl (by show _ < 256; omega) (by show _ < 256; omega) (orSh 2 (by omega)) (wrapN8 (by omega))) (by decide) rfl ?_
    refine QD.e ((Ev.indexT T rfl rfl rfl (by omega) (by show _ < (64 : Int); omega)).as (b64ix (n := b.toNat % 16 * 4 + c.toNat / 64) (by omega))) (by decide) rfl ?_
    refine QD.e (Ev.indexP T rfl rfl rfl rfl (by first | omega | (simp only [List.length_cons, List.length_nil] ; omega) | (simp; omega)) (by first | omega | (simp only [List.length_cons, List.length_nil] ; omega) | (simp; omega))) (by decide) rfl ?_
    first | refine QD.yv (by decide) rfl (Yv.load 0 T rfl rfl rfl rfl) ?_ | refine QD.yv (by decide) rfl (Yv.load 1 T rfl rfl rfl rfl) ?_ | refine QD.yv (by decide) rfl (Yv.load 2 T rfl rfl rfl rfl) ?_
    refine QD.e (Ev.andK (b := 63) (c := c.toNat % 64) rfl rfl lc (by decide) (and63 _) (wrapN8 (by omega))) (by decide) rfl ?_
    refine QD.e ((Ev.indexT T rfl rfl rfl (by omega) (by show _ < (64 : Int); omega)).as (b64ix (n := c.toNat % 64) (by omega))) (by decide) rfl ?_
    refine QD.nil (hZ _ ?_)
    clear hZ Z
    refine RAny.on 26 (bl 28 134217727) rfl (by kernel_rfl) rfl (by decide) (Eff.lit T rfl rfl rfl (by decide) (by decide) rfl rfl rfl rfl rfl fun bq => ⟨fun _ _ => trivial, ?_⟩)
    refine RAny.tk 27 (bl 28 268435455) rfl (by kernel_rfl) (by decide) (fun _ _ => trivial) (Yld.eval T rfl rfl) ?_
    refine RAny.done _ (by kernel_rfl) ?_
    repeat (first | refine Run.seq ?_)
    refine Run.regionO (D := [some 44, some 45, some 7]) [true, true, true] rfl rfl rfl (fun Z hZ => ?_)
    refine QD.ev T (by decide) rfl rfl ?_
    refine QD.e (Ev.addI rfl rfl (wI (by first | omega | (simp only [List.length_cons, List.length_nil] ; omega) | (simp; omega)) (by first | omega | (simp only [List.length_cons, List.length_nil] ; omega) | (simp; omega)))) (by decide) rfl ?_
    refine QD.ev T (by decide) rfl rfl ?_
    refine QD.nil (hZ _ ?_)
    clear hZ Z
    repeat (first | refine Run.block ?_)
    refine Run.loop ?_
    repeat (first | refine Run.seq ?_)
    refine Run.regionO (D := [some 46, some 47]) [true, true] rfl rfl rfl (fun Z hZ => ?_)
    refine QD.ev T (by decide) rfl rfl ?_
    refine QD.e (Ev.lss rfl rfl) (by decide) rfl ?_
    refine QD.nil (hZ _ ?_)
    clear hZ Z
    repeat (first | refine Run.exit rfl ?_ | refine Run.cond_f rfl ?_)
    refine Run.regionP (D := [some 53, some 54, some 55, some 3]) [true, true] 2 rfl rfl rfl (by simp only [List.drop_succ_cons, List.drop_zero]; rfl) (fun Z hZ => ?_)
    refine QD.ev T (by decide) rfl rfl ?_
    refine QD.ev T (by decide) rfl rfl ?_
    refine QD.nil (hZ _ ?_)
    clear hZ Z
    refine Ops.appLit [b64c (a.toNat / 4), b64c (a.toNat % 4 * 16 + b.toNat / 16), b64c (b.toNat % 16 * 4 + c.toNat / 64), b64c (c.toNat % 64)] (N := [_]) btB hB rfl (by decide) rfl rfl rfl rfl rfl (by simp; omega) fun v3 M3 hB3 => ?_
    refine Ops.pure T rfl (by decide) rfl ?_
    refine Ops.nil ?_
    repeat (first | refine Run.inBlock ?_)
    refine Run.keep [0, 3] [_, _] rfl ?_
    refine Run.dropL (List.sublist_cons_self _ _) ?_
    exact ih (t : Bs).length _ _ _ (by simp only [List.length_cons, List.length_nil]; omega) ⟨t, out ++ [b64c (a.toNat / 4), b64c (a.toNat % 4 * 16 + b.toNat / 16), b64c (b.toNat % 16 * 4 + c.toNat / 64), b64c (c.toNat % 64)], _, v3, M3, rfl, hS2, hB3, by simp only [List.length_append, List.length_cons, List.length_nil] at hol ⊢; omega, by rw [← heq]; simp [b64], rfl, rfl, hle⟩
end Go.V
