import Derived.Test.YtbalfblfkfbejaaGreatDoorWM7
import Derived.Test.YtbalfblfkfbejaaGreatDoorWM4
namespace Go.V
open Go.Proofs.Tryz
open Go.RowKit
set_option linter.unusedVariables false
set_option linter.unusedSimpArgs false
set_option maxRecDepth 10000
attribute [local irreducible] Run Ops QD
def UT (I : Imm) : Prop := (∀ c, c < 256 → At I 0 c [.int .u8 (Lib.firstT c)]) ∧ ∀ i, i < 16 → At I 1 (2 * i) [.int .u8 (Lib.accLo i)] ∧ At I 1 (2 * i + 1) [.int .u8 (Lib.accHi i)]
theorem UT.mono {I J : Imm} (h : UT I) (hle : Le I J) : UT J := ⟨fun c hc => (h.1 c hc).mono hle, fun i hi => ⟨(h.2 i hi).1.mono hle, (h.2 i hi).2.mono hle⟩⟩
theorem At.cellF {I : Imm} {L : Own} {W : World} (h : Fits I L W) {b off : Nat} {v : Value} (hA : At I b off [v]) : W.cell? ⟨b, off, none⟩ = some v := by
  have := (show Holds I L W from ⟨h.imm, h.own⟩).cell hA 0 v rfl
  simpa using this
theorem UT.tabs {I : Imm} {L : Own} {W : World} (h : UT I) (hf : Fits I L W) : Lib.Utf8Tabs 0 1 W :=
  ⟨fun c hc => (h.1 c hc).cellF hf, fun i hi => ⟨(h.2 i hi).1.cellF hf, (h.2 i hi).2.cellF hf⟩⟩
theorem utf8_ValidString (I : Imm) (hU : UT I) (s : List UInt8) (hs : s.length ≤ 1099511627776) : Pure prog 80 [str s] I fun w J => w = .bool (Lib.validD s) ∧ J = I :=
  Pure.ofBelow fun W hf => by
    have := Proofs.Any.utf8_ValidString lays196 ⟨s.toArray⟩ W (by rw [str_size]; omega) (hU.tabs hf)
    exact this
theorem decGo (s : List UInt8) (hs : s ≠ []) : Lib.decodeGo ⟨s.toArray⟩ = runeAt s 0 := by
  have : (⟨s.toArray⟩ : ByteArray).size ≠ 0 := by rw [str_size]; have := List.length_pos_iff.2 hs; omega
  unfold Lib.decodeGo
  rw [if_neg this]; rfl
theorem utf8_DecodeStr (I : Imm) (hU : UT I) (s : List UInt8) (hs : s ≠ []) : Pure prog 214 [str s] I fun w J => w = .tuple #[.int .i32 ((runeAt s 0).1 : Int), .int .i64 ((runeAt s 0).2 : Int)] ∧ J = I :=
  Pure.ofBelow fun W hf => by
    have := Proofs.Any.utf8_DecodeRuneInString lays197 ⟨s.toArray⟩ W (hU.tabs hf)
    rw [decGo s hs] at this
    exact this
theorem utf8_Decode (I : Imm) (hU : UT I) (s : List UInt8) (v : Value) (db off c : Nat) (hR : Rd I v s db off c) (hs : s ≠ []) : Pure prog 147 [v] I fun w J => w = .tuple #[.int .i32 ((runeAt s 0).1 : Int), .int .i64 ((runeAt s 0).2 : Int)] ∧ J = I :=
  Pure.ofBelow fun W hf => by
    obtain rfl := hR.eq
    have := Proofs.Any7.utf8_DecodeRune lays32 ⟨s.toArray⟩ db off c W (hU.tabs hf) (fun j hj => by
      rw [str_size] at hj
      have := (hR.at' j hj).cellF hf
      have e : (⟨s.toArray⟩ : ByteArray).get! j = s.getD j 0 := ba_get s j
      rw [e, ← this]
      congr 2; omega)
    rw [decGo s hs, str_size] at this
    exact this
theorem w8_nat {k : Nat} (h : k < 256) : Value.int .u8 (k : Int) = w8 (UInt8.ofNat k) := by unfold w8; rw [ofNat_nat h]
theorem shrL (a k : Nat) : (a : Int).fdiv (2 ^ k) = ((a / 2 ^ k : Nat) : Int) := by
  rw [Int.fdiv_eq_ediv_of_nonneg _ (Int.pow_nonneg (by decide))]
  simp
theorem and63 (a : Nat) : a &&& 63 = a % 64 := Nat.and_two_pow_sub_one_eq_mod a 6
theorem btB : Bt prog 31 5 := ⟨el31, t5, by kernel_rfl, rfl⟩
theorem wrapU32 {k : Nat} (h : k < 4294967296) : IntKind.u32.wrap (k : Int) = (k : Int) := by rw [wrap32]; omega
theorem wrapM8 (k : Nat) : IntKind.u8.wrap (k : Int) = ((k % 256 : Nat) : Int) := by rw [wrap8]; omega
theorem or128 (a : Nat) : 128 ||| a % 64 = 128 + a % 64 := orSh (a := 2) 6 (Nat.mod_lt _ (by decide))
set_option maxHeartbeats 1000000 in
theorem utf8_appendNon (I : Imm) (v : Value) (xs : List UInt8) (r : Nat) (M : Own) (hB : Buf 5 v xs M) (hx : xs.length ≤ 1099511627776) (h0 : 128 ≤ r) (h1 : r ≤ 1114111) :
    Spec prog 152 [v, .int .i32 (r : Int)] I M fun w J M' => Buf 5 w (xs ++ encR (r : Int)) M' ∧ J = I := by
  refine Spec.enter 78 [(0, _), (1, _)] func152 rfl ntmps152 (by simp) rfl ?_
  intro C hCf hR hCI
  repeat (first | refine Run.seq ?_)
  refine Run.regionO (D := [some 4]) [true] rfl rfl rfl (fun Z hZ => ?_)
  refine QD.ev T (by decide) rfl rfl ?_
  refine QD.nil (hZ _ ?_)
  clear hZ Z
  repeat (first | refine Run.seq ?_)
  refine Run.regionO (D := [some 6, some 7, some 5]) [true, true, true] rfl rfl rfl (fun Z hZ => ?_)
  refine QD.ev T (by decide) rfl rfl ?_
  refine QD.e (Ev.conv (a := (r : Int)) (r := (r : Int)) T rfl rfl rfl (wrapU32 (by omega))) (by decide) rfl ?_
  refine QD.ev T (by decide) rfl rfl ?_
  refine QD.nil (hZ _ ?_)
  clear hZ Z
  repeat (first | refine Run.seq ?_ | refine Run.block ?_)
  refine Run.regionO (D := [some 12, some 13, some 11]) [true, true, true] rfl rfl rfl (fun Z hZ => ?_)
  refine QD.ev T (by decide) rfl rfl ?_
  refine QD.e (Ev.leq rfl rfl) (by decide) rfl ?_
  refine QD.ev T (by decide) rfl rfl ?_
  refine QD.nil (hZ _ ?_)
  clear hZ Z
  by_cases c1 : r ≤ 2047
  · rw [decide_eq_true (show (r : Int) ≤ 2047 by omega)]
    have g : goodR r := .inl (by omega)
    have e : encR (r : Int) = [UInt8.ofNat (192 + r / 64), UInt8.ofNat (128 + r % 64)] := by rw [encR_good g, if_neg (by omega), if_pos (by omega)]
    repeat (first | refine Run.seq ?_ | refine Run.cond_t rfl ?_)
    refine Run.regionP (D := [some 14, some 15, some 16, some 17, some 18, some 19, some 20, some 21, some 22, some 23, some 24, some 4]) [true, true, true, true, true, true, true, true, true] 9 rfl rfl rfl (by simp only [List.drop_succ_cons, List.drop_zero]; rfl) (fun Z hZ => ?_)
    refine QD.ev T (by decide) rfl rfl ?_
    refine QD.ev T (by decide) rfl rfl ?_
    refine QD.e (Ev.shrK rfl rfl (by decide) (by decide) (shrL r 6)) (by decide) rfl ?_
    refine QD.e (Ev.conv (r := ((r / 64 : Nat) : Int)) T rfl rfl rfl (wrapN8 (by omega))) (by decide) rfl ?_
    refine QD.e ((Ev.orK (a := 192) (c := 192 + r / 64) rfl rfl (by decide) (by show _ < 256; omega) (orSh (a := 3) 6 (by omega)) (wrapN8 (by omega))).as (w8_nat (by omega))) (by decide) rfl ?_
    refine QD.ev T (by decide) rfl rfl ?_
    refine QD.e (Ev.conv (r := ((r % 256 : Nat) : Int)) T rfl rfl rfl (wrapM8 r)) (by decide) rfl ?_
    refine QD.e (Ev.andK (b := 63) (c := r % 64) rfl rfl (by show _ < 256; omega) (by decide) (by rw [and63]; omega) (wrapN8 (by omega))) (by decide) rfl ?_
    refine QD.e ((Ev.orK (a := 128) (c := 128 + r % 64) rfl rfl (by decide) (by show _ < 256; omega) (or128 r) (wrapN8 (by omega))).as (w8_nat (by omega))) (by decide) rfl ?_
    refine QD.nil (hZ _ ?_)
    clear hZ Z
    refine Ops.lit T rfl rfl rfl (by decide) rfl (by decide) (by decide) rfl rfl rfl rfl rfl (fun bq => ?_)
    refine Ops.appLit [UInt8.ofNat (192 + r / 64), UInt8.ofNat (128 + r % 64)] (N := []) btB hB rfl (by decide) rfl rfl rfl rfl rfl (by simp; omega) fun v1 M1 hB1 => ?_
    refine Ops.pure T rfl (by decide) rfl ?_
    refine Ops.nil ?_
    skip
    refine Run.ret1 (by rw [hCf]; exact func152) results152 rfl (hR _ _ _ ?_)
    rw [e]
    exact ⟨hB1, rfl⟩
  rw [decide_eq_false (show ¬ (r : Int) ≤ 2047 by omega)]
  repeat (first | refine Run.seq ?_ | refine Run.cond_f rfl ?_)
  refine Run.regionO (D := [some 26, some 27, some 25]) [true, true, true] rfl rfl rfl (fun Z hZ => ?_)
  refine QD.ev T (by decide) rfl rfl ?_
  refine QD.e (Ev.lss rfl rfl) (by decide) rfl ?_
  refine QD.ev T (by decide) rfl rfl ?_
  refine QD.nil (hZ _ ?_)
  clear hZ Z
  by_cases c2 : r < 55296
  · rw [decide_eq_true (show (r : Int) < 55296 by omega)]
    have e : encR (r : Int) = [UInt8.ofNat (224 + r / 4096), UInt8.ofNat (128 + r / 64 % 64), UInt8.ofNat (128 + r % 64)] := by rw [encR_good (.inl c2), if_neg (by omega), if_neg (by omega), if_pos (by omega)]
    repeat (first | refine Run.seq ?_ | refine Run.skip ?_ | refine Run.cond_t rfl ?_)
    refine Run.regionP (D := [some 34, some 35, some 36, some 37, some 38, some 39, some 40, some 41, some 42, some 43, some 44, some 45, some 46, some 47, some 48, some 49, some 4]) [true, true, true, true, true, true, true, true, true, true, true, true, true, true] 14 rfl rfl rfl (by simp only [List.drop_succ_cons, List.drop_zero]; rfl) (fun Z hZ => ?_)
    refine QD.ev T (by decide) rfl rfl ?_
    refine QD.ev T (by decide) rfl rfl ?_
    refine QD.e (Ev.shrK rfl rfl (by decide) (by decide) (shrL r 12)) (by decide) rfl ?_
    refine QD.e (Ev.conv (r := ((r / 4096 : Nat) : Int)) T rfl rfl rfl (wrapN8 (by omega))) (by decide) rfl ?_
    refine QD.e ((Ev.orK (a := 224) (c := 224 + r / 4096) rfl rfl (by decide) (by show _ < 256; omega) (orSh (a := 14) 4 (by omega)) (wrapN8 (by omega))).as (w8_nat (by omega))) (by decide) rfl ?_
    refine QD.ev T (by decide) rfl rfl ?_
    refine QD.e (Ev.shrK rfl rfl (by decide) (by decide) (shrL r 6)) (by decide) rfl ?_
    refine QD.e (Ev.conv (r := (((r / 64) % 256 : Nat) : Int)) T rfl rfl rfl (wrapM8 (r / 64))) (by decide) rfl ?_
    refine QD.e (Ev.andK (b := 63) (c := (r / 64) % 64) rfl rfl (by show _ < 256; omega) (by decide) (by rw [and63]; omega) (wrapN8 (by omega))) (by decide) rfl ?_
    refine QD.e ((Ev.orK (a := 128) (c := 128 + (r / 64) % 64) rfl rfl (by decide) (by show _ < 256; omega) (or128 (r / 64)) (wrapN8 (by omega))).as (w8_nat (by omega))) (by decide) rfl ?_
    refine QD.ev T (by decide) rfl rfl ?_
    refine QD.e (Ev.conv (r := (((r) % 256 : Nat) : Int)) T rfl rfl rfl (wrapM8 (r))) (by decide) rfl ?_
    refine QD.e (Ev.andK (b := 63) (c := (r) % 64) rfl rfl (by show _ < 256; omega) (by decide) (by rw [and63]; omega) (wrapN8 (by omega))) (by decide) rfl ?_
    refine QD.e ((Ev.orK (a := 128) (c := 128 + (r) % 64) rfl rfl (by decide) (by show _ < 256; omega) (or128 (r)) (wrapN8 (by omega))).as (w8_nat (by omega))) (by decide) rfl ?_
    refine QD.nil (hZ _ ?_)
    clear hZ Z
    refine Ops.lit T rfl rfl rfl (by decide) rfl (by decide) (by decide) rfl rfl rfl rfl rfl (fun bq => ?_)
    refine Ops.appLit [UInt8.ofNat (224 + r / 4096), UInt8.ofNat (128 + r / 64 % 64), UInt8.ofNat (128 + r % 64)] (N := []) btB hB rfl (by decide) rfl rfl rfl rfl rfl (by simp; omega) fun v1 M1 hB1 => ?_
    refine Ops.pure T rfl (by decide) rfl ?_
    refine Ops.nil ?_
    skip
    refine Run.ret1 (by rw [hCf]; exact func152) results152 rfl (hR _ _ _ ?_)
    rw [e]
    exact ⟨hB1, rfl⟩
  rw [decide_eq_false (show ¬ (r : Int) < 55296 by omega)]
  repeat (first | refine Run.cond_f rfl ?_)
  by_cases c3 : r ≤ 57343
  · have e : encR (r : Int) = [239, 191, 189] := encR_bad (by
      cases h : Utf8.valid (r : Int) with
      | false => rfl
      | true => have := of_valid h; unfold goodR at this; omega)
    refine Run.regionO (D := [some 28, some 29, some 30, some 31, some 32, some 33, some 25]) [true, true, true, true, true, true, true] rfl rfl rfl (fun Z hZ => ?_)
    refine QD.ev T (by decide) rfl rfl ?_
    refine QD.e ((Ev.lss rfl rfl).as (show _ = Value.bool false from congrArg Value.bool (decide_eq_false (by omega)))) (by decide) rfl ?_
    refine QD.ev T (by decide) rfl rfl ?_
    first | refine QD.ev T (by decide) rfl rfl ?_ | refine QD.off (by decide) rfl ?_
    first | refine QD.e (Ev.leq rfl rfl) (by decide) rfl ?_ | refine QD.off (by decide) rfl ?_
    refine QD.ev T (by decide) rfl rfl ?_
    refine QD.ev T (by decide) rfl rfl ?_
    refine QD.nil (hZ _ ?_)
    clear hZ Z
    repeat (first | refine Run.seq ?_ | refine Run.cond_f rfl ?_)
    refine Run.regionO (D := [some 51, some 52, some 53, some 54, some 55, some 56, some 50]) [true, true, true, true, true, true, true] rfl rfl rfl (fun Z hZ => ?_)
    refine QD.ev T (by decide) rfl rfl ?_
    refine QD.e ((Ev.gtr rfl rfl).as (show _ = Value.bool false from congrArg Value.bool (decide_eq_false (by omega)))) (by decide) rfl ?_
    refine QD.ev T (by decide) rfl rfl ?_
    first | refine QD.ev T (by decide) rfl rfl ?_ | refine QD.off (by decide) rfl ?_
    first | refine QD.e (Ev.leq rfl rfl) (by decide) rfl ?_ | refine QD.off (by decide) rfl ?_
    refine QD.ev T (by decide) rfl rfl ?_
    refine QD.ev T (by decide) rfl rfl ?_
    refine QD.nil (hZ _ ?_)
    clear hZ Z
    repeat (first | refine Run.seq ?_ | refine Run.cond_f rfl ?_)
    refine Run.regionP (D := [some 8, some 9, some 10, some 4]) [true] 1 rfl rfl rfl (by simp only [List.drop_succ_cons, List.drop_zero]; rfl) (fun Z hZ => ?_)
    refine QD.ev T (by decide) rfl rfl ?_
    refine QD.nil (hZ _ ?_)
    clear hZ Z
    refine Ops.lit T rfl rfl rfl (by decide) rfl (by decide) (by decide) rfl rfl rfl rfl rfl (fun bq => ?_)
    refine Ops.appLit [239, 191, 189] (N := []) btB hB rfl (by decide) rfl rfl rfl rfl rfl (by simp; omega) fun v1 M1 hB1 => ?_
    refine Ops.pure T rfl (by decide) rfl ?_
    refine Ops.nil ?_
    skip
    refine Run.ret1 (by rw [hCf]; exact func152) results152 rfl (hR _ _ _ ?_)
    rw [e]
    exact ⟨hB1, rfl⟩
  by_cases c4 : r ≤ 65535
  · have e : encR (r : Int) = [UInt8.ofNat (224 + r / 4096), UInt8.ofNat (128 + r / 64 % 64), UInt8.ofNat (128 + r % 64)] := by rw [encR_good (.inr (by omega)), if_neg (by omega), if_neg (by omega), if_pos (by omega)]
    refine Run.regionO (D := [some 28, some 29, some 30, some 31, some 32, some 33, some 25]) [true, true, true, true, true, true, true] rfl rfl rfl (fun Z hZ => ?_)
    refine QD.ev T (by decide) rfl rfl ?_
    refine QD.e ((Ev.lss rfl rfl).as (show _ = Value.bool true from congrArg Value.bool (decide_eq_true (by omega)))) (by decide) rfl ?_
    refine QD.ev T (by decide) rfl rfl ?_
    first | refine QD.ev T (by decide) rfl rfl ?_ | refine QD.off (by decide) rfl ?_
    refine QD.e ((Ev.leq rfl rfl).as (show _ = Value.bool true from congrArg Value.bool (decide_eq_true (by omega)))) (by decide) rfl ?_
    refine QD.ev T (by decide) rfl rfl ?_
    refine QD.ev T (by decide) rfl rfl ?_
    refine QD.nil (hZ _ ?_)
    clear hZ Z
    repeat (first | refine Run.seq ?_ | refine Run.cond_t rfl ?_)
    refine Run.regionP (D := [some 34, some 35, some 36, some 37, some 38, some 39, some 40, some 41, some 42, some 43, some 44, some 45, some 46, some 47, some 48, some 49, some 4]) [true, true, true, true, true, true, true, true, true, true, true, true, true, true] 14 rfl rfl rfl (by simp only [List.drop_succ_cons, List.drop_zero]; rfl) (fun Z hZ => ?_)
    refine QD.ev T (by decide) rfl rfl ?_
    refine QD.ev T (by decide) rfl rfl ?_
    refine QD.e (Ev.shrK rfl rfl (by decide) (by decide) (shrL r 12)) (by decide) rfl ?_
    refine QD.e (Ev.conv (r := ((r / 4096 : Nat) : Int)) T rfl rfl rfl (wrapN8 (by omega))) (by decide) rfl ?_
    refine QD.e ((Ev.orK (a := 224) (c := 224 + r / 4096) rfl rfl (by decide) (by show _ < 256; omega) (orSh (a := 14) 4 (by omega)) (wrapN8 (by omega))).as (w8_nat (by omega))) (by decide) rfl ?_
    refine QD.ev T (by decide) rfl rfl ?_
    refine QD.e (Ev.shrK rfl rfl (by decide) (by decide) (shrL r 6)) (by decide) rfl ?_
    refine QD.e (Ev.conv (r := (((r / 64) % 256 : Nat) : Int)) T rfl rfl rfl (wrapM8 (r / 64))) (by decide) rfl ?_
    refine QD.e (Ev.andK (b := 63) (c := (r / 64) % 64) rfl rfl (by show _ < 256; omega) (by decide) (by rw [and63]; omega) (wrapN8 (by omega))) (by decide) rfl ?_
    refine QD.e ((Ev.orK (a := 128) (c := 128 + (r / 64) % 64) rfl rfl (by decide) (by show _ < 256; omega) (or128 (r / 64)) (wrapN8 (by omega))).as (w8_nat (by omega))) (by decide) rfl ?_
    refine QD.ev T (by decide) rfl rfl ?_
    refine QD.e (Ev.conv (r := (((r) % 256 : Nat) : Int)) T rfl rfl rfl (wrapM8 (r))) (by decide) rfl ?_
    refine QD.e (Ev.andK (b := 63) (c := (r) % 64) rfl rfl (by show _ < 256; omega) (by decide) (by rw [and63]; omega) (wrapN8 (by omega))) (by decide) rfl ?_
    refine QD.e ((Ev.orK (a := 128) (c := 128 + (r) % 64) rfl rfl (by decide) (by show _ < 256; omega) (or128 (r)) (wrapN8 (by omega))).as (w8_nat (by omega))) (by decide) rfl ?_
    refine QD.nil (hZ _ ?_)
    clear hZ Z
    refine Ops.lit T rfl rfl rfl (by decide) rfl (by decide) (by decide) rfl rfl rfl rfl rfl (fun bq => ?_)
    refine Ops.appLit [UInt8.ofNat (224 + r / 4096), UInt8.ofNat (128 + r / 64 % 64), UInt8.ofNat (128 + r % 64)] (N := []) btB hB rfl (by decide) rfl rfl rfl rfl rfl (by simp; omega) fun v1 M1 hB1 => ?_
    refine Ops.pure T rfl (by decide) rfl ?_
    refine Ops.nil ?_
    skip
    refine Run.ret1 (by rw [hCf]; exact func152) results152 rfl (hR _ _ _ ?_)
    rw [e]
    exact ⟨hB1, rfl⟩
  · have e : encR (r : Int) = [UInt8.ofNat (240 + r / 262144), UInt8.ofNat (128 + r / 4096 % 64), UInt8.ofNat (128 + r / 64 % 64), UInt8.ofNat (128 + r % 64)] := by rw [encR_good (.inr (by omega)), if_neg (by omega), if_neg (by omega), if_neg (by omega)]
    refine Run.regionO (D := [some 28, some 29, some 30, some 31, some 32, some 33, some 25]) [true, true, true, true, true, true, true] rfl rfl rfl (fun Z hZ => ?_)
    refine QD.ev T (by decide) rfl rfl ?_
    refine QD.e ((Ev.lss rfl rfl).as (show _ = Value.bool true from congrArg Value.bool (decide_eq_true (by omega)))) (by decide) rfl ?_
    refine QD.ev T (by decide) rfl rfl ?_
    first | refine QD.ev T (by decide) rfl rfl ?_ | refine QD.off (by decide) rfl ?_
    refine QD.e ((Ev.leq rfl rfl).as (show _ = Value.bool false from congrArg Value.bool (decide_eq_false (by omega)))) (by decide) rfl ?_
    refine QD.ev T (by decide) rfl rfl ?_
    refine QD.ev T (by decide) rfl rfl ?_
    refine QD.nil (hZ _ ?_)
    clear hZ Z
    repeat (first | refine Run.seq ?_ | refine Run.cond_f rfl ?_)
    refine Run.regionO (D := [some 51, some 52, some 53, some 54, some 55, some 56, some 50]) [true, true, true, true, true, true, true] rfl rfl rfl (fun Z hZ => ?_)
    refine QD.ev T (by decide) rfl rfl ?_
    refine QD.e ((Ev.gtr rfl rfl).as (show _ = Value.bool true from congrArg Value.bool (decide_eq_true (by omega)))) (by decide) rfl ?_
    refine QD.ev T (by decide) rfl rfl ?_
    first | refine QD.ev T (by decide) rfl rfl ?_ | refine QD.off (by decide) rfl ?_
    refine QD.e ((Ev.leq rfl rfl).as (show _ = Value.bool true from congrArg Value.bool (decide_eq_true (by omega)))) (by decide) rfl ?_
    refine QD.ev T (by decide) rfl rfl ?_
    refine QD.ev T (by decide) rfl rfl ?_
    refine QD.nil (hZ _ ?_)
    clear hZ Z
    repeat (first | refine Run.seq ?_ | refine Run.cond_t rfl ?_)
    refine Run.regionP (D := [some 57, some 58, some 59, some 60, some 61, some 62, some 63, some 64, some 65, some 66, some 67, some 68, some 69, some 70, some 71, some 72, some 73, some 74, some 75, some 76, some 77, some 4]) [true, true, true, true, true, true, true, true, true, true, true, true, true, true, true, true, true, true, true] 19 rfl rfl rfl (by simp only [List.drop_succ_cons, List.drop_zero]; rfl) (fun Z hZ => ?_)
    refine QD.ev T (by decide) rfl rfl ?_
    refine QD.ev T (by decide) rfl rfl ?_
    refine QD.e (Ev.shrK rfl rfl (by decide) (by decide) (shrL r 18)) (by decide) rfl ?_
    refine QD.e (Ev.conv (r := ((r / 262144 : Nat) : Int)) T rfl rfl rfl (wrapN8 (by omega))) (by decide) rfl ?_
    refine QD.e ((Ev.orK (a := 240) (c := 240 + r / 262144) rfl rfl (by decide) (by show _ < 256; omega) (orSh (a := 30) 3 (by omega)) (wrapN8 (by omega))).as (w8_nat (by omega))) (by decide) rfl ?_
    refine QD.ev T (by decide) rfl rfl ?_
    refine QD.e (Ev.shrK rfl rfl (by decide) (by decide) (shrL r 12)) (by decide) rfl ?_
    refine QD.e (Ev.conv (r := (((r / 4096) % 256 : Nat) : Int)) T rfl rfl rfl (wrapM8 (r / 4096))) (by decide) rfl ?_
    refine QD.e (Ev.andK (b := 63) (c := (r / 4096) % 64) rfl rfl (by show _ < 256; omega) (by decide) (by rw [and63]; omega) (wrapN8 (by omega))) (by decide) rfl ?_
    refine QD.e ((Ev.orK (a := 128) (c := 128 + (r / 4096) % 64) rfl rfl (by decide) (by show _ < 256; omega) (or128 (r / 4096)) (wrapN8 (by omega))).as (w8_nat (by omega))) (by decide) rfl ?_
    refine QD.ev T (by decide) rfl rfl ?_
    refine QD.e (Ev.shrK rfl rfl (by decide) (by decide) (shrL r 6)) (by decide) rfl ?_
    refine QD.e (Ev.conv (r := (((r / 64) % 256 : Nat) : Int)) T rfl rfl rfl (wrapM8 (r / 64))) (by decide) rfl ?_
    refine QD.e (Ev.andK (b := 63) (c := (r / 64) % 64) rfl rfl (by show _ < 256; omega) (by decide) (by rw [and63]; omega) (wrapN8 (by omega))) (by decide) rfl ?_
    refine QD.e ((Ev.orK (a := 128) (c := 128 + (r / 64) % 64) rfl rfl (by decide) (by show _ < 256; omega) (or128 (r / 64)) (wrapN8 (by omega))).as (w8_nat (by omega))) (by decide) rfl ?_
    refine QD.ev T (by decide) rfl rfl ?_
    refine QD.e (Ev.conv (r := (((r) % 256 : Nat) : Int)) T rfl rfl rfl (wrapM8 (r))) (by decide) rfl ?_
    refine QD.e (Ev.andK (b := 63) (c := (r) % 64) rfl rfl (by show _ < 256; omega) (by decide) (by rw [and63]; omega) (wrapN8 (by omega))) (by decide) rfl ?_
    refine QD.e ((Ev.orK (a := 128) (c := 128 + (r) % 64) rfl rfl (by decide) (by show _ < 256; omega) (or128 (r)) (wrapN8 (by omega))).as (w8_nat (by omega))) (by decide) rfl ?_
    refine QD.nil (hZ _ ?_)
    clear hZ Z
    refine Ops.lit T rfl rfl rfl (by decide) rfl (by decide) (by decide) rfl rfl rfl rfl rfl (fun bq => ?_)
    refine Ops.appLit [UInt8.ofNat (240 + r / 262144), UInt8.ofNat (128 + r / 4096 % 64), UInt8.ofNat (128 + r / 64 % 64), UInt8.ofNat (128 + r % 64)] (N := []) btB hB rfl (by decide) rfl rfl rfl rfl rfl (by simp; omega) fun v1 M1 hB1 => ?_
    refine Ops.pure T rfl (by decide) rfl ?_
    refine Ops.nil ?_
    skip
    refine Run.ret1 (by rw [hCf]; exact func152) results152 rfl (hR _ _ _ ?_)
    rw [e]
    exact ⟨hB1, rfl⟩
theorem utf8_Append (I : Imm) (v : Value) (xs : List UInt8) (r : Nat) (M : Own) (hB : Buf 5 v xs M) (hx : xs.length ≤ 1099511627776) (h1 : r ≤ 1114111) :
    Spec prog 148 [v, .int .i32 (r : Int)] I M fun w J M' => Buf 5 w (xs ++ encR (r : Int)) M' ∧ J = I := by
  refine Spec.enter 16 [(0, _), (1, _)] func148 rfl ntmps148 (by simp) rfl ?_
  intro C hCf hR hCI
  repeat (first | refine Run.seq ?_)
  refine Run.regionO (D := [some 4]) [true] rfl rfl rfl (fun Z hZ => ?_)
  refine QD.ev T (by decide) rfl rfl ?_
  refine QD.nil (hZ _ ?_)
  clear hZ Z
  repeat (first | refine Run.seq ?_)
  refine Run.regionO (D := [some 5, some 6, some 7]) [true, true, true] rfl rfl rfl (fun Z hZ => ?_)
  refine QD.ev T (by decide) rfl rfl ?_
  refine QD.e (Ev.conv (a := (r : Int)) (r := (r : Int)) T rfl rfl rfl (wrapU32 (by omega))) (by decide) rfl ?_
  refine QD.e (Ev.leq rfl rfl) (by decide) rfl ?_
  refine QD.nil (hZ _ ?_)
  clear hZ Z
  by_cases h : r ≤ 127
  · rw [decide_eq_true (show (r : Int) ≤ 127 by omega)]
    have e : encR (r : Int) = [UInt8.ofNat r] := by rw [encR_ascii _ (by omega) (by omega)]; simp
    repeat (first | refine Run.seq ?_ | refine Run.cond_t rfl ?_)
    refine Run.regionP (D := [some 8, some 9, some 10, some 11, some 12, some 4]) [true, true, true] 3 rfl rfl rfl (by simp only [List.drop_succ_cons, List.drop_zero]; rfl) (fun Z hZ => ?_)
    refine QD.ev T (by decide) rfl rfl ?_
    refine QD.ev T (by decide) rfl rfl ?_
    refine QD.e ((Ev.conv (a := (r : Int)) (r := (r : Int)) T rfl rfl rfl (wrapN8 (by omega))).as (w8_nat (by omega))) (by decide) rfl ?_
    refine QD.nil (hZ _ ?_)
    clear hZ Z
    refine Ops.lit T rfl rfl rfl (by decide) rfl (by decide) (by decide) rfl rfl rfl rfl rfl (fun bq => ?_)
    refine Ops.appLit [UInt8.ofNat r] (N := []) btB hB rfl (by decide) rfl rfl rfl rfl rfl (by simp; omega) fun v1 M1 hB1 => ?_
    refine Ops.pure T rfl (by decide) rfl ?_
    refine Ops.nil ?_
    skip
    refine Run.ret1 (by rw [hCf]; exact func148) results148 rfl (hR _ _ _ ?_)
    rw [e]
    exact ⟨hB1, rfl⟩
  · rw [decide_eq_false (show ¬ (r : Int) ≤ 127 by omega)]
    repeat (first | refine Run.seq ?_ | refine Run.skip ?_ | refine Run.cond_f rfl ?_)
    refine Run.regionP (D := [some 13, some 14, some 15, some 4]) [true, true] 2 rfl rfl rfl (by simp only [List.drop_succ_cons, List.drop_zero]; rfl) (fun Z hZ => ?_)
    refine QD.ev T (by decide) rfl rfl ?_
    refine QD.ev T (by decide) rfl rfl ?_
    refine QD.nil (hZ _ ?_)
    clear hZ Z
    refine Ops.callP (N := []) ((utf8_appendNon I v xs r M hB hx (by omega) h1)) (.refl _) rfl (by decide) call152 rfl ?_
    rintro v1 J1 M1 l1 ⟨hB1, rfl⟩
    refine Ops.pure T rfl (by decide) rfl ?_
    refine Ops.nil ?_
    skip
    refine Run.ret1 (by rw [hCf]; exact func148) results148 rfl (hR _ _ _ ?_)
    exact ⟨hB1, rfl⟩
end Go.V
namespace Go.V
open Go.Proofs.Tryz
open Go.RowKit
set_option linter.unusedVariables false
set_option linter.unusedSimpArgs false
set_option maxRecDepth 10000
attribute [local irreducible] Run Ops QD
theorem sfx_getD {xs s : Bs} {c : UInt8} (h : Sfx (c :: s) xs) : posR xs (c :: s) < xs.length ∧ xs.getD (posR xs (c :: s)) 0 = c ∧ posR xs s = posR xs (c :: s) + 1 := by
  obtain ⟨u, rfl⟩ := h
  have e : posR (u ++ c :: s) (c :: s) = u.length := by unfold posR; rw [List.length_append, Nat.add_sub_cancel]
  refine ⟨by rw [e]; simp, ?_, ?_⟩
  · rw [e, List.getD_eq_getElem?_getD, List.getElem?_append_right (Nat.le_refl _)]; simp
  · rw [e]; unfold posR; simp only [List.length_append, List.length_cons]; omega
theorem unit_short : ∀ (k x : Nat) (s : Bs), s.length < k → unitR k x s = none
  | 0, x, s, h => by omega
  | k + 1, x, [], h => rfl
  | k + 1, x, c :: s, h => by
    simp only [unitR]
    split
    · rfl
    · exact unit_short k _ s (by simpa using h)
theorem shl4 (y : Nat) : ((y : Nat) : Int) * 2 ^ (4 : Int).toNat = ((y * 16 : Nat) : Int) := by
  show ((y : Nat) : Int) * 16 = _
  omega
set_option maxHeartbeats 4000000 in
theorem reader_unit (t : Bs) (I : Imm) (xs : Bs) (v : Value) (db off c r d : Nat) (hR0 : Rd I v xs db off c) (ht : Sfx t xs) (hl : xs.length ≤ 1099511627776) :
    Spec prog 149 [.pointer (some ⟨r, 0, none⟩)] I [(r, rdr v (posR xs t) d)] fun x J M => J = I ∧ match unitR 4 0 t with
      | some (y, t') => x = .tuple #[.int .i32 (y : Int), .bool true] ∧ M = [(r, rdr v (posR xs t') d)] ∧ y < 65536
      | none => ∃ q, posR xs t ≤ q ∧ q ≤ xs.length ∧ x = .tuple #[.int .i32 0, .bool false] ∧ M = [(r, rdr v q d)] := by
  obtain rfl := hR0.eq
  have hcap := hR0.cap
  have htl := ht.len
  refine Spec.enter 78 [(0, _)] func149 rfl ntmps149 (by simp) rfl ?_
  intro C hCf hR hCI
  repeat (first | refine Run.seq ?_)
  refine Run.regionO (D := [some 2, some 3]) [true, true] rfl rfl rfl (fun Z hZ => ?_)
  refine QD.ev T (by decide) rfl rfl ?_
  refine QD.ev T (by decide) rfl rfl ?_
  refine QD.nil (hZ _ ?_)
  clear hZ Z
  repeat (first | refine Run.seq ?_)
  by_cases hlt : t.length < 4
  · skip
    refine Run.regionQ (D := [some 5, some 6, some 7, some 8, some 9, some 10, some 11, some 12, some 13, some 14, some 15]) [true, true, true, true, true, true, true, true, true, true, true] (bl 11 2047) (by kernel_rfl) (by kernel_rfl) (by kernel_rfl) (by kernel_rfl) rfl (fun Z hZ => ?_)
    refine QD.ev T (by decide) rfl rfl ?_
    refine QD.ev T (by decide) rfl rfl ?_
    refine QD.ev T (by decide) rfl rfl ?_
    first | refine QD.yv (by decide) rfl (Yv.load 0 T rfl rfl rfl rfl) ?_ | refine QD.yv (by decide) rfl (Yv.load 1 T rfl rfl rfl rfl) ?_ | refine QD.yv (by decide) rfl (Yv.load 2 T rfl rfl rfl rfl) ?_
    refine QD.e (Ev.addK (r := ((posR xs t + 4 : Nat) : Int)) rfl rfl (by unfold posR; rw [wI (by omega) (by omega)]; omega)) (by decide) rfl ?_
    refine QD.ev T (by decide) rfl rfl ?_
    refine QD.ev T (by decide) rfl rfl ?_
    refine QD.ev T (by decide) rfl rfl ?_
    first | refine QD.yv (by decide) rfl (Yv.load 0 T rfl rfl rfl rfl) ?_ | refine QD.yv (by decide) rfl (Yv.load 1 T rfl rfl rfl rfl) ?_ | refine QD.yv (by decide) rfl (Yv.load 2 T rfl rfl rfl rfl) ?_
    refine QD.ev T (by decide) rfl rfl ?_
    refine QD.e ((Ev.gtr rfl rfl).as (show _ = Value.bool true from congrArg Value.bool (decide_eq_true (by unfold posR; omega)))) (by decide) rfl ?_
    refine QD.nil (hZ _ ?_)
    clear hZ Z
    repeat (first | refine Run.seq ?_ | refine Run.cond_t rfl ?_)
    refine Run.regionO (D := [some 2, some 3]) [true, true] rfl rfl rfl (fun Z hZ => ?_)
    refine QD.ev T (by decide) rfl rfl ?_
    refine QD.ev T (by decide) rfl rfl ?_
    refine QD.nil (hZ _ ?_)
    clear hZ Z
    skip
    refine Run.ret2 (by rw [hCf]; exact func149) results149 rfl rfl (hR _ _ _ ?_)
    rw [unit_short 4 0 t hlt]
    exact ⟨rfl, _, Nat.le_refl _, by unfold posR; omega, rfl, rfl⟩
  refine Run.regionQ (D := [some 5, some 6, some 7, some 8, some 9, some 10, some 11, some 12, some 13, some 14, some 15]) [true, true, true, true, true, true, true, true, true, true, true] (bl 11 2047) (by kernel_rfl) (by kernel_rfl) (by kernel_rfl) (by kernel_rfl) rfl (fun Z hZ => ?_)
  refine QD.ev T (by decide) rfl rfl ?_
  refine QD.ev T (by decide) rfl rfl ?_
  refine QD.ev T (by decide) rfl rfl ?_
  first | refine QD.yv (by decide) rfl (Yv.load 0 T rfl rfl rfl rfl) ?_ | refine QD.yv (by decide) rfl (Yv.load 1 T rfl rfl rfl rfl) ?_ | refine QD.yv (by decide) rfl (Yv.load 2 T rfl rfl rfl rfl) ?_
  refine QD.e (Ev.addK (r := ((posR xs t + 4 : Nat) : Int)) rfl rfl (by unfold posR; rw [wI (by omega) (by omega)]; omega)) (by decide) rfl ?_
  refine QD.ev T (by decide) rfl rfl ?_
  refine QD.ev T (by decide) rfl rfl ?_
  refine QD.ev T (by decide) rfl rfl ?_
  first | refine QD.yv (by decide) rfl (Yv.load 0 T rfl rfl rfl rfl) ?_ | refine QD.yv (by decide) rfl (Yv.load 1 T rfl rfl rfl rfl) ?_ | refine QD.yv (by decide) rfl (Yv.load 2 T rfl rfl rfl rfl) ?_
  refine QD.ev T (by decide) rfl rfl ?_
  refine QD.e ((Ev.gtr rfl rfl).as (show _ = Value.bool false from congrArg Value.bool (decide_eq_false (by unfold posR; omega)))) (by decide) rfl ?_
  refine QD.nil (hZ _ ?_)
  clear hZ Z
  repeat (first | refine Run.seq ?_ | refine Run.skip ?_ | refine Run.cond_f rfl ?_)
  refine Run.regionO (D := [some 16]) [true] rfl rfl rfl (fun Z hZ => ?_)
  refine QD.ev T (by decide) rfl rfl ?_
  refine QD.nil (hZ _ ?_)
  clear hZ Z
  repeat (first | refine Run.block ?_)
  refine Run.keep [0, 2, 16] [_, _, _] rfl ?_
  refine Run.rounds (fun m env L J => ∃ i y s, m = 4 - i ∧ i ≤ 4 ∧ Sfx s t ∧ unitR (4 - i) y s = unitR 4 0 t ∧ y < 16 ^ i ∧ s.length + i = t.length ∧ env = [(0, .pointer (some ⟨r, 0, none⟩)), (2, .int .i32 (y : Int)), (16, .int .i64 (i : Int))] ∧
    L = [(r, rdr (.slice (some ⟨db, off, none⟩) xs.length c) (posR xs s) d)] ∧ J = I) 4 ⟨0, 0, t, rfl, by omega, Sfx.refl _, rfl, by decide, rfl, rfl, rfl, rfl⟩ ?_
  rintro m env L J ⟨i, y, s, rfl, hi, hs, hu, hy, hsl, rfl, rfl, rfl⟩ ih
  by_cases h4 : i = 4
  · subst h4
    repeat (first | refine Run.seq ?_)
    refine Run.regionO (D := [some 17]) [true] rfl rfl rfl (fun Z hZ => ?_)
    refine QD.e (Ev.lss rfl rfl) (by decide) rfl ?_
    refine QD.nil (hZ _ ?_)
    clear hZ Z
    repeat (first | refine Run.seq ?_ | refine Run.exit rfl ?_ | refine Run.cond_f rfl ?_)
    refine Run.regionO (D := [some 77, some 2, some 3]) [true, true, true] rfl rfl rfl (fun Z hZ => ?_)
    refine QD.ev T (by decide) rfl rfl ?_
    refine QD.ev T (by decide) rfl rfl ?_
    refine QD.ev T (by decide) rfl rfl ?_
    refine QD.nil (hZ _ ?_)
    clear hZ Z
    skip
    refine Run.ret2 (by rw [hCf]; exact func149) results149 rfl rfl (hR _ _ _ ?_)
    rw [← hu]
    exact ⟨rfl, rfl, rfl, hy⟩
  have hy2 : y < 4096 := Nat.lt_of_lt_of_le hy (Nat.pow_le_pow_right (by decide) (show i ≤ 3 by omega))
  have hsx := hs.trans ht
  obtain ⟨e, s, rfl⟩ : ∃ e s', s = e :: s' := by
    cases s with
    | nil => simp at hsl; omega
    | cons e s => exact ⟨e, s, rfl⟩
  obtain ⟨g1, g2, g3⟩ := sfx_getD hsx
  have hA := hR0.at' _ g1
  rw [g2] at hA
  have he := e.toNat_lt
  repeat (first | refine Run.seq ?_)
  refine Run.regionO (D := [some 17]) [true] rfl rfl rfl (fun Z hZ => ?_)
  refine QD.e ((Ev.lss rfl rfl).as (show _ = Value.bool true from congrArg Value.bool (decide_eq_true (by omega)))) (by decide) rfl ?_
  refine QD.nil (hZ _ ?_)
  clear hZ Z
  repeat (first | refine Run.seq ?_ | refine Run.skip ?_ | refine Run.block ?_ | refine Run.cond_t rfl ?_)
  have hpt : posR xs t ≤ posR xs (e :: s) := by have := hs.len; unfold posR; omega
  generalize hp : posR xs (e :: s) = p at *
  refine Run.regionQ (D := [some 18, some 19, some 20, some 21, some 22, some 23, some 24, some 25, some 26, some 27, some 4]) [true, true, true, true, true, true, true, true, true, true, true] (bl 11 2047) (by kernel_rfl) (by kernel_rfl) (by kernel_rfl) (by kernel_rfl) rfl (fun Z hZ => ?_)
  refine QD.ev T (by decide) rfl rfl ?_
  refine QD.ev T (by decide) rfl rfl ?_
  refine QD.ev T (by decide) rfl rfl ?_
  first | refine QD.yv (by decide) rfl (Yv.load 0 T rfl rfl rfl rfl) ?_ | refine QD.yv (by decide) rfl (Yv.load 1 T rfl rfl rfl rfl) ?_ | refine QD.yv (by decide) rfl (Yv.load 2 T rfl rfl rfl rfl) ?_ | refine QD.yv (by decide) rfl (Yv.loadI T hA rfl rfl) ?_
  refine QD.ev T (by decide) rfl rfl ?_
  refine QD.ev T (by decide) rfl rfl ?_
  refine QD.ev T (by decide) rfl rfl ?_
  first | refine QD.yv (by decide) rfl (Yv.load 0 T rfl rfl rfl rfl) ?_ | refine QD.yv (by decide) rfl (Yv.load 1 T rfl rfl rfl rfl) ?_ | refine QD.yv (by decide) rfl (Yv.load 2 T rfl rfl rfl rfl) ?_ | refine QD.yv (by decide) rfl (Yv.loadI T hA rfl rfl) ?_
  refine QD.e (Ev.indexS T rfl rfl rfl rfl (by first | omega | (simp only [List.length_cons, List.length_nil] ; omega) | (simp; omega)) (by first | omega | (simp only [List.length_cons, List.length_nil] ; omega) | (simp; omega))) (by decide) rfl ?_
  first | refine QD.yv (by decide) rfl (Yv.load 0 T rfl rfl rfl rfl) ?_ | refine QD.yv (by decide) rfl (Yv.load 1 T rfl rfl rfl rfl) ?_ | refine QD.yv (by decide) rfl (Yv.load 2 T rfl rfl rfl rfl) ?_ | refine QD.yv (by decide) rfl (Yv.loadI T hA rfl rfl) ?_
  refine QD.ev T (by decide) rfl rfl ?_
  refine QD.nil (hZ _ ?_)
  clear hZ Z
  repeat (first | refine Run.seq ?_ | refine Run.block ?_)
  by_cases k1 : e.toNat < 48
  · skip
    refine Run.regionO (D := [some 29, some 30, some 31, some 32, some 33, some 34, some 28]) [true, true, true, true, true, true, true] rfl rfl rfl (fun Z hZ => ?_)
    refine QD.ev T (by decide) rfl rfl ?_
    refine QD.e ((Ev.geq rfl rfl).as (show _ = Value.bool false from congrArg Value.bool (decide_eq_false (by omega)))) (by decide) rfl ?_
    refine QD.ev T (by decide) rfl rfl ?_
    first | refine QD.ev T (by decide) rfl rfl ?_ | refine QD.off (by decide) rfl ?_
    first | refine QD.e (Ev.leq rfl rfl) (by decide) rfl ?_ | refine QD.off (by decide) rfl ?_
    refine QD.ev T (by decide) rfl rfl ?_
    refine QD.ev T (by decide) rfl rfl ?_
    refine QD.nil (hZ _ ?_)
    clear hZ Z
    repeat (first | refine Run.seq ?_ | refine Run.cond_f rfl ?_)
    refine Run.regionO (D := [some 42, some 43, some 44, some 45, some 46, some 47, some 41]) [true, true, true, true, true, true, true] rfl rfl rfl (fun Z hZ => ?_)
    refine QD.ev T (by decide) rfl rfl ?_
    refine QD.e ((Ev.geq rfl rfl).as (show _ = Value.bool false from congrArg Value.bool (decide_eq_false (by omega)))) (by decide) rfl ?_
    refine QD.ev T (by decide) rfl rfl ?_
    first | refine QD.ev T (by decide) rfl rfl ?_ | refine QD.off (by decide) rfl ?_
    first | refine QD.e (Ev.leq rfl rfl) (by decide) rfl ?_ | refine QD.off (by decide) rfl ?_
    refine QD.ev T (by decide) rfl rfl ?_
    refine QD.ev T (by decide) rfl rfl ?_
    refine QD.nil (hZ _ ?_)
    clear hZ Z
    repeat (first | refine Run.seq ?_ | refine Run.cond_f rfl ?_)
    refine Run.regionO (D := [some 56, some 57, some 58, some 59, some 60, some 61, some 55]) [true, true, true, true, true, true, true] rfl rfl rfl (fun Z hZ => ?_)
    refine QD.ev T (by decide) rfl rfl ?_
    refine QD.e ((Ev.geq rfl rfl).as (show _ = Value.bool false from congrArg Value.bool (decide_eq_false (by omega)))) (by decide) rfl ?_
    refine QD.ev T (by decide) rfl rfl ?_
    first | refine QD.ev T (by decide) rfl rfl ?_ | refine QD.off (by decide) rfl ?_
    first | refine QD.e (Ev.leq rfl rfl) (by decide) rfl ?_ | refine QD.off (by decide) rfl ?_
    refine QD.ev T (by decide) rfl rfl ?_
    refine QD.ev T (by decide) rfl rfl ?_
    refine QD.nil (hZ _ ?_)
    clear hZ Z
    repeat (first | refine Run.seq ?_ | refine Run.cond_f rfl ?_)
    refine Run.regionO (D := [some 2, some 3]) [true, true] rfl rfl rfl (fun Z hZ => ?_)
    refine QD.ev T (by decide) rfl rfl ?_
    refine QD.ev T (by decide) rfl rfl ?_
    refine QD.nil (hZ _ ?_)
    clear hZ Z
    skip
    refine Run.ret2 (by rw [hCf]; exact func149) results149 rfl rfl (hR _ _ _ ?_)
    have hn : unitR 4 0 t = none := by
      rw [← hu, show 4 - i = 3 - i + 1 by omega]
      simp only [unitR]
      rw [show hexV e = none from by unfold hexV; repeat (rw [if_neg (by omega)])]
    rw [hn]
    exact ⟨rfl, _, hpt, by omega, rfl, rfl⟩
  by_cases k2 : e.toNat ≤ 57
  · skip
    refine Run.regionO (D := [some 29, some 30, some 31, some 32, some 33, some 34, some 28]) [true, true, true, true, true, true, true] rfl rfl rfl (fun Z hZ => ?_)
    refine QD.ev T (by decide) rfl rfl ?_
    refine QD.e ((Ev.geq rfl rfl).as (show _ = Value.bool true from congrArg Value.bool (decide_eq_true (by omega)))) (by decide) rfl ?_
    refine QD.ev T (by decide) rfl rfl ?_
    first | refine QD.ev T (by decide) rfl rfl ?_ | refine QD.off (by decide) rfl ?_
    refine QD.e ((Ev.leq rfl rfl).as (show _ = Value.bool true from congrArg Value.bool (decide_eq_true (by omega)))) (by decide) rfl ?_
    refine QD.ev T (by decide) rfl rfl ?_
    refine QD.ev T (by decide) rfl rfl ?_
    refine QD.nil (hZ _ ?_)
    clear hZ Z
    repeat (first | refine Run.cond_t rfl ?_)
    refine Run.regionO (D := [some 35, some 36, some 37, some 38, some 39, some 40, some 2]) [true, true, true, true, true, true, true] rfl rfl rfl (fun Z hZ => ?_)
    refine QD.ev T (by decide) rfl rfl ?_
    refine QD.e (Ev.shlK (r := ((y * 16 : Nat) : Int)) rfl rfl (by decide) (by decide) (by rw [shl4, wrapI32 (by omega) (by omega)])) (by decide) rfl ?_
    refine QD.ev T (by decide) rfl rfl ?_
    refine QD.e (Ev.subK (r := ((e.toNat - 48 : Nat) : Int)) rfl rfl (by rw [wrap8]; omega)) (by decide) rfl ?_
    refine QD.e (Ev.conv (r := ((e.toNat - 48 : Nat) : Int)) T rfl rfl rfl (wrapI32 (by omega) (by omega))) (by decide) rfl ?_
    refine QD.e (Ev.orK (a := y * 16) (b := e.toNat - 48) (c := y * 16 + (e.toNat - 48)) rfl rfl (by show _ < 4294967296; omega) (by show _ < 4294967296; omega) (orSh (a := y) 4 (by omega)) (wrapI32 (by omega) (by omega))) (by decide) rfl ?_
    refine QD.ev T (by decide) rfl rfl ?_
    refine QD.nil (hZ _ ?_)
    clear hZ Z
    repeat (first | refine Run.inBlock ?_)
    refine Run.regionP (D := [some 69, some 70, some 71, some 72, some 73, some 74, some 75, none]) [true, true, true, true, true, true, true] 7 rfl rfl rfl (by simp only [List.drop_succ_cons, List.drop_zero]; rfl) (fun Z hZ => ?_)
    refine QD.ev T (by decide) rfl rfl ?_
    refine QD.ev T (by decide) rfl rfl ?_
    refine QD.ev T (by decide) rfl rfl ?_
    first | refine QD.yv (by decide) rfl (Yv.load 0 T rfl rfl rfl rfl) ?_ | refine QD.yv (by decide) rfl (Yv.load 1 T rfl rfl rfl rfl) ?_ | refine QD.yv (by decide) rfl (Yv.load 2 T rfl rfl rfl rfl) ?_
    refine QD.e (Ev.addK (r := (posR xs s : Int)) rfl rfl (by rw [wI (by omega) (by omega), g3]; omega)) (by decide) rfl ?_
    refine QD.ev T (by decide) rfl rfl ?_
    refine QD.ev T (by decide) rfl rfl ?_
    refine QD.nil (hZ _ ?_)
    clear hZ Z
    first | refine Ops.store 0 rfl rfl rfl rfl rfl (T.sizeOk rfl) rfl (Nat.le_of_ble_eq_true rfl) rfl rfl ?_ | refine Ops.store 1 rfl rfl rfl rfl rfl (T.sizeOk rfl) rfl (Nat.le_of_ble_eq_true rfl) rfl rfl ?_ | refine Ops.store 2 rfl rfl rfl rfl rfl (T.sizeOk rfl) rfl (Nat.le_of_ble_eq_true rfl) rfl rfl ?_
    refine Ops.nil ?_
    repeat (first | refine Run.inBlock ?_)
    refine Run.regionO (D := [some 76, some 16]) [true, true] rfl rfl rfl (fun Z hZ => ?_)
    refine QD.e (Ev.addK (r := ((i + 1 : Nat) : Int)) rfl rfl (by rw [wI (by omega) (by omega)]; omega)) (by decide) rfl ?_
    refine QD.ev T (by decide) rfl rfl ?_
    refine QD.nil (hZ _ ?_)
    clear hZ Z
    skip
    refine Run.keep [0, 2, 16] [_, _, _] rfl ?_
    refine ih (4 - (i + 1)) _ _ _ (by omega) ⟨i + 1, y * 16 + (e.toNat - 48), s, rfl, by omega, (Sfx.cons e s).trans hs, ?_, by rw [Nat.pow_succ]; omega, by simp only [List.length_cons] at hsl; omega, rfl, rfl, rfl⟩
    rw [← hu, show 4 - i = 4 - (i + 1) + 1 by omega]
    simp only [unitR]
    rw [show hexV e = some (e.toNat - 48) from by unfold hexV; repeat (first | rw [if_pos (by omega)])]
  by_cases k3 : e.toNat < 65
  · skip
    refine Run.regionO (D := [some 29, some 30, some 31, some 32, some 33, some 34, some 28]) [true, true, true, true, true, true, true] rfl rfl rfl (fun Z hZ => ?_)
    refine QD.ev T (by decide) rfl rfl ?_
    refine QD.e ((Ev.geq rfl rfl).as (show _ = Value.bool true from congrArg Value.bool (decide_eq_true (by omega)))) (by decide) rfl ?_
    refine QD.ev T (by decide) rfl rfl ?_
    first | refine QD.ev T (by decide) rfl rfl ?_ | refine QD.off (by decide) rfl ?_
    refine QD.e ((Ev.leq rfl rfl).as (show _ = Value.bool false from congrArg Value.bool (decide_eq_false (by omega)))) (by decide) rfl ?_
    refine QD.ev T (by decide) rfl rfl ?_
    refine QD.ev T (by decide) rfl rfl ?_
    refine QD.nil (hZ _ ?_)
    clear hZ Z
    repeat (first | refine Run.seq ?_ | refine Run.cond_f rfl ?_)
    refine Run.regionO (D := [some 42, some 43, some 44, some 45, some 46, some 47, some 41]) [true, true, true, true, true, true, true] rfl rfl rfl (fun Z hZ => ?_)
    refine QD.ev T (by decide) rfl rfl ?_
    refine QD.e ((Ev.geq rfl rfl).as (show _ = Value.bool false from congrArg Value.bool (decide_eq_false (by omega)))) (by decide) rfl ?_
    refine QD.ev T (by decide) rfl rfl ?_
    first | refine QD.ev T (by decide) rfl rfl ?_ | refine QD.off (by decide) rfl ?_
    first | refine QD.e (Ev.leq rfl rfl) (by decide) rfl ?_ | refine QD.off (by decide) rfl ?_
    refine QD.ev T (by decide) rfl rfl ?_
    refine QD.ev T (by decide) rfl rfl ?_
    refine QD.nil (hZ _ ?_)
    clear hZ Z
    repeat (first | refine Run.seq ?_ | refine Run.cond_f rfl ?_)
    refine Run.regionO (D := [some 56, some 57, some 58, some 59, some 60, some 61, some 55]) [true, true, true, true, true, true, true] rfl rfl rfl (fun Z hZ => ?_)
    refine QD.ev T (by decide) rfl rfl ?_
    refine QD.e ((Ev.geq rfl rfl).as (show _ = Value.bool false from congrArg Value.bool (decide_eq_false (by omega)))) (by decide) rfl ?_
    refine QD.ev T (by decide) rfl rfl ?_
    first | refine QD.ev T (by decide) rfl rfl ?_ | refine QD.off (by decide) rfl ?_
    first | refine QD.e (Ev.leq rfl rfl) (by decide) rfl ?_ | refine QD.off (by decide) rfl ?_
    refine QD.ev T (by decide) rfl rfl ?_
    refine QD.ev T (by decide) rfl rfl ?_
    refine QD.nil (hZ _ ?_)
    clear hZ Z
    repeat (first | refine Run.seq ?_ | refine Run.cond_f rfl ?_)
    refine Run.regionO (D := [some 2, some 3]) [true, true] rfl rfl rfl (fun Z hZ => ?_)
    refine QD.ev T (by decide) rfl rfl ?_
    refine QD.ev T (by decide) rfl rfl ?_
    refine QD.nil (hZ _ ?_)
    clear hZ Z
    skip
    refine Run.ret2 (by rw [hCf]; exact func149) results149 rfl rfl (hR _ _ _ ?_)
    have hn : unitR 4 0 t = none := by
      rw [← hu, show 4 - i = 3 - i + 1 by omega]
      simp only [unitR]
      rw [show hexV e = none from by unfold hexV; repeat (rw [if_neg (by omega)])]
    rw [hn]
    exact ⟨rfl, _, hpt, by omega, rfl, rfl⟩
  by_cases k4 : e.toNat ≤ 70
  · skip
    refine Run.regionO (D := [some 29, some 30, some 31, some 32, some 33, some 34, some 28]) [true, true, true, true, true, true, true] rfl rfl rfl (fun Z hZ => ?_)
    refine QD.ev T (by decide) rfl rfl ?_
    refine QD.e ((Ev.geq rfl rfl).as (show _ = Value.bool true from congrArg Value.bool (decide_eq_true (by omega)))) (by decide) rfl ?_
    refine QD.ev T (by decide) rfl rfl ?_
    first | refine QD.ev T (by decide) rfl rfl ?_ | refine QD.off (by decide) rfl ?_
    refine QD.e ((Ev.leq rfl rfl).as (show _ = Value.bool false from congrArg Value.bool (decide_eq_false (by omega)))) (by decide) rfl ?_
    refine QD.ev T (by decide) rfl rfl ?_
    refine QD.ev T (by decide) rfl rfl ?_
    refine QD.nil (hZ _ ?_)
    clear hZ Z
    repeat (first | refine Run.seq ?_ | refine Run.cond_f rfl ?_)
    refine Run.regionO (D := [some 42, some 43, some 44, some 45, some 46, some 47, some 41]) [true, true, true, true, true, true, true] rfl rfl rfl (fun Z hZ => ?_)
    refine QD.ev T (by decide) rfl rfl ?_
    refine QD.e ((Ev.geq rfl rfl).as (show _ = Value.bool false from congrArg Value.bool (decide_eq_false (by omega)))) (by decide) rfl ?_
    refine QD.ev T (by decide) rfl rfl ?_
    first | refine QD.ev T (by decide) rfl rfl ?_ | refine QD.off (by decide) rfl ?_
    first | refine QD.e (Ev.leq rfl rfl) (by decide) rfl ?_ | refine QD.off (by decide) rfl ?_
    refine QD.ev T (by decide) rfl rfl ?_
    refine QD.ev T (by decide) rfl rfl ?_
    refine QD.nil (hZ _ ?_)
    clear hZ Z
    repeat (first | refine Run.seq ?_ | refine Run.cond_f rfl ?_)
    refine Run.regionO (D := [some 56, some 57, some 58, some 59, some 60, some 61, some 55]) [true, true, true, true, true, true, true] rfl rfl rfl (fun Z hZ => ?_)
    refine QD.ev T (by decide) rfl rfl ?_
    refine QD.e ((Ev.geq rfl rfl).as (show _ = Value.bool true from congrArg Value.bool (decide_eq_true (by omega)))) (by decide) rfl ?_
    refine QD.ev T (by decide) rfl rfl ?_
    first | refine QD.ev T (by decide) rfl rfl ?_ | refine QD.off (by decide) rfl ?_
    refine QD.e ((Ev.leq rfl rfl).as (show _ = Value.bool true from congrArg Value.bool (decide_eq_true (by omega)))) (by decide) rfl ?_
    refine QD.ev T (by decide) rfl rfl ?_
    refine QD.ev T (by decide) rfl rfl ?_
    refine QD.nil (hZ _ ?_)
    clear hZ Z
    repeat (first | refine Run.cond_t rfl ?_)
    refine Run.regionO (D := [some 62, some 63, some 64, some 65, some 66, some 67, some 68, some 2]) [true, true, true, true, true, true, true, true] rfl rfl rfl (fun Z hZ => ?_)
    refine QD.ev T (by decide) rfl rfl ?_
    refine QD.e (Ev.shlK (r := ((y * 16 : Nat) : Int)) rfl rfl (by decide) (by decide) (by rw [shl4, wrapI32 (by omega) (by omega)])) (by decide) rfl ?_
    refine QD.ev T (by decide) rfl rfl ?_
    refine QD.e (Ev.subK (r := ((e.toNat - 65 : Nat) : Int)) rfl rfl (by rw [wrap8]; omega)) (by decide) rfl ?_
    refine QD.e (Ev.addK (r := ((e.toNat - 55 : Nat) : Int)) rfl rfl (by rw [wrap8]; omega)) (by decide) rfl ?_
    refine QD.e (Ev.conv (r := ((e.toNat - 55 : Nat) : Int)) T rfl rfl rfl (wrapI32 (by omega) (by omega))) (by decide) rfl ?_
    refine QD.e (Ev.orK (a := y * 16) (b := e.toNat - 55) (c := y * 16 + (e.toNat - 55)) rfl rfl (by show _ < 4294967296; omega) (by show _ < 4294967296; omega) (orSh (a := y) 4 (by omega)) (wrapI32 (by omega) (by omega))) (by decide) rfl ?_
    refine QD.ev T (by decide) rfl rfl ?_
    refine QD.nil (hZ _ ?_)
    clear hZ Z
    repeat (first | refine Run.inBlock ?_)
    refine Run.regionP (D := [some 69, some 70, some 71, some 72, some 73, some 74, some 75, none]) [true, true, true, true, true, true, true] 7 rfl rfl rfl (by simp only [List.drop_succ_cons, List.drop_zero]; rfl) (fun Z hZ => ?_)
    refine QD.ev T (by decide) rfl rfl ?_
    refine QD.ev T (by decide) rfl rfl ?_
    refine QD.ev T (by decide) rfl rfl ?_
    first | refine QD.yv (by decide) rfl (Yv.load 0 T rfl rfl rfl rfl) ?_ | refine QD.yv (by decide) rfl (Yv.load 1 T rfl rfl rfl rfl) ?_ | refine QD.yv (by decide) rfl (Yv.load 2 T rfl rfl rfl rfl) ?_
    refine QD.e (Ev.addK (r := (posR xs s : Int)) rfl rfl (by rw [wI (by omega) (by omega), g3]; omega)) (by decide) rfl ?_
    refine QD.ev T (by decide) rfl rfl ?_
    refine QD.ev T (by decide) rfl rfl ?_
    refine QD.nil (hZ _ ?_)
    clear hZ Z
    first | refine Ops.store 0 rfl rfl rfl rfl rfl (T.sizeOk rfl) rfl (Nat.le_of_ble_eq_true rfl) rfl rfl ?_ | refine Ops.store 1 rfl rfl rfl rfl rfl (T.sizeOk rfl) rfl (Nat.le_of_ble_eq_true rfl) rfl rfl ?_ | refine Ops.store 2 rfl rfl rfl rfl rfl (T.sizeOk rfl) rfl (Nat.le_of_ble_eq_true rfl) rfl rfl ?_
    refine Ops.nil ?_
    repeat (first | refine Run.inBlock ?_)
    refine Run.regionO (D := [some 76, some 16]) [true, true] rfl rfl rfl (fun Z hZ => ?_)
    refine QD.e (Ev.addK (r := ((i + 1 : Nat) : Int)) rfl rfl (by rw [wI (by omega) (by omega)]; omega)) (by decide) rfl ?_
    refine QD.ev T (by decide) rfl rfl ?_
    refine QD.nil (hZ _ ?_)
    clear hZ Z
    skip
    refine Run.keep [0, 2, 16] [_, _, _] rfl ?_
    refine ih (4 - (i + 1)) _ _ _ (by omega) ⟨i + 1, y * 16 + (e.toNat - 55), s, rfl, by omega, (Sfx.cons e s).trans hs, ?_, by rw [Nat.pow_succ]; omega, by simp only [List.length_cons] at hsl; omega, rfl, rfl, rfl⟩
    rw [← hu, show 4 - i = 4 - (i + 1) + 1 by omega]
    simp only [unitR]
    rw [show hexV e = some (e.toNat - 55) from by unfold hexV; repeat (first | rw [if_pos (by omega)] | rw [if_neg (by omega)])]
  by_cases k5 : e.toNat < 97
  · skip
    refine Run.regionO (D := [some 29, some 30, some 31, some 32, some 33, some 34, some 28]) [true, true, true, true, true, true, true] rfl rfl rfl (fun Z hZ => ?_)
    refine QD.ev T (by decide) rfl rfl ?_
    refine QD.e ((Ev.geq rfl rfl).as (show _ = Value.bool true from congrArg Value.bool (decide_eq_true (by omega)))) (by decide) rfl ?_
    refine QD.ev T (by decide) rfl rfl ?_
    first | refine QD.ev T (by decide) rfl rfl ?_ | refine QD.off (by decide) rfl ?_
    refine QD.e ((Ev.leq rfl rfl).as (show _ = Value.bool false from congrArg Value.bool (decide_eq_false (by omega)))) (by decide) rfl ?_
    refine QD.ev T (by decide) rfl rfl ?_
    refine QD.ev T (by decide) rfl rfl ?_
    refine QD.nil (hZ _ ?_)
    clear hZ Z
    repeat (first | refine Run.seq ?_ | refine Run.cond_f rfl ?_)
    refine Run.regionO (D := [some 42, some 43, some 44, some 45, some 46, some 47, some 41]) [true, true, true, true, true, true, true] rfl rfl rfl (fun Z hZ => ?_)
    refine QD.ev T (by decide) rfl rfl ?_
    refine QD.e ((Ev.geq rfl rfl).as (show _ = Value.bool false from congrArg Value.bool (decide_eq_false (by omega)))) (by decide) rfl ?_
    refine QD.ev T (by decide) rfl rfl ?_
    first | refine QD.ev T (by decide) rfl rfl ?_ | refine QD.off (by decide) rfl ?_
    first | refine QD.e (Ev.leq rfl rfl) (by decide) rfl ?_ | refine QD.off (by decide) rfl ?_
    refine QD.ev T (by decide) rfl rfl ?_
    refine QD.ev T (by decide) rfl rfl ?_
    refine QD.nil (hZ _ ?_)
    clear hZ Z
    repeat (first | refine Run.seq ?_ | refine Run.cond_f rfl ?_)
    refine Run.regionO (D := [some 56, some 57, some 58, some 59, some 60, some 61, some 55]) [true, true, true, true, true, true, true] rfl rfl rfl (fun Z hZ => ?_)
    refine QD.ev T (by decide) rfl rfl ?_
    refine QD.e ((Ev.geq rfl rfl).as (show _ = Value.bool true from congrArg Value.bool (decide_eq_true (by omega)))) (by decide) rfl ?_
    refine QD.ev T (by decide) rfl rfl ?_
    first | refine QD.ev T (by decide) rfl rfl ?_ | refine QD.off (by decide) rfl ?_
    refine QD.e ((Ev.leq rfl rfl).as (show _ = Value.bool false from congrArg Value.bool (decide_eq_false (by omega)))) (by decide) rfl ?_
    refine QD.ev T (by decide) rfl rfl ?_
    refine QD.ev T (by decide) rfl rfl ?_
    refine QD.nil (hZ _ ?_)
    clear hZ Z
    repeat (first | refine Run.seq ?_ | refine Run.cond_f rfl ?_)
    refine Run.regionO (D := [some 2, some 3]) [true, true] rfl rfl rfl (fun Z hZ => ?_)
    refine QD.ev T (by decide) rfl rfl ?_
    refine QD.ev T (by decide) rfl rfl ?_
    refine QD.nil (hZ _ ?_)
    clear hZ Z
    skip
    refine Run.ret2 (by rw [hCf]; exact func149) results149 rfl rfl (hR _ _ _ ?_)
    have hn : unitR 4 0 t = none := by
      rw [← hu, show 4 - i = 3 - i + 1 by omega]
      simp only [unitR]
      rw [show hexV e = none from by unfold hexV; repeat (rw [if_neg (by omega)])]
    rw [hn]
    exact ⟨rfl, _, hpt, by omega, rfl, rfl⟩
  by_cases k6 : e.toNat ≤ 102
  · skip
    refine Run.regionO (D := [some 29, some 30, some 31, some 32, some 33, some 34, some 28]) [true, true, true, true, true, true, true] rfl rfl rfl (fun Z hZ => ?_)
    refine QD.ev T (by decide) rfl rfl ?_
    refine QD.e ((Ev.geq rfl rfl).as (show _ = Value.bool true from congrArg Value.bool (decide_eq_true (by omega)))) (by decide) rfl ?_
    refine QD.ev T (by decide) rfl rfl ?_
    first | refine QD.ev T (by decide) rfl rfl ?_ | refine QD.off (by decide) rfl ?_
    refine QD.e ((Ev.leq rfl rfl).as (show _ = Value.bool false from congrArg Value.bool (decide_eq_false (by omega)))) (by decide) rfl ?_
    refine QD.ev T (by decide) rfl rfl ?_
    refine QD.ev T (by decide) rfl rfl ?_
    refine QD.nil (hZ _ ?_)
    clear hZ Z
    repeat (first | refine Run.seq ?_ | refine Run.cond_f rfl ?_)
    refine Run.regionO (D := [some 42, some 43, some 44, some 45, some 46, some 47, some 41]) [true, true, true, true, true, true, true] rfl rfl rfl (fun Z hZ => ?_)
    refine QD.ev T (by decide) rfl rfl ?_
    refine QD.e ((Ev.geq rfl rfl).as (show _ = Value.bool true from congrArg Value.bool (decide_eq_true (by omega)))) (by decide) rfl ?_
    refine QD.ev T (by decide) rfl rfl ?_
    first | refine QD.ev T (by decide) rfl rfl ?_ | refine QD.off (by decide) rfl ?_
    refine QD.e ((Ev.leq rfl rfl).as (show _ = Value.bool true from congrArg Value.bool (decide_eq_true (by omega)))) (by decide) rfl ?_
    refine QD.ev T (by decide) rfl rfl ?_
    refine QD.ev T (by decide) rfl rfl ?_
    refine QD.nil (hZ _ ?_)
    clear hZ Z
    repeat (first | refine Run.cond_t rfl ?_)
    refine Run.regionO (D := [some 48, some 49, some 50, some 51, some 52, some 53, some 54, some 2]) [true, true, true, true, true, true, true, true] rfl rfl rfl (fun Z hZ => ?_)
    refine QD.ev T (by decide) rfl rfl ?_
    refine QD.e (Ev.shlK (r := ((y * 16 : Nat) : Int)) rfl rfl (by decide) (by decide) (by rw [shl4, wrapI32 (by omega) (by omega)])) (by decide) rfl ?_
    refine QD.ev T (by decide) rfl rfl ?_
    refine QD.e (Ev.subK (r := ((e.toNat - 97 : Nat) : Int)) rfl rfl (by rw [wrap8]; omega)) (by decide) rfl ?_
    refine QD.e (Ev.addK (r := ((e.toNat - 87 : Nat) : Int)) rfl rfl (by rw [wrap8]; omega)) (by decide) rfl ?_
    refine QD.e (Ev.conv (r := ((e.toNat - 87 : Nat) : Int)) T rfl rfl rfl (wrapI32 (by omega) (by omega))) (by decide) rfl ?_
    refine QD.e (Ev.orK (a := y * 16) (b := e.toNat - 87) (c := y * 16 + (e.toNat - 87)) rfl rfl (by show _ < 4294967296; omega) (by show _ < 4294967296; omega) (orSh (a := y) 4 (by omega)) (wrapI32 (by omega) (by omega))) (by decide) rfl ?_
    refine QD.ev T (by decide) rfl rfl ?_
    refine QD.nil (hZ _ ?_)
    clear hZ Z
    repeat (first | refine Run.inBlock ?_)
    refine Run.regionP (D := [some 69, some 70, some 71, some 72, some 73, some 74, some 75, none]) [true, true, true, true, true, true, true] 7 rfl rfl rfl (by simp only [List.drop_succ_cons, List.drop_zero]; rfl) (fun Z hZ => ?_)
    refine QD.ev T (by decide) rfl rfl ?_
    refine QD.ev T (by decide) rfl rfl ?_
    refine QD.ev T (by decide) rfl rfl ?_
    first | refine QD.yv (by decide) rfl (Yv.load 0 T rfl rfl rfl rfl) ?_ | refine QD.yv (by decide) rfl (Yv.load 1 T rfl rfl rfl rfl) ?_ | refine QD.yv (by decide) rfl (Yv.load 2 T rfl rfl rfl rfl) ?_
    refine QD.e (Ev.addK (r := (posR xs s : Int)) rfl rfl (by rw [wI (by omega) (by omega), g3]; omega)) (by decide) rfl ?_
    refine QD.ev T (by decide) rfl rfl ?_
    refine QD.ev T (by decide) rfl rfl ?_
    refine QD.nil (hZ _ ?_)
    clear hZ Z
    first | refine Ops.store 0 rfl rfl rfl rfl rfl (T.sizeOk rfl) rfl (Nat.le_of_ble_eq_true rfl) rfl rfl ?_ | refine Ops.store 1 rfl rfl rfl rfl rfl (T.sizeOk rfl) rfl (Nat.le_of_ble_eq_true rfl) rfl rfl ?_ | refine Ops.store 2 rfl rfl rfl rfl rfl (T.sizeOk rfl) rfl (Nat.le_of_ble_eq_true rfl) rfl rfl ?_
    refine Ops.nil ?_
    repeat (first | refine Run.inBlock ?_)
    refine Run.regionO (D := [some 76, some 16]) [true, true] rfl rfl rfl (fun Z hZ => ?_)
    refine QD.e (Ev.addK (r := ((i + 1 : Nat) : Int)) rfl rfl (by rw [wI (by omega) (by omega)]; omega)) (by decide) rfl ?_
    refine QD.ev T (by decide) rfl rfl ?_
    refine QD.nil (hZ _ ?_)
    clear hZ Z
    skip
    refine Run.keep [0, 2, 16] [_, _, _] rfl ?_
    refine ih (4 - (i + 1)) _ _ _ (by omega) ⟨i + 1, y * 16 + (e.toNat - 87), s, rfl, by omega, (Sfx.cons e s).trans hs, ?_, by rw [Nat.pow_succ]; omega, by simp only [List.length_cons] at hsl; omega, rfl, rfl, rfl⟩
    rw [← hu, show 4 - i = 4 - (i + 1) + 1 by omega]
    simp only [unitR]
    rw [show hexV e = some (e.toNat - 87) from by unfold hexV; repeat (first | rw [if_pos (by omega)] | rw [if_neg (by omega)])]
  · skip
    refine Run.regionO (D := [some 29, some 30, some 31, some 32, some 33, some 34, some 28]) [true, true, true, true, true, true, true] rfl rfl rfl (fun Z hZ => ?_)
    refine QD.ev T (by decide) rfl rfl ?_
    refine QD.e ((Ev.geq rfl rfl).as (show _ = Value.bool true from congrArg Value.bool (decide_eq_true (by omega)))) (by decide) rfl ?_
    refine QD.ev T (by decide) rfl rfl ?_
    first | refine QD.ev T (by decide) rfl rfl ?_ | refine QD.off (by decide) rfl ?_
    refine QD.e ((Ev.leq rfl rfl).as (show _ = Value.bool false from congrArg Value.bool (decide_eq_false (by omega)))) (by decide) rfl ?_
    refine QD.ev T (by decide) rfl rfl ?_
    refine QD.ev T (by decide) rfl rfl ?_
    refine QD.nil (hZ _ ?_)
    clear hZ Z
    repeat (first | refine Run.seq ?_ | refine Run.cond_f rfl ?_)
    refine Run.regionO (D := [some 42, some 43, some 44, some 45, some 46, some 47, some 41]) [true, true, true, true, true, true, true] rfl rfl rfl (fun Z hZ => ?_)
    refine QD.ev T (by decide) rfl rfl ?_
    refine QD.e ((Ev.geq rfl rfl).as (show _ = Value.bool true from congrArg Value.bool (decide_eq_true (by omega)))) (by decide) rfl ?_
    refine QD.ev T (by decide) rfl rfl ?_
    first | refine QD.ev T (by decide) rfl rfl ?_ | refine QD.off (by decide) rfl ?_
    refine QD.e ((Ev.leq rfl rfl).as (show _ = Value.bool false from congrArg Value.bool (decide_eq_false (by omega)))) (by decide) rfl ?_
    refine QD.ev T (by decide) rfl rfl ?_
    refine QD.ev T (by decide) rfl rfl ?_
    refine QD.nil (hZ _ ?_)
    clear hZ Z
    repeat (first | refine Run.seq ?_ | refine Run.cond_f rfl ?_)
    refine Run.regionO (D := [some 56, some 57, some 58, some 59, some 60, some 61, some 55]) [true, true, true, true, true, true, true] rfl rfl rfl (fun Z hZ => ?_)
    refine QD.ev T (by decide) rfl rfl ?_
    refine QD.e ((Ev.geq rfl rfl).as (show _ = Value.bool true from congrArg Value.bool (decide_eq_true (by omega)))) (by decide) rfl ?_
    refine QD.ev T (by decide) rfl rfl ?_
    first | refine QD.ev T (by decide) rfl rfl ?_ | refine QD.off (by decide) rfl ?_
    refine QD.e ((Ev.leq rfl rfl).as (show _ = Value.bool false from congrArg Value.bool (decide_eq_false (by omega)))) (by decide) rfl ?_
    refine QD.ev T (by decide) rfl rfl ?_
    refine QD.ev T (by decide) rfl rfl ?_
    refine QD.nil (hZ _ ?_)
    clear hZ Z
    repeat (first | refine Run.seq ?_ | refine Run.cond_f rfl ?_)
    refine Run.regionO (D := [some 2, some 3]) [true, true] rfl rfl rfl (fun Z hZ => ?_)
    refine QD.ev T (by decide) rfl rfl ?_
    refine QD.ev T (by decide) rfl rfl ?_
    refine QD.nil (hZ _ ?_)
    clear hZ Z
    skip
    refine Run.ret2 (by rw [hCf]; exact func149) results149 rfl rfl (hR _ _ _ ?_)
    have hn : unitR 4 0 t = none := by
      rw [← hu, show 4 - i = 3 - i + 1 by omega]
      simp only [unitR]
      rw [show hexV e = none from by unfold hexV; repeat (rw [if_neg (by omega)])]
    rw [hn]
    exact ⟨rfl, _, hpt, by omega, rfl, rfl⟩
end Go.V
namespace Go.V
set_option linter.unusedVariables false
set_option linter.unusedSimpArgs false
set_option maxRecDepth 10000
theorem text_fuel : ∀ (n m : Nat) (s out : Bs), s.length < n → s.length < m → textR n s out = textR m s out
  | 0, m, s, out, h, _ => by omega
  | n + 1, 0, s, out, _, h => by omega
  | n + 1, m + 1, [], out, _, _ => rfl
  | n + 1, m + 1, c :: s, out, hn, hm => by
    simp only [List.length_cons] at hn hm
    simp only [textR]
    split
    · rfl
    split
    · rfl
    split
    · cases s with
      | nil => rfl
      | cons d t =>
        simp only
        split
        · rfl
        · rename_i x r he
          have := (escR_sfx he).len
          simp only [List.length_cons] at hn hm
          exact text_fuel n m _ _ (by omega) (by omega)
    · have hw := runeAt_width (c :: s) 0
      exact text_fuel n m _ _ (by simp only [List.length_drop, List.length_cons]; omega) (by simp only [List.length_drop, List.length_cons]; omega)
def TR (s out : Bs) : Option (Bs × Bs) := textR (s.length + 1) s out
theorem textR_cons (n : Nat) (c : UInt8) (s out : Bs) : textR (n + 1) (c :: s) out = if c = 34 then some (out, s) else if c.toNat < 32 then none else if c = 92 then (match s with | [] => none | d :: t => match escR d t with | none => none | some (x, r) => textR n r (out ++ x))
    else textR n ((c :: s).drop (runeAt (c :: s) 0).2) (out ++ encR (runeAt (c :: s) 0).1) := by
  cases s <;> rfl
theorem escR_u (X : Bs) : escR 117 X = (escU X).map fun p => (encR p.1, p.2) := rfl
theorem strR_TR (s : Bs) : strR s = TR s [] := rfl
theorem TR_end (s out : Bs) : TR (34 :: s) out = some (out, s) := by simp [TR, textR]
theorem TR_esc {d : UInt8} {t x r : Bs} (out : Bs) (h : escR d t = some (x, r)) : TR (92 :: d :: t) out = TR r (out ++ x) := by
  have := (escR_sfx h).len
  show textR ((d :: t).length + 1 + 1) (92 :: d :: t) out = _
  rw [TR]
  simp only [textR, show ¬ ((92 : UInt8) = 34) by decide, show ¬ ((92 : UInt8).toNat < 32) by decide, if_false, if_true, h]
  exact text_fuel _ _ _ _ (by simp only [List.length_cons]; omega) (by omega)
theorem TR_raw {c : UInt8} {s : Bs} (out : Bs) (h1 : c ≠ 34) (h2 : ¬ c.toNat < 32) (h3 : c ≠ 92) : TR (c :: s) out = TR ((c :: s).drop (runeAt (c :: s) 0).2) (out ++ encR (runeAt (c :: s) 0).1) := by
  have hw := runeAt_width (c :: s) 0
  show textR (s.length + 1 + 1) (c :: s) out = _
  rw [textR_cons, if_neg h1, if_neg h2, if_neg h3]
  exact text_fuel _ _ _ _ (by simp only [List.length_drop, List.length_cons]; omega) (by omega)
def Piece (p : Bs) (r : Nat) : Prop := ∀ t out, TR (p ++ t) out = TR t (out ++ encR (r : Int))
theorem Piece.raw {r : Nat} (g : goodR r) (h1 : r ≠ 34) (h2 : ¬ r < 32) (h3 : r ≠ 92) : Piece (encR (r : Int)) r := by
  intro t out
  have hp := encR_pos r
  have hr := runeAt_enc g t
  have hb : ∀ c u, encR (r : Int) = c :: u → c ≠ 34 ∧ ¬ c.toNat < 32 ∧ c ≠ 92 := by
    intro c u e
    rw [encR_good g] at e
    have hg := g
    unfold goodR at hg
    have hn : ∀ k : Nat, UInt8.ofNat k = c → k < 256 → 32 ≤ k → k ≠ 34 → k ≠ 92 → c ≠ 34 ∧ ¬ c.toNat < 32 ∧ c ≠ 92 := by
      intro k e h0 h1 h2 h3
      subst e
      have := ofNat_nat h0
      refine ⟨fun e => ?_, by omega, fun e => ?_⟩
      · rw [e] at this; exact h2 this.symm
      · rw [e] at this; exact h3 this.symm
    split at e
    · exact hn r (List.cons.inj e).1 (by omega) (by omega) h1 h3
    split at e
    · exact hn _ (List.cons.inj e).1 (by omega) (by omega) (by omega) (by omega)
    split at e
    · exact hn _ (List.cons.inj e).1 (by omega) (by omega) (by omega) (by omega)
    · exact hn _ (List.cons.inj e).1 (by omega) (by omega) (by omega) (by omega)
  obtain ⟨c, u, e⟩ : ∃ c u, encR (r : Int) = c :: u := by
    cases h : encR (r : Int) with
    | nil => rw [h] at hp; simp at hp
    | cons c u => exact ⟨c, u, rfl⟩
  obtain ⟨b1, b2, b3⟩ := hb c u e
  have e2 : encR (r : Int) ++ t = c :: (u ++ t) := by rw [e]; rfl
  rw [e2] at hr ⊢
  rw [TR_raw out b1 b2 b3, hr, ← e2]
  simp only [List.drop_left]
def hexD (n : Nat) : UInt8 := if n % 16 < 10 then UInt8.ofNat (48 + n % 16) else UInt8.ofNat (87 + n % 16)
def hexes (n : Nat) : Bs := [hexD (n / 4096), hexD (n / 256), hexD (n / 16), hexD n]
theorem hexV_D (n : Nat) : hexV (hexD n) = some (n % 16) := by
  unfold hexV hexD
  split
  · rw [ofNat_nat (by omega), if_pos (by omega)]; congr 1; omega
  · rw [ofNat_nat (by omega), if_neg (by omega), if_pos (by omega)]; congr 1; omega
theorem unit_hexes {n : Nat} (h : n < 65536) (t : Bs) : unitR 4 0 (hexes n ++ t) = some (n, t) := by
  simp only [hexes, List.cons_append, List.nil_append, unitR, hexV_D]
  congr 2; omega
theorem Piece.u {r : Nat} (g : goodR r) (h : r < 65536) : Piece ([92, 117] ++ hexes r) r := by
  intro t out
  have e : escR 117 (hexes r ++ t) = some (encR (r : Int), t) := by
    have : escU (hexes r ++ t) = some (r, t) := by
      unfold escU
      rw [unit_hexes h]
      simp only
      rw [if_neg]
      unfold goodR at g; omega
    rw [escR_u, this]; rfl
  simpa using TR_esc out e
theorem Piece.pair {r : Nat} (g : goodR r) (h : ¬ r < 65536) : Piece ([92, 117] ++ hexes (55296 + (r - 65536) / 1024) ++ [92, 117] ++ hexes (56320 + (r - 65536) % 1024)) r := by
  intro t out
  have hg := g
  unfold goodR at hg
  have e : escR 117 (hexes (55296 + (r - 65536) / 1024) ++ ([92, 117] ++ (hexes (56320 + (r - 65536) % 1024) ++ t))) = some (encR (r : Int), t) := by
    have : escU (hexes (55296 + (r - 65536) / 1024) ++ ([92, 117] ++ (hexes (56320 + (r - 65536) % 1024) ++ t))) = some (r, t) := by
      unfold escU
      rw [unit_hexes (by omega)]
      simp only
      rw [if_pos (by omega), word_app]
      simp only
      rw [unit_hexes (by omega)]
      simp only
      rw [if_pos (by omega), show 65536 + (55296 + (r - 65536) / 1024 - 55296) * 1024 + (56320 + (r - 65536) % 1024 - 56320) = r by omega]
    rw [escR_u, this]; rfl
  have := TR_esc out e
  simpa [List.append_assoc] using this
theorem Piece.named {d : UInt8} {x : UInt8} (hd : ∀ t, escR d t = some ([x], t)) (hx : x.toNat < 128) : Piece [92, d] x.toNat := by
  intro t out
  have := TR_esc out (hd t)
  rw [encR_ascii _ (by omega) (by omega)]
  simpa using this
inductive Pieces : List Bs → List Nat → Prop
  | nil : Pieces [] []
  | cons {p r ps rs} : Piece p r → Pieces ps rs → Pieces (p :: ps) (r :: rs)
theorem Pieces.read {ps : List Bs} {rs : List Nat} (h : Pieces ps rs) (t out : Bs) : TR (ps.flatten ++ 34 :: t) out = some (out ++ encs rs, t) := by
  induction h generalizing out with
  | nil => simp [TR_end, encs]
  | cons hp _ ih => rw [List.flatten_cons, List.append_assoc, hp, ih, encs_cons, List.append_assoc]
def quo1 (c : Nat) : Bs :=
  if c = 34 ∨ c = 92 then 92 :: encR (c : Int)
  else if c = 8 then [92, 98] else if c = 12 then [92, 102] else if c = 10 then [92, 110] else if c = 13 then [92, 114] else if c = 9 then [92, 116]
  else if c < 32 ∨ c = 60 ∨ c = 62 ∨ c = 38 ∨ c = 8232 ∨ c = 8233 then [92, 117] ++ hexes c
  else encR (c : Int)
def quo (rs : List Nat) : Bs := [34] ++ rs.flatMap quo1 ++ [34]
theorem quo1_piece {c : Nat} (g : goodR c) : Piece (quo1 c) c := by
  unfold quo1
  split
  · rename_i h
    rcases h with rfl | rfl
    · exact Piece.named (d := 34) (x := 34) (fun t => by simp [escR]) (by decide)
    · exact Piece.named (d := 92) (x := 92) (fun t => by simp [escR]) (by decide)
  rename_i h0
  split
  · rename_i h; subst h; exact Piece.named (d := 98) (x := 8) (fun t => by simp [escR]) (by decide)
  split
  · rename_i h; subst h; exact Piece.named (d := 102) (x := 12) (fun t => by simp [escR]) (by decide)
  split
  · rename_i h; subst h; exact Piece.named (d := 110) (x := 10) (fun t => by simp [escR]) (by decide)
  split
  · rename_i h; subst h; exact Piece.named (d := 114) (x := 13) (fun t => by simp [escR]) (by decide)
  split
  · rename_i h; subst h; exact Piece.named (d := 116) (x := 9) (fun t => by simp [escR]) (by decide)
  split
  · rename_i h; exact Piece.u g (by omega)
  · exact Piece.raw g (by omega) (by omega) (by omega)
end Go.V
