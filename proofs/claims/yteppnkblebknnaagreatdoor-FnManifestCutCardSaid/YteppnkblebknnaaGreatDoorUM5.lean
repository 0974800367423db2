import Derived.Test.YteppnkblebknnaaGreatDoorUM4
import Derived.Shelf.Unicode.ValidAny
import Derived.Test.YteppnkblebknnaaGreatDoorProg
import Derived.KernelRfl
import Derived.Shelf.Unicode.DecodeAny
import Derived.Shelf.Spec.DecodeRune
set_option linter.unusedVariables false
set_option linter.unusedSimpArgs false
namespace Go.V
set_option maxRecDepth 10000
def b64A : Bs := [65, 66, 67, 68, 69, 70, 71, 72, 73, 74, 75, 76, 77, 78, 79, 80, 81, 82, 83, 84, 85, 86, 87, 88, 89, 90, 97, 98, 99, 100, 101, 102, 103, 104, 105, 106, 107, 108, 109, 110, 111, 112, 113, 114, 115, 116, 117, 118, 119, 120, 121, 122, 48, 49, 50, 51, 52, 53, 54, 55, 56, 57, 43, 47]
def b64c (n : Nat) : UInt8 := b64A.getD (n % 64) 0
def b64 : Bs → Bs
 | [] => []
 | [a] => [b64c (a.toNat / 4), b64c (a.toNat % 4 * 16), 61, 61]
 | [a, b] => [b64c (a.toNat / 4), b64c (a.toNat % 4 * 16 + b.toNat / 16), b64c (b.toNat % 16 * 4), 61]
 | a :: b :: c :: t => b64c (a.toNat / 4) :: b64c (a.toNat % 4 * 16 + b.toNat / 16) :: b64c (b.toNat % 16 * 4 + c.toNat / 64) :: b64c (c.toNat % 64) :: b64 t
theorem b64_len : ∀ s : Bs, (b64 s).length = (s.length + 2) / 3 * 4
 | [] => rfl
 | [a] => by simp only [b64, List.length_cons, List.length_nil]
 | [a, b] => by simp only [b64, List.length_cons, List.length_nil]
 | a :: b :: c :: t => by
  simp only [b64, List.length_cons, b64_len t]; omega
theorem b64c_asc_fin : ∀ k : Fin 64, 43 ≤ (b64A.getD k.val 0).toNat ∧ (b64A.getD k.val 0).toNat < 123 ∧ b64A.getD k.val 0 ≠ 61 ∧ b64A.getD k.val 0 ≠ 92 ∧ b64A.getD k.val 0 ≠ 58 := by decide
theorem b64c_asc (n : Nat) : 43 ≤ (b64c n).toNat ∧ (b64c n).toNat < 123 ∧ b64c n ≠ 61 ∧ b64c n ≠ 92 ∧ b64c n ≠ 58 := b64c_asc_fin ⟨n % 64, Nat.mod_lt _ (by decide)⟩
theorem b64_asc : ∀ s : Bs, ∀ c ∈ b64 s, 43 ≤ c.toNat ∧ c.toNat < 123 ∧ c ≠ 92
 | [], c, h => by simp [b64] at h
 | [a], c, h => by
  simp only [b64, List.mem_cons, List.not_mem_nil, or_false] at h
  rcases h with rfl | rfl | rfl | rfl
  ·exact ⟨(b64c_asc _).1, (b64c_asc _).2.1, (b64c_asc _).2.2.2.1⟩
  ·exact ⟨(b64c_asc _).1, (b64c_asc _).2.1, (b64c_asc _).2.2.2.1⟩
  ·decide
  ·decide
 | [a, b], c, h => by
  simp only [b64, List.mem_cons, List.not_mem_nil, or_false] at h
  rcases h with rfl | rfl | rfl | rfl
  ·exact ⟨(b64c_asc _).1, (b64c_asc _).2.1, (b64c_asc _).2.2.2.1⟩
  ·exact ⟨(b64c_asc _).1, (b64c_asc _).2.1, (b64c_asc _).2.2.2.1⟩
  ·exact ⟨(b64c_asc _).1, (b64c_asc _).2.1, (b64c_asc _).2.2.2.1⟩
  ·decide
 | a :: b :: d :: t, c, h => by
  simp only [b64, List.mem_cons] at h
  rcases h with rfl | rfl | rfl | rfl | h
  ·exact ⟨(b64c_asc _).1, (b64c_asc _).2.1, (b64c_asc _).2.2.2.1⟩
  ·exact ⟨(b64c_asc _).1, (b64c_asc _).2.1, (b64c_asc _).2.2.2.1⟩
  ·exact ⟨(b64c_asc _).1, (b64c_asc _).2.1, (b64c_asc _).2.2.2.1⟩
  ·exact ⟨(b64c_asc _).1, (b64c_asc _).2.1, (b64c_asc _).2.2.2.1⟩
  ·exact b64_asc t c h
end Go.V
namespace Go.V
open Go.Proofs.Tryz
open Go.Shelf Go.Proofs
set_option maxRecDepth 100000
def ren196 : Go.Shelf.Ren := ⟨fun | 196 => 80 | 259 => 118 | n => n, fun | 0 => 0 | 3 => 3 | 4 => 4 | 5 => 5 | 9 => 9 | 12 => 12 | 46 => 221 | 53 => 260 | 119 => 217 | 138 => 219 | 139 => 220 | n => n, fun | 3 => 0 | 4 => 1 | n => n⟩
theorem lays196 : Lays.n196 prog ren196 := {
 mixed := by kernel_rfl
 f196 := func80.trans (congrArg some (by kernel_rfl))
 f259 := func118.trans (congrArg some (by kernel_rfl))
 t0 := underlying0
 a0 := isAgg0
 z0 := sizeOf0
 v0 := zeroValue0
 t3 := underlying3
 a3 := isAgg3
 z3 := sizeOf3
 v3 := zeroValue3
 t4 := underlying4
 a4 := isAgg4
 z4 := sizeOf4
 v4 := zeroValue4
 t5 := underlying5
 a5 := isAgg5
 z5 := sizeOf5
 v5 := zeroValue5
 t9 := underlying9
 a9 := isAgg9
 z9 := sizeOf9
 v9 := zeroValue9
 t12 := underlying12
 a12 := isAgg12
 z12 := sizeOf12
 v12 := zeroValue12
 t46 := underlying221
 a46 := isAgg221
 z46 := sizeOf221
 v46 := zeroValue221
 t53 := underlying260
 a53 := isAgg260
 z53 := sizeOf260
 v53 := zeroValue260
 t119 := underlying217
 a119 := isAgg217
 z119 := sizeOf217
 t138 := underlying219
 a138 := isAgg219
 z138 := sizeOf219
 v138 := zeroValue219
 t139 := underlying220
 a139 := isAgg220
 z139 := sizeOf220
 v139 := zeroValue220
 g3 := by kernel_rfl
 g4 := by kernel_rfl }
end Go.V
namespace Go.V
open Go.Proofs.Tryz
open Go.Shelf Go.Proofs
set_option maxRecDepth 100000
def ren197 : Go.Shelf.Ren := ⟨fun | 197 => 214 | 260 => 236 | n => n, fun | 0 => 0 | 3 => 3 | 4 => 4 | 5 => 5 | 9 => 9 | 21 => 21 | 46 => 221 | 105 => 273 | 119 => 217 | 138 => 219 | 139 => 220 | n => n, fun | 3 => 0 | 4 => 1 | n => n⟩
theorem lays197 : Lays.n197 prog ren197 := {
 mixed := by kernel_rfl
 f197 := func214.trans (congrArg some (by kernel_rfl))
 f260 := func236.trans (congrArg some (by kernel_rfl))
 t0 := underlying0
 a0 := isAgg0
 z0 := sizeOf0
 v0 := zeroValue0
 t3 := underlying3
 a3 := isAgg3
 z3 := sizeOf3
 v3 := zeroValue3
 t4 := underlying4
 a4 := isAgg4
 z4 := sizeOf4
 v4 := zeroValue4
 t5 := underlying5
 a5 := isAgg5
 z5 := sizeOf5
 v5 := zeroValue5
 t9 := underlying9
 a9 := isAgg9
 z9 := sizeOf9
 v9 := zeroValue9
 t21 := underlying21
 a21 := isAgg21
 z21 := sizeOf21
 v21 := zeroValue21
 t46 := underlying221
 a46 := isAgg221
 z46 := sizeOf221
 v46 := zeroValue221
 t105 := underlying273
 a105 := isAgg273
 z105 := sizeOf273
 v105 := zeroValue273
 t119 := underlying217
 a119 := isAgg217
 z119 := sizeOf217
 t138 := underlying219
 a138 := isAgg219
 z138 := sizeOf219
 v138 := zeroValue219
 t139 := underlying220
 a139 := isAgg220
 z139 := sizeOf220
 v139 := zeroValue220
 g3 := by kernel_rfl
 g4 := by kernel_rfl }
end Go.V
namespace Go.V
open Go.Proofs.Tryz
open Go.Shelf Go.Proofs
set_option maxRecDepth 100000
def ren32 : Go.Shelf.Ren := ⟨fun | 32 => 147 | 49 => 151 | n => n, fun | 0 => 0 | 3 => 3 | 4 => 4 | 5 => 5 | 21 => 21 | 25 => 221 | 30 => 31 | 33 => 273 | 66 => 217 | 68 => 219 | 69 => 220 | n => n, fun | 2 => 0 | 3 => 1 | n => n⟩
theorem lays32 : Lays7.n32 prog ren32 := {
 mixed := by kernel_rfl
 f32 := func147.trans (congrArg some (by kernel_rfl))
 f49 := func151.trans (congrArg some (by kernel_rfl))
 t0 := underlying0
 a0 := isAgg0
 z0 := sizeOf0
 v0 := zeroValue0
 i0 := by kernel_rfl
 t3 := underlying3
 a3 := isAgg3
 z3 := sizeOf3
 v3 := zeroValue3
 i3 := by kernel_rfl
 t4 := underlying4
 a4 := isAgg4
 z4 := sizeOf4
 v4 := zeroValue4
 i4 := by kernel_rfl
 t5 := underlying5
 a5 := isAgg5
 z5 := sizeOf5
 v5 := zeroValue5
 i5 := by kernel_rfl
 t21 := underlying21
 a21 := isAgg21
 z21 := sizeOf21
 v21 := zeroValue21
 i21 := by kernel_rfl
 t25 := underlying221
 a25 := isAgg221
 z25 := sizeOf221
 v25 := zeroValue221
 i25 := by kernel_rfl
 t30 := underlying31
 a30 := isAgg31
 z30 := sizeOf31
 v30 := zeroValue31
 i30 := by kernel_rfl
 t33 := underlying273
 a33 := isAgg273
 z33 := sizeOf273
 v33 := zeroValue273
 i33 := by kernel_rfl
 t66 := underlying217
 a66 := isAgg217
 z66 := sizeOf217
 t68 := underlying219
 a68 := isAgg219
 z68 := sizeOf219
 v68 := zeroValue219
 i68 := by kernel_rfl
 t69 := underlying220
 a69 := isAgg220
 z69 := sizeOf220
 v69 := zeroValue220
 i69 := by kernel_rfl
 g2 := by kernel_rfl
 g3 := by kernel_rfl }
end Go.V
namespace Go.V
open Go.Proofs.Tryz
open Go.RowKit
set_option maxRecDepth 10000
attribute [local irreducible] Run Ops QD
def UT (I : Imm) : Prop := (∀ c, c < 256 → At I 0 c [.int .u8 (Lib.firstT c)]) ∧ ∀ i, i < 16 → At I 1 (2 * i) [.int .u8 (Lib.accLo i)] ∧ At I 1 (2 * i + 1) [.int .u8 (Lib.accHi i)]
theorem UT.mono {I J : Imm} (h : UT I) (hle : Le I J) : UT J := ⟨fun c hc => (h.1 c hc).mono hle, fun i hi => ⟨(h.2 i hi).1.mono hle, (h.2 i hi).2.mono hle⟩⟩
theorem At.cellF {I : Imm} {L : Own} {W : World} (h : Fits I L W) {b off : Nat} {v : Value} (hA : At I b off [v]) : W.cell? ⟨b, off, none⟩ = some v := by
 have := (show Holds I L W from ⟨h.imm, h.own⟩).cell hA 0 v rfl
 simpa using this
theorem UT.tabs {I : Imm} {L : Own} {W : World} (h : UT I) (hf : Fits I L W) : Lib.Utf8Tabs 0 1 W :=
 ⟨fun c hc => (h.1 c hc).cellF hf, fun i hi => ⟨(h.2 i hi).1.cellF hf, (h.2 i hi).2.cellF hf⟩⟩
theorem utf8_ValidString (I : Imm) (hU : UT I) (s : List UInt8) (hs : s.length ≤ 1099511627776) : Pure prog 80 [str s] I fun w J => w = .bool (Lib.validD s) ∧ J = I :=
 Pure.ofBelow fun W hf => by
  have := Proofs.Any.utf8_ValidString lays196 ⟨s.toArray⟩ W (by rw [str_size]; omega) (hU.tabs hf)
  exact this
theorem decGo (s : List UInt8) (hs : s ≠ []) : Lib.decodeGo ⟨s.toArray⟩ = runeAt s 0 := by
 have : (⟨s.toArray⟩ : ByteArray).size ≠ 0 := by rw [str_size]; have := List.length_pos_iff.2 hs; omega
 unfold Lib.decodeGo
 rw [if_neg this]; rfl
theorem utf8_DecodeStr (I : Imm) (hU : UT I) (s : List UInt8) (hs : s ≠ []) : Pure prog 214 [str s] I fun w J => w = .tuple #[.int .i32 ((runeAt s 0).1 : Int), .int .i64 ((runeAt s 0).2 : Int)] ∧ J = I :=
 Pure.ofBelow fun W hf => by
  have := Proofs.Any.utf8_DecodeRuneInString lays197 ⟨s.toArray⟩ W (hU.tabs hf)
  rw [decGo s hs] at this
  exact this
theorem utf8_Decode (I : Imm) (hU : UT I) (s : List UInt8) (v : Value) (db off c : Nat) (hR : Rd I v s db off c) (hs : s ≠ []) : Pure prog 147 [v] I fun w J => w = .tuple #[.int .i32 ((runeAt s 0).1 : Int), .int .i64 ((runeAt s 0).2 : Int)] ∧ J = I :=
 Pure.ofBelow fun W hf => by
  obtain rfl := hR.eq
  have := Proofs.Any7.utf8_DecodeRune lays32 ⟨s.toArray⟩ db off c W (hU.tabs hf) (fun j hj => by
   rw [str_size] at hj
   have := (hR.at' j hj).cellF hf
   have e : (⟨s.toArray⟩ : ByteArray).get! j = s.getD j 0 := ba_get s j
   rw [e, ← this]
   congr 2; omega)
  rw [decGo s hs, str_size] at this
  exact this
theorem w8_nat {k : Nat} (h : k < 256) : Value.int .u8 (k : Int) = w8 (UInt8.ofNat k) := by unfold w8; rw [ofNat_nat h]
theorem shrL (a k : Nat) : (a : Int).fdiv (2 ^ k) = ((a / 2 ^ k : Nat) : Int) := by
 rw [Int.fdiv_eq_ediv_of_nonneg _ (Int.pow_nonneg (by decide))]
 simp
theorem and63 (a : Nat) : a &&& 63 = a % 64 := Nat.and_two_pow_sub_one_eq_mod a 6
theorem btB : Bt prog 31 5 := ⟨el31, t5, by kernel_rfl, rfl⟩
theorem wrapU32 {k : Nat} (h : k < 4294967296) : IntKind.u32.wrap (k : Int) = (k : Int) := by rw [wrap32]; omega
theorem wrapM8 (k : Nat) : IntKind.u8.wrap (k : Int) = ((k % 256 : Nat) : Int) := by rw [wrap8]; omega
theorem or128 (a : Nat) : 128 ||| a % 64 = 128 + a % 64 := orSh (a := 2) 6 (Nat.mod_lt _ (by decide))
set_option maxHeartbeats 1000000 in
theorem utf8_appendNon (I : Imm) (v : Value) (xs : List UInt8) (r : Nat) (M : Own) (hB : Buf 5 v xs M) (hx : xs.length ≤ 1099511627776) (h0 : 128 ≤ r) (h1 : r ≤ 1114111) :
  Spec prog 152 [v, .int .i32 (r : Int)] I M fun w J M' => Buf 5 w (xs ++ encR (r : Int)) M' ∧ J = I := by
 refine Spec.enter 78 [(0, _), (1, _)] func152 rfl ntmps152 (by simp) rfl ?_
 intro C hCf hR hCI
 refine Run.seq ?_
 refine Run.regionO (D := [some 4]) [true] rfl rfl rfl (fun Z hZ => ?_)
 refine q1 dc rfl rfl ?_
 refine QD.nil (hZ _ ?_)
 clear hZ Z
 refine Run.seq ?_
 refine Run.regionO (D := [some 6, some 7, some 5]) [true, true, true] rfl rfl rfl (fun Z hZ => ?_)
 refine q1 dc rfl rfl ?_
 refine QD.e (Ev.conv (a := (r : Int)) (r := (r : Int)) T rfl rfl rfl (wrapU32 (by omega))) dc rfl ?_
 refine q1 dc rfl rfl ?_
 refine QD.nil (hZ _ ?_)
 clear hZ Z
 repeat (first | refine Run.seq ?_ | refine Run.block ?_)
 refine Run.regionO (D := [some 12, some 13, some 11]) [true, true, true] rfl rfl rfl (fun Z hZ => ?_)
 refine q1 dc rfl rfl ?_
 refine QD.e (Ev.leq rfl rfl) dc rfl ?_
 refine q1 dc rfl rfl ?_
 refine QD.nil (hZ _ ?_)
 clear hZ Z
 by_cases c1 : r ≤ 2047
 ·rw [decide_eq_true (show (r : Int) ≤ 2047 by omega)]
  have g : goodR r := .inl (by omega)
  have e : encR (r : Int) = [UInt8.ofNat (192 + r / 64), UInt8.ofNat (128 + r % 64)] := by rw [encR_good g, if_neg (by omega), if_pos (by omega)]
  repeat (first | refine Run.seq ?_ | refine Run.cond_t rfl ?_)
  refine Run.regionP (D := [some 14, some 15, some 16, some 17, some 18, some 19, some 20, some 21, some 22, some 23, some 24, some 4]) [true, true, true, true, true, true, true, true, true] 9 rfl rfl rfl (by simp only [List.drop_succ_cons, List.drop_zero]; rfl) (fun Z hZ => ?_)
  iterate 2 refine q1 dc rfl rfl ?_
  refine QD.e (Ev.shrK rfl rfl dc dc (shrL r 6)) dc rfl ?_
  refine QD.e (Ev.conv (r := ((r / 64 : Nat) : Int)) T rfl rfl rfl (wrapN8 (by omega))) dc rfl ?_
  refine QD.e ((Ev.orK (a := 192) (c := 192 + r / 64) rfl rfl dc (by show _ < 256; omega) (orSh (a := 3) 6 (by omega)) (wrapN8 (by omega))).as (w8_nat (by omega))) dc rfl ?_
  refine q1 dc rfl rfl ?_
  refine QD.e (Ev.conv (r := ((r % 256 : Nat) : Int)) T rfl rfl rfl (wrapM8 r)) dc rfl ?_
  refine QD.e (Ev.andK (b := 63) (c := r % 64) rfl rfl (by show _ < 256; omega) dc (by rw [and63]; omega) (wrapN8 (by omega))) dc rfl ?_
  refine QD.e ((Ev.orK (a := 128) (c := 128 + r % 64) rfl rfl dc (by show _ < 256; omega) (or128 r) (wrapN8 (by omega))).as (w8_nat (by omega))) dc rfl ?_
  refine QD.nil (hZ _ ?_)
  clear hZ Z
  refine Ops.lit T rfl rfl rfl dc rfl dc dc rfl rfl rfl rfl rfl (fun bq => ?_)
  refine Ops.appLit [UInt8.ofNat (192 + r / 64), UInt8.ofNat (128 + r % 64)] (N := []) btB hB rfl dc rfl rfl rfl rfl rfl (by simp; omega) fun v1 M1 hB1 => ?_
  refine Ops.pure T rfl dc rfl ?_
  refine Ops.nil ?_
  skip
  refine Run.ret1 (by rw [hCf]; exact func152) results152 rfl (hR _ _ _ ?_)
  rw [e]
  exact ⟨hB1, rfl⟩
 rw [decide_eq_false (show ¬ (r : Int) ≤ 2047 by omega)]
 repeat (first | refine Run.seq ?_ | refine Run.cond_f rfl ?_)
 refine Run.regionO (D := [some 26, some 27, some 25]) [true, true, true] rfl rfl rfl (fun Z hZ => ?_)
 refine q1 dc rfl rfl ?_
 refine QD.e (Ev.lss rfl rfl) dc rfl ?_
 refine q1 dc rfl rfl ?_
 refine QD.nil (hZ _ ?_)
 clear hZ Z
 by_cases c2 : r < 55296
 ·rw [decide_eq_true (show (r : Int) < 55296 by omega)]
  have e : encR (r : Int) = [UInt8.ofNat (224 + r / 4096), UInt8.ofNat (128 + r / 64 % 64), UInt8.ofNat (128 + r % 64)] := by rw [encR_good (.inl c2), if_neg (by omega), if_neg (by omega), if_pos (by omega)]
  repeat (first | refine Run.seq ?_ | refine Run.skip ?_ | refine Run.cond_t rfl ?_)
  refine Run.regionP (D := [some 34, some 35, some 36, some 37, some 38, some 39, some 40, some 41, some 42, some 43, some 44, some 45, some 46, some 47, some 48, some 49, some 4]) [true, true, true, true, true, true, true, true, true, true, true, true, true, true] 14 rfl rfl rfl (by simp only [List.drop_succ_cons, List.drop_zero]; rfl) (fun Z hZ => ?_)
  iterate 2 refine q1 dc rfl rfl ?_
  refine QD.e (Ev.shrK rfl rfl dc dc (shrL r 12)) dc rfl ?_
  refine QD.e (Ev.conv (r := ((r / 4096 : Nat) : Int)) T rfl rfl rfl (wrapN8 (by omega))) dc rfl ?_
  refine QD.e ((Ev.orK (a := 224) (c := 224 + r / 4096) rfl rfl dc (by show _ < 256; omega) (orSh (a := 14) 4 (by omega)) (wrapN8 (by omega))).as (w8_nat (by omega))) dc rfl ?_
  refine q1 dc rfl rfl ?_
  refine QD.e (Ev.shrK rfl rfl dc dc (shrL r 6)) dc rfl ?_
  refine QD.e (Ev.conv (r := (((r / 64) % 256 : Nat) : Int)) T rfl rfl rfl (wrapM8 (r / 64))) dc rfl ?_
  refine QD.e (Ev.andK (b := 63) (c := (r / 64) % 64) rfl rfl (by show _ < 256; omega) dc (by rw [and63]; omega) (wrapN8 (by omega))) dc rfl ?_
  refine QD.e ((Ev.orK (a := 128) (c := 128 + (r / 64) % 64) rfl rfl dc (by show _ < 256; omega) (or128 (r / 64)) (wrapN8 (by omega))).as (w8_nat (by omega))) dc rfl ?_
  refine q1 dc rfl rfl ?_
  refine QD.e (Ev.conv (r := (((r) % 256 : Nat) : Int)) T rfl rfl rfl (wrapM8 (r))) dc rfl ?_
  refine QD.e (Ev.andK (b := 63) (c := (r) % 64) rfl rfl (by show _ < 256; omega) dc (by rw [and63]; omega) (wrapN8 (by omega))) dc rfl ?_
  refine QD.e ((Ev.orK (a := 128) (c := 128 + (r) % 64) rfl rfl dc (by show _ < 256; omega) (or128 (r)) (wrapN8 (by omega))).as (w8_nat (by omega))) dc rfl ?_
  refine QD.nil (hZ _ ?_)
  clear hZ Z
  refine Ops.lit T rfl rfl rfl dc rfl dc dc rfl rfl rfl rfl rfl (fun bq => ?_)
  refine Ops.appLit [UInt8.ofNat (224 + r / 4096), UInt8.ofNat (128 + r / 64 % 64), UInt8.ofNat (128 + r % 64)] (N := []) btB hB rfl dc rfl rfl rfl rfl rfl (by simp; omega) fun v1 M1 hB1 => ?_
  refine Ops.pure T rfl dc rfl ?_
  refine Ops.nil ?_
  skip
  refine Run.ret1 (by rw [hCf]; exact func152) results152 rfl (hR _ _ _ ?_)
  rw [e]
  exact ⟨hB1, rfl⟩
 rw [decide_eq_false (show ¬ (r : Int) < 55296 by omega)]
 refine Run.cond_f rfl ?_
 by_cases c3 : r ≤ 57343
 ·have e : encR (r : Int) = [239, 191, 189] := encR_bad (by
   cases h : Utf8.valid (r : Int) with
   | false => rfl
   | true => have := of_valid h; unfold goodR at this; omega)
  refine Run.regionO (D := [some 28, some 29, some 30, some 31, some 32, some 33, some 25]) [true, true, true, true, true, true, true] rfl rfl rfl (fun Z hZ => ?_)
  refine q1 dc rfl rfl ?_
  refine qf (Ev.lss rfl rfl) (by omega) dc rfl ?_
  refine q1 dc rfl rfl ?_
  iterate 2 refine QD.off dc rfl ?_
  iterate 2 refine q1 dc rfl rfl ?_
  refine QD.nil (hZ _ ?_)
  clear hZ Z
  repeat (first | refine Run.seq ?_ | refine Run.cond_f rfl ?_)
  refine Run.regionO (D := [some 51, some 52, some 53, some 54, some 55, some 56, some 50]) [true, true, true, true, true, true, true] rfl rfl rfl (fun Z hZ => ?_)
  refine q1 dc rfl rfl ?_
  refine qf (Ev.gtr rfl rfl) (by omega) dc rfl ?_
  refine q1 dc rfl rfl ?_
  iterate 2 refine QD.off dc rfl ?_
  iterate 2 refine q1 dc rfl rfl ?_
  refine QD.nil (hZ _ ?_)
  clear hZ Z
  repeat (first | refine Run.seq ?_ | refine Run.cond_f rfl ?_)
  refine Run.regionP (D := [some 8, some 9, some 10, some 4]) [true] 1 rfl rfl rfl (by simp only [List.drop_succ_cons, List.drop_zero]; rfl) (fun Z hZ => ?_)
  refine q1 dc rfl rfl ?_
  refine QD.nil (hZ _ ?_)
  clear hZ Z
  refine Ops.lit T rfl rfl rfl dc rfl dc dc rfl rfl rfl rfl rfl (fun bq => ?_)
  refine Ops.appLit [239, 191, 189] (N := []) btB hB rfl dc rfl rfl rfl rfl rfl (by simp; omega) fun v1 M1 hB1 => ?_
  refine Ops.pure T rfl dc rfl ?_
  refine Ops.nil ?_
  skip
  refine Run.ret1 (by rw [hCf]; exact func152) results152 rfl (hR _ _ _ ?_)
  rw [e]
  exact ⟨hB1, rfl⟩
 by_cases c4 : r ≤ 65535
 ·have e : encR (r : Int) = [UInt8.ofNat (224 + r / 4096), UInt8.ofNat (128 + r / 64 % 64), UInt8.ofNat (128 + r % 64)] := by rw [encR_good (.inr (by omega)), if_neg (by omega), if_neg (by omega), if_pos (by omega)]
  refine Run.regionO (D := [some 28, some 29, some 30, some 31, some 32, some 33, some 25]) [true, true, true, true, true, true, true] rfl rfl rfl (fun Z hZ => ?_)
  refine q1 dc rfl rfl ?_
  refine qt (Ev.lss rfl rfl) (by omega) dc rfl ?_
  iterate 2 refine q1 dc rfl rfl ?_
  refine qt (Ev.leq rfl rfl) (by omega) dc rfl ?_
  iterate 2 refine q1 dc rfl rfl ?_
  refine QD.nil (hZ _ ?_)
  clear hZ Z
  repeat (first | refine Run.seq ?_ | refine Run.cond_t rfl ?_)
  refine Run.regionP (D := [some 34, some 35, some 36, some 37, some 38, some 39, some 40, some 41, some 42, some 43, some 44, some 45, some 46, some 47, some 48, some 49, some 4]) [true, true, true, true, true, true, true, true, true, true, true, true, true, true] 14 rfl rfl rfl (by simp only [List.drop_succ_cons, List.drop_zero]; rfl) (fun Z hZ => ?_)
  iterate 2 refine q1 dc rfl rfl ?_
  refine QD.e (Ev.shrK rfl rfl dc dc (shrL r 12)) dc rfl ?_
  refine QD.e (Ev.conv (r := ((r / 4096 : Nat) : Int)) T rfl rfl rfl (wrapN8 (by omega))) dc rfl ?_
  refine QD.e ((Ev.orK (a := 224) (c := 224 + r / 4096) rfl rfl dc (by show _ < 256; omega) (orSh (a := 14) 4 (by omega)) (wrapN8 (by omega))).as (w8_nat (by omega))) dc rfl ?_
  refine q1 dc rfl rfl ?_
  refine QD.e (Ev.shrK rfl rfl dc dc (shrL r 6)) dc rfl ?_
  refine QD.e (Ev.conv (r := (((r / 64) % 256 : Nat) : Int)) T rfl rfl rfl (wrapM8 (r / 64))) dc rfl ?_
  refine QD.e (Ev.andK (b := 63) (c := (r / 64) % 64) rfl rfl (by show _ < 256; omega) dc (by rw [and63]; omega) (wrapN8 (by omega))) dc rfl ?_
  refine QD.e ((Ev.orK (a := 128) (c := 128 + (r / 64) % 64) rfl rfl dc (by show _ < 256; omega) (or128 (r / 64)) (wrapN8 (by omega))).as (w8_nat (by omega))) dc rfl ?_
  refine q1 dc rfl rfl ?_
  refine QD.e (Ev.conv (r := (((r) % 256 : Nat) : Int)) T rfl rfl rfl (wrapM8 (r))) dc rfl ?_
  refine QD.e (Ev.andK (b := 63) (c := (r) % 64) rfl rfl (by show _ < 256; omega) dc (by rw [and63]; omega) (wrapN8 (by omega))) dc rfl ?_
  refine QD.e ((Ev.orK (a := 128) (c := 128 + (r) % 64) rfl rfl dc (by show _ < 256; omega) (or128 (r)) (wrapN8 (by omega))).as (w8_nat (by omega))) dc rfl ?_
  refine QD.nil (hZ _ ?_)
  clear hZ Z
  refine Ops.lit T rfl rfl rfl dc rfl dc dc rfl rfl rfl rfl rfl (fun bq => ?_)
  refine Ops.appLit [UInt8.ofNat (224 + r / 4096), UInt8.ofNat (128 + r / 64 % 64), UInt8.ofNat (128 + r % 64)] (N := []) btB hB rfl dc rfl rfl rfl rfl rfl (by simp; omega) fun v1 M1 hB1 => ?_
  refine Ops.pure T rfl dc rfl ?_
  refine Ops.nil ?_
  skip
  refine Run.ret1 (by rw [hCf]; exact func152) results152 rfl (hR _ _ _ ?_)
  rw [e]
  exact ⟨hB1, rfl⟩
 ·have e : encR (r : Int) = [UInt8.ofNat (240 + r / 262144), UInt8.ofNat (128 + r / 4096 % 64), UInt8.ofNat (128 + r / 64 % 64), UInt8.ofNat (128 + r % 64)] := by rw [encR_good (.inr (by omega)), if_neg (by omega), if_neg (by omega), if_neg (by omega)]
  refine Run.regionO (D := [some 28, some 29, some 30, some 31, some 32, some 33, some 25]) [true, true, true, true, true, true, true] rfl rfl rfl (fun Z hZ => ?_)
  refine q1 dc rfl rfl ?_
  refine qt (Ev.lss rfl rfl) (by omega) dc rfl ?_
  iterate 2 refine q1 dc rfl rfl ?_
  refine qf (Ev.leq rfl rfl) (by omega) dc rfl ?_
  iterate 2 refine q1 dc rfl rfl ?_
  refine QD.nil (hZ _ ?_)
  clear hZ Z
  repeat (first | refine Run.seq ?_ | refine Run.cond_f rfl ?_)
  refine Run.regionO (D := [some 51, some 52, some 53, some 54, some 55, some 56, some 50]) [true, true, true, true, true, true, true] rfl rfl rfl (fun Z hZ => ?_)
  refine q1 dc rfl rfl ?_
  refine qt (Ev.gtr rfl rfl) (by omega) dc rfl ?_
  iterate 2 refine q1 dc rfl rfl ?_
  refine qt (Ev.leq rfl rfl) (by omega) dc rfl ?_
  iterate 2 refine q1 dc rfl rfl ?_
  refine QD.nil (hZ _ ?_)
  clear hZ Z
  repeat (first | refine Run.seq ?_ | refine Run.cond_t rfl ?_)
  refine Run.regionP (D := [some 57, some 58, some 59, some 60, some 61, some 62, some 63, some 64, some 65, some 66, some 67, some 68, some 69, some 70, some 71, some 72, some 73, some 74, some 75, some 76, some 77, some 4]) [true, true, true, true, true, true, true, true, true, true, true, true, true, true, true, true, true, true, true] 19 rfl rfl rfl (by simp only [List.drop_succ_cons, List.drop_zero]; rfl) (fun Z hZ => ?_)
  iterate 2 refine q1 dc rfl rfl ?_
  refine QD.e (Ev.shrK rfl rfl dc dc (shrL r 18)) dc rfl ?_
  refine QD.e (Ev.conv (r := ((r / 262144 : Nat) : Int)) T rfl rfl rfl (wrapN8 (by omega))) dc rfl ?_
  refine QD.e ((Ev.orK (a := 240) (c := 240 + r / 262144) rfl rfl dc (by show _ < 256; omega) (orSh (a := 30) 3 (by omega)) (wrapN8 (by omega))).as (w8_nat (by omega))) dc rfl ?_
  refine q1 dc rfl rfl ?_
  refine QD.e (Ev.shrK rfl rfl dc dc (shrL r 12)) dc rfl ?_
  refine QD.e (Ev.conv (r := (((r / 4096) % 256 : Nat) : Int)) T rfl rfl rfl (wrapM8 (r / 4096))) dc rfl ?_
  refine QD.e (Ev.andK (b := 63) (c := (r / 4096) % 64) rfl rfl (by show _ < 256; omega) dc (by rw [and63]; omega) (wrapN8 (by omega))) dc rfl ?_
  refine QD.e ((Ev.orK (a := 128) (c := 128 + (r / 4096) % 64) rfl rfl dc (by show _ < 256; omega) (or128 (r / 4096)) (wrapN8 (by omega))).as (w8_nat (by omega))) dc rfl ?_
  refine q1 dc rfl rfl ?_
  refine QD.e (Ev.shrK rfl rfl dc dc (shrL r 6)) dc rfl ?_
  refine QD.e (Ev.conv (r := (((r / 64) % 256 : Nat) : Int)) T rfl rfl rfl (wrapM8 (r / 64))) dc rfl ?_
  refine QD.e (Ev.andK (b := 63) (c := (r / 64) % 64) rfl rfl (by show _ < 256; omega) dc (by rw [and63]; omega) (wrapN8 (by omega))) dc rfl ?_
  refine QD.e ((Ev.orK (a := 128) (c := 128 + (r / 64) % 64) rfl rfl dc (by show _ < 256; omega) (or128 (r / 64)) (wrapN8 (by omega))).as (w8_nat (by omega))) dc rfl ?_
  refine q1 dc rfl rfl ?_
  refine QD.e (Ev.conv (r := (((r) % 256 : Nat) : Int)) T rfl rfl rfl (wrapM8 (r))) dc rfl ?_
  refine QD.e (Ev.andK (b := 63) (c := (r) % 64) rfl rfl (by show _ < 256; omega) dc (by rw [and63]; omega) (wrapN8 (by omega))) dc rfl ?_
  refine QD.e ((Ev.orK (a := 128) (c := 128 + (r) % 64) rfl rfl dc (by show _ < 256; omega) (or128 (r)) (wrapN8 (by omega))).as (w8_nat (by omega))) dc rfl ?_
  refine QD.nil (hZ _ ?_)
  clear hZ Z
  refine Ops.lit T rfl rfl rfl dc rfl dc dc rfl rfl rfl rfl rfl (fun bq => ?_)
  refine Ops.appLit [UInt8.ofNat (240 + r / 262144), UInt8.ofNat (128 + r / 4096 % 64), UInt8.ofNat (128 + r / 64 % 64), UInt8.ofNat (128 + r % 64)] (N := []) btB hB rfl dc rfl rfl rfl rfl rfl (by simp; omega) fun v1 M1 hB1 => ?_
  refine Ops.pure T rfl dc rfl ?_
  refine Ops.nil ?_
  skip
  refine Run.ret1 (by rw [hCf]; exact func152) results152 rfl (hR _ _ _ ?_)
  rw [e]
  exact ⟨hB1, rfl⟩
theorem utf8_Append (I : Imm) (v : Value) (xs : List UInt8) (r : Nat) (M : Own) (hB : Buf 5 v xs M) (hx : xs.length ≤ 1099511627776) (h1 : r ≤ 1114111) :
  Spec prog 148 [v, .int .i32 (r : Int)] I M fun w J M' => Buf 5 w (xs ++ encR (r : Int)) M' ∧ J = I := by
 refine Spec.enter 16 [(0, _), (1, _)] func148 rfl ntmps148 (by simp) rfl ?_
 intro C hCf hR hCI
 refine Run.seq ?_
 refine Run.regionO (D := [some 4]) [true] rfl rfl rfl (fun Z hZ => ?_)
 refine q1 dc rfl rfl ?_
 refine QD.nil (hZ _ ?_)
 clear hZ Z
 repeat refine Run.seq ?_
 refine Run.regionO (D := [some 5, some 6, some 7]) [true, true, true] rfl rfl rfl (fun Z hZ => ?_)
 refine q1 dc rfl rfl ?_
 refine QD.e (Ev.conv (a := (r : Int)) (r := (r : Int)) T rfl rfl rfl (wrapU32 (by omega))) dc rfl ?_
 refine QD.e (Ev.leq rfl rfl) dc rfl ?_
 refine QD.nil (hZ _ ?_)
 clear hZ Z
 by_cases h : r ≤ 127
 ·rw [decide_eq_true (show (r : Int) ≤ 127 by omega)]
  have e : encR (r : Int) = [UInt8.ofNat r] := by rw [encR_ascii _ (by omega) (by omega)]; simp
  repeat (first | refine Run.seq ?_ | refine Run.cond_t rfl ?_)
  refine Run.regionP (D := [some 8, some 9, some 10, some 11, some 12, some 4]) [true, true, true] 3 rfl rfl rfl (by simp only [List.drop_succ_cons, List.drop_zero]; rfl) (fun Z hZ => ?_)
  iterate 2 refine q1 dc rfl rfl ?_
  refine QD.e ((Ev.conv (a := (r : Int)) (r := (r : Int)) T rfl rfl rfl (wrapN8 (by omega))).as (w8_nat (by omega))) dc rfl ?_
  refine QD.nil (hZ _ ?_)
  clear hZ Z
  refine Ops.lit T rfl rfl rfl dc rfl dc dc rfl rfl rfl rfl rfl (fun bq => ?_)
  refine Ops.appLit [UInt8.ofNat r] (N := []) btB hB rfl dc rfl rfl rfl rfl rfl (by simp; omega) fun v1 M1 hB1 => ?_
  refine Ops.pure T rfl dc rfl ?_
  refine Ops.nil ?_
  skip
  refine Run.ret1 (by rw [hCf]; exact func148) results148 rfl (hR _ _ _ ?_)
  rw [e]
  exact ⟨hB1, rfl⟩
 ·rw [decide_eq_false (show ¬ (r : Int) ≤ 127 by omega)]
  repeat (first | refine Run.seq ?_ | refine Run.skip ?_ | refine Run.cond_f rfl ?_)
  refine Run.regionP (D := [some 13, some 14, some 15, some 4]) [true, true] 2 rfl rfl rfl (by simp only [List.drop_succ_cons, List.drop_zero]; rfl) (fun Z hZ => ?_)
  iterate 2 refine q1 dc rfl rfl ?_
  refine QD.nil (hZ _ ?_)
  clear hZ Z
  refine Ops.callP (N := []) ((utf8_appendNon I v xs r M hB hx (by omega) h1)) (.refl _) rfl dc call152 rfl ?_
  rintro v1 J1 M1 l1 ⟨hB1, rfl⟩
  refine Ops.pure T rfl dc rfl ?_
  refine Ops.nil ?_
  skip
  refine Run.ret1 (by rw [hCf]; exact func148) results148 rfl (hR _ _ _ ?_)
  exact ⟨hB1, rfl⟩
end Go.V
namespace Go.V
open Go.RowKit
section
variable {P : Program} {n : Nat} {C : Cx} {k : List Item} {env : Env} {L : Own} {I : Imm} {ops : Array Oper} {i : Nat} {l : List Oper} {S : World → Prop}
variable {ty : TypeId} {ps : String} {af : Array Edge} {g : Option (Nat × Bool)} {d : Nat}
theorem Eff.appOneP {α : Type} {t : Ty α} {y : α} {s x : Operand} {ts e : TypeId} {bytes b : Nat} {M N : Own} {v : Value} {xs : List α} {news : List Value} {K : Value → Own → Imm → Prop} (hE : Elem P ts e t.size bytes) (hG : Gr t I e v xs M) (hr : t.rel I news y)
  (hs : opnd env s = some v) (hx : opnd env x = some (.slice (some ⟨b, 0, none⟩) 1 1)) (hL : L.Perm (M ++ N)) (hb : (b, blk news e) ∈ L) (h1 : one news = true)
  (hbytes : (2 * (xs.length + 1) + 512) * bytes ≤ 281474976710656) (h63 : xs.length + 1 ≤ 4611686018427387904)
  (next : ∀ v' M', Gr t I e v' (xs ++ [y]) M' → K v' (M' ++ N) I) :
  Eff P n C env L I ⟨some d, .call ⟨.builtin .append, #[s, x], #[ts, ts]⟩, ty, ps, af, g⟩ K := by
 obtain ⟨cs, hG1, hC⟩ := hG
 refine Eff.append hE hs hx hL hG1 (q := 1) (news := news) (fun W hi => ?_) hbytes h63 fun v' M' h => next v' M' ⟨cs ++ news, by simpa using h, hC.append (Cells.one hr)⟩
 have hW := hi.fits.own b _ hb
 exact Src.ofSlice W hE.under ⟨b, 0, none⟩ 1 1 news (by rw [t.len hr]; simp) (fun j u hu => by rw [add_off, cell_blk hW]; simpa using hu) (one_spec h1)
theorem Run.retCTK (T : Tab P) (j : Nat) {fn : Func} {t u b m : Nat} {x : Value} {vs cs : List Value} {rt t' : TypeId} {todo : List Item} {L' : Own} (hfn : P.funcs[C.f]? = some fn) (hres : fn.results = #[.cell t rt, .tmp u]) (hp : look env t = some (.pointer (some ⟨b, 0, none⟩)))
  (hL : L[j]? = some (b, blk cs t')) (ha : T.agg rt = some true) (hs : T.size rt = some m) (hv : (cs.drop 0).take m = vs) (hm : vs.length = m) (hu : look env u = some x) (hsub : L'.Sublist L) (h : C.R (.tuple #[.agg vs.toArray, x]) I L') : Run P n C (.code .ret :: todo) env L I := by
 intro bb a cs' W hb hk he hi
 have hr : (results fn a.tmps).run P W = .ok (.tuple #[.agg vs.toArray, x]) W := by
  have h1 := run_cellN T hi hL ha hs hv hm
  have hp' : a.tmps.getD t undef = .pointer (some ⟨b, 0, none⟩) := he.getD hp
  rw [results_cell_tmp hres, hp', he.getD hu]
  simp [asAddr, h1]
 exact ⟨.returned (.tuple #[.agg vs.toArray, x]), W, _, ⟨_, I, L', rfl, h, hi.weakenL hsub⟩, Steps.one step_ret, hb, rfl, he.defers, hk, fn, by simpa [Frame.at, hb] using hfn, hr⟩
end
end Go.V
namespace Go.V
open Go.RowKit
section
variable {P : Program} {md : Region.Mode} {ops : Array Oper} {Q : Exit → Act → World → Prop} {S : Array Bool → World → Prop} {T : World → Prop}
def wpAnyL (P : Program) (md : Region.Mode) (ops : Array Oper) (Q : Exit → Act → World → Prop) (S : Array Bool → World → Prop) : Nat → Array Bool → Act → World → Prop
 | 0, done, a, w => Region.ready md ops done = [] ∧ Q .normal a w
 | n + 1, done, a, w => (Region.ready md ops done = [] → Q .normal a w) ∧
  ∀ i ∈ Region.ready md ops done, wpOp P ops Q i (fun a' w' => S (done.setIfInBounds i true) w' ∧ wpAnyL P md ops Q S n (done.setIfInBounds i true) a' w') a w
theorem wpAny_of_L : ∀ (n : Nat) (done : Array Bool) (a : Act) (w : World), wpAnyL P md ops Q S n done a w → wpAny P md ops Q n done a w
 | 0, _, _, _, h => h
 | n + 1, _, _, _, h => ⟨h.1, fun i hi => wpOp_mono (fun a' w' h' => wpAny_of_L n _ a' w' h'.2) (h.2 i hi)⟩
theorem wpAnyL_first {i : Nat} {oi : Oper} {v : Value} (hi : ops[i]? = some oi) (hsel : ∀ (j : Nat) (o : Oper) cs b, ops[j]? = some o → o.op ≠ .select cs b)
  (hQ : ∀ c a w, Q (.panic c) (a.put oi.dst v) w → Q (.panic c) a w) (hS : ∀ l w, S l w ↔ S (l.setIfInBounds i true) w) (hT : ∀ l w, Cl md ops l → l.getD i true = false → S l w → T w) :
  ∀ (n : Nat) (done : Array Bool) (a : Act) (w : World), Cl md ops done →
   (∀ j oj, ops[j]? = some oj → j ≠ i → done.getD j true = false → (∀ e ∈ oj.after, Region.binds md e = true → e.on ≠ i) → oi.apart ops oj = true) →
   i ∈ Region.ready md ops done → YieldsIf P ops T oi v a → S done w →
   wpAnyL P md ops Q S n (done.setIfInBounds i true) (a.put oi.dst v) w → wpAnyL P md ops Q S (n + 1) done a w := by
 intro n
 induction n with
 | zero =>
  intro done a w inv _ hr hy hSw H
  refine ⟨fun h => (by rw [h] at hr; cases hr), fun j hj => ?_⟩
  by_cases hji : j = i
  ·subst hji; exact hy.wpOp hi (hT done w inv (mem_ready.1 hr).1 hSw) ⟨(hS _ _).1 hSw, H⟩
  ·have := ready_mono hj hji
   rw [H.1] at this
   cases this
 | succ n ih =>
  intro done a w inv hfree hr hy hSw H
  refine ⟨fun h => (by rw [h] at hr; cases hr), fun j hj => ?_⟩
  by_cases hji : j = i
  ·subst hji; exact hy.wpOp hi (hT done w inv (mem_ready.1 hr).1 hSw) ⟨(hS _ _).1 hSw, H⟩
  ·have h1 := H.2 j (ready_mono hj hji)
   obtain ⟨hjun, oj, hoj, hall⟩ := mem_ready.1 hj
   have hnot : ∀ e ∈ oj.after, Region.binds md e = true → e.on ≠ i := fun e he hb heq => by
    have h1 := hall e he hb
    rw [heq, getD_both (mem_ready.1 hr).1] at h1
    cases h1
   have h2 := wpOp_putIf hoj (hfree j oj hoj hji hjun hnot) (fun cs b => hsel i oi cs b hi) (fun cs b => hsel j oj cs b hoj) hQ hy h1
   have hfree' : ∀ k ok, ops[k]? = some ok → k ≠ i → (done.setIfInBounds j true).getD k true = false →
     (∀ e ∈ ok.after, Region.binds md e = true → e.on ≠ i) → oi.apart ops ok = true := fun k ok hk hki hun hno => by
    refine hfree k ok hk hki ?_ hno
    by_cases hjk : j = k
    ·subst hjk; exact hjun
    ·rw [getD_set_ne true hjk] at hun; exact hun
   refine wpOp_mono (fun a' w' h3 => ?_) h2
   have h4 : S (done.setIfInBounds j true) w' := (hS _ _).2 (by rw [Array.setIfInBounds_comm _ _ hji]; exact h3.2.1)
   refine ⟨h4, ih (done.setIfInBounds j true) a' w' (inv.set hj) hfree' (ready_mono hr (Ne.symm hji)) h3.1 h4 ?_⟩
   rw [Array.setIfInBounds_comm _ _ hji]
   exact h3.2.2
theorem wpAnyL_done {done : Array Bool} {a : Act} {w : World} (hr : Region.ready md ops done = []) (h : Q .normal a w) : ∀ n, wpAnyL P md ops Q S n done a w
 | 0 => ⟨hr, h⟩
 | _ + 1 => ⟨fun _ => h, by rw [hr]; simp⟩
end
theorem mr {M X L : Own} {a b : Nat × Obj} (h : L = a :: b :: (M ++ X)) : ∀ x, x ∈ M → x ∈ L := fun x hx => h ▸ List.mem_cons_of_mem _ (List.mem_cons_of_mem _ (List.mem_append_left _ hx))
def SL (late : List Nat) (S1 S0 : World → Prop) (l : Array Bool) (w : World) : Prop := S1 w ∧ ((∀ j ∈ late, l.getD j false = false) → S0 w)
theorem SL.set {late : List Nat} {S1 S0 : World → Prop} {i : Nat} (hi : i ∉ late) (l : Array Bool) (w : World) : SL late S1 S0 l w ↔ SL late S1 S0 (l.setIfInBounds i true) w := by
 have e : ∀ j ∈ late, (l.setIfInBounds i true).getD j false = l.getD j false := fun j hj => getD_set_ne false (fun h => hi (h ▸ hj))
 unfold SL
 constructor
 ·intro h; exact ⟨h.1, fun h2 => h.2 fun j hj => by rw [← e j hj]; exact h2 j hj⟩
 ·intro h; exact ⟨h.1, fun h2 => h.2 fun j hj => by rw [e j hj]; exact h2 j hj⟩
def lateOk (ops : Array Oper) (late : List Nat) (i : Nat) : Bool := late.all fun j => match ops[j]? with
 | none => false
 | some o => o.after.toList.any fun e => Region.binds .any e && Nat.beq e.on i
theorem SL.at {ops : Array Oper} {late : List Nat} {S1 S0 : World → Prop} {i : Nat} (h : lateOk ops late i = true) (l : Array Bool) (w : World) (hc : Cl .any ops l) (hu : l.getD i true = false) (hS : SL late S1 S0 l w) : S0 w := by
 refine hS.2 fun j hj => ?_
 cases hl : l.getD j false with
 | false => rfl
 | true =>
  exfalso
  have := List.all_eq_true.1 h j hj
  split at this
  ·cases this
  ·rename_i o ho
   obtain ⟨e, he, hb⟩ := List.any_eq_true.1 this
   simp only [Bool.and_eq_true] at hb
   have h2 := hc.closed j o ho hl e (by simpa using he) hb.1
   rw [Nat.eq_of_beq_eq_true hb.2, getD_both hu] at h2
   cases h2
section
variable {P : Program} {n : Nat} {C : Cx} {k : List Item} {env : Env} {L : Own} {I : Imm} {ops : Array Oper} {late : List Nat} {S1 S : World → Prop}
variable {ty : TypeId} {ps : String} {af : Array Edge} {g : Option (Nat × Bool)} {d : Nat}
def RAnyL (P : Program) (n : Nat) (C : Cx) (ops : Array Oper) (late : List Nat) (S1 S : World → Prop) (k : List Item) (fuel : Nat) (listed : List Bool) (env : Env) (L : Own) (I : Imm) : Prop :=
 ∀ a W, EnvOk n env a → Inv C.w0 C.I0 C.L0 I L W → Cl .any ops listed.toArray → SL late S1 S listed.toArray W → wpAnyL P .any ops (Qk P n C k) (SL late S1 S) fuel listed.toArray a W
theorem Run.regionL {id : Nat} (late : List Nat) (S1 S : World → Prop) (listed : List Bool) (hm : P.follows .mixedOrders = true) (hl : (Array.replicate ops.size false) = listed.toArray) (hS : ∀ W, Inv C.w0 C.I0 C.L0 I L W → S1 W ∧ S W)
  (h : RAnyL P n C ops late S1 S k ops.size listed env L I) : Run P n C (.code (.region id ops true) :: k) env L I := by
 intro b a cs W hb hk he hi
 have hcl : Cl .any ops listed.toArray := by
  rw [← hl]
  exact ⟨by simp, fun j oj hj hlj => by
   exfalso
   simp only [Array.getD_eq_getD_getElem?, Array.getElem?_replicate] at hlj
   split at hlj <;> simp at hlj⟩
 have hw : (Code.region id ops true).wp P (Qk P n C k) a W := wp_region_any hm (wpAny_of_L _ _ _ _ (by
  rw [hl]
  exact h a _ he hi.drew hcl ⟨(hS _ hi.drew).1, fun _ => (hS _ hi.drew).2⟩))
 obtain ⟨e, a', W', hq, harr⟩ := hw b k cs
 cases e with
 | normal =>
  obtain ⟨env', L', I', he', hi', hrun⟩ := hq
  obtain ⟨e, W2, fr, h1, h2, h3⟩ := hrun b a' cs W' hb hk he' hi'
  exact ⟨e, W2, fr, h1, Comes.of_steps harr h2, h3⟩
 | _ => exact hq.elim
theorem RAnyL.done {listed : List Bool} (fuel : Nat) (hr : Region.ready .any ops listed.toArray = []) (h : Run P n C k env L I) : RAnyL P n C ops late S1 S k fuel listed env L I :=
 fun a W he hi _ _ => wpAnyL_done hr ⟨env, L, I, he, hi, h⟩ fuel
theorem RAnyL.perm {listed : List Bool} {fuel : Nat} {L' : Own} (hp : L.Perm L') (h : RAnyL P n C ops late S1 S k fuel listed env L' I) : RAnyL P n C ops late S1 S k fuel listed env L I := fun a W he hi hc hs => h a W he (hi.perm hp) hc hs
theorem RAnyL.dropL {listed : List Bool} {fuel : Nat} {L' : Own} (hp : L'.Sublist L) (h : RAnyL P n C ops late S1 S k fuel listed env L' I) : RAnyL P n C ops late S1 S k fuel listed env L I := fun a W he hi hc hs => h a W he (hi.weakenL hp) hc hs
theorem RAnyL.tk {listed : List Bool} {fuel : Nat} (j : Nat) {d : Nat} {op : Op} {v : Value} (listed' : List Bool) (hi : ops[j]? = some ⟨some d, op, ty, ps, af, g⟩) (ok : tkOk ops listed j listed' = true) (hd : d < n) (hlate : late.contains j = false) {T : World → Prop} (hT : (∀ W, S1 W → T W) ∨ (lateOk ops late j = true ∧ ∀ W, S W → T W)) (hy : Yld P n env ops T ⟨some d, op, ty, ps, af, g⟩ v)
  (h : RAnyL P n C ops late S1 S k fuel listed' ((d, v) :: env) L I) : RAnyL P n C ops late S1 S k (fuel + 1) listed env L I := by
 obtain ⟨h1, h2, h3, h4⟩ := tk_spec ok
 intro a W he hinv hc hs
 have hni : j ∉ late := fun hm => by
  have : late.contains j = true := List.contains_iff_mem.2 hm
  rw [this] at hlate; cases hlate
 have hr : j ∈ Region.ready .any ops listed.toArray := by simpa using h3
 refine wpAnyL_first (T := T) (v := v) hi (Region.noSelect_spec h1) (by intro c a w h; exact h.elim) (SL.set hni) (fun l w hcl hu hS => ?_) fuel listed.toArray a W hc (Region.free_spec hi h2) hr ?_ hs ?_
 ·rcases hT with hT | ⟨hT, hST⟩
  ·exact hT w hS.1
  ·exact hST w (SL.at hT l w hcl hu hS)
 ·rcases hy with ⟨hw, hv⟩ | ⟨hw, hv⟩
  ·exact .inl ⟨want_spec he hw, fun w hSw => hv a w he hSw⟩
  ·exact .inr ⟨want_spec he hw, hv⟩
 ·rw [h4]
  exact h _ W (he.put (dOk hd)) hinv (by rw [← h4]; exact hc.set hr) (by rw [← h4]; exact (SL.set hni _ _).1 hs)
theorem RAnyL.all {listed : List Bool} {fuel : Nat} (rs : List Nat) (hr : Region.ready .any ops listed.toArray = rs) (hne : rs ≠ [])
  (h : ∀ j ∈ rs, ∃ o, ops[j]? = some o ∧ want env ops o.guard = some true ∧ (∀ t, o.dst = some t → t < n) ∧
   Eff P n C env L I o fun v L1 I1 => ((∀ W, Inv C.w0 C.I0 C.L0 I1 L1 W → S1 W) ∧ (late.contains j = true ∨ ∀ W, Inv C.w0 C.I0 C.L0 I1 L1 W → S W)) ∧ ∃ listed', listed.toArray.setIfInBounds j true = listed'.toArray ∧ RAnyL P n C ops late S1 S k fuel listed' (V.put env o.dst v) L1 I1) :
  RAnyL P n C ops late S1 S k (fuel + 1) listed env L I := by
 intro a W he hi hc hs
 refine ⟨fun h0 => absurd (hr ▸ h0) hne, ?_⟩
 rw [hr]
 intro j hj
 obtain ⟨o, ho, hw, hd, hE⟩ := h j hj
 have hjr : j ∈ Region.ready .any ops listed.toArray := hr ▸ hj
 have hsz : j < listed.toArray.size := by rw [hc.size]; exact (Array.getElem?_eq_some_iff.1 ho).1
 have key : ∀ v W1 L1 I1, Inv C.w0 C.I0 C.L0 I1 L1 W1 → ((∀ W, Inv C.w0 C.I0 C.L0 I1 L1 W → S1 W) ∧ (late.contains j = true ∨ ∀ W, Inv C.w0 C.I0 C.L0 I1 L1 W → S W)) → (∃ listed', listed.toArray.setIfInBounds j true = listed'.toArray ∧ RAnyL P n C ops late S1 S k fuel listed' (V.put env o.dst v) L1 I1) →
   SL late S1 S (listed.toArray.setIfInBounds j true) W1 ∧ wpAnyL P .any ops (Qk P n C k) (SL late S1 S) fuel (listed.toArray.setIfInBounds j true) (a.put o.dst v) W1 := by
  intro v W1 L1 I1 hi1 hS ⟨listed', hl, hR⟩
  have hSL : SL late S1 S (listed.toArray.setIfInBounds j true) W1 := by
   refine ⟨hS.1 W1 hi1, ?_⟩
   rcases hS.2 with hS | hS
   ·intro hno
    have := hno j (List.contains_iff_mem.1 hS)
    simp only [Array.getD_eq_getD_getElem?, Array.getElem?_setIfInBounds_self_of_lt hsz, Option.getD_some] at this
    cases this
   ·exact fun _ => hS W1 hi1
  exact ⟨hSL, by rw [hl]; exact hR _ W1 (he.put hd) hi1 (by rw [← hl]; exact hc.set hjr) (by rw [← hl]; exact hSL)⟩
 unfold wpOp
 simp only [ho, want_spec he hw, if_true]
 refine .inl ?_
 unfold Oper.wp
 rcases hE a W he hi with ⟨v, W1, L1, I1, hr, hi1, hS, hR⟩ | ⟨f, args, hr, hcall⟩
 ·have hfin := key v W1 L1 I1 hi1 hS hR
  rcases hr with hr | ⟨hr, rfl⟩
  ·rw [hr]; exact hfin
  ·rw [hr]; exact hfin
 ·rw [hr]
  refine hcall.mono ?_
  rintro e W1 ⟨v, L1, I1, rfl, hi1, hS, hR⟩
  exact key v W1 L1 I1 hi1 hS hR
theorem RAnyL.on {listed : List Bool} {fuel : Nat} (j : Nat) {d : Nat} {op : Op} (listed' : List Bool) (hi : ops[j]? = some ⟨some d, op, ty, ps, af, g⟩) (ok : oneOk ops listed j listed' = true) (hw : want env ops g = some true) (hd : d < n)
  (h : Eff P n C env L I ⟨some d, op, ty, ps, af, g⟩ fun v L1 I1 => ((∀ W, Inv C.w0 C.I0 C.L0 I1 L1 W → S1 W) ∧ (late.contains j = true ∨ ∀ W, Inv C.w0 C.I0 C.L0 I1 L1 W → S W)) ∧ RAnyL P n C ops late S1 S k fuel listed' ((d, v) :: env) L1 I1) : RAnyL P n C ops late S1 S k (fuel + 1) listed env L I := by
 obtain ⟨hr, hl⟩ := one_spec' ok
 refine RAnyL.all [j] hr (by simp) fun j' hj => ?_
 obtain rfl : j' = j := by simpa using hj
 refine ⟨_, hi, hw, dOk hd, fun a W he hin => ?_⟩
 rcases h a W he hin with ⟨v, W1, L1, I1, h1, h2, h3, h4⟩ | ⟨f, args, h1, h2⟩
 ·exact .inl ⟨v, W1, L1, I1, h1, h2, h3, listed', hl, h4⟩
 ·exact .inr ⟨f, args, h1, h2.mono fun e W' ⟨v, L1, I1, q1, q2, q3, q4⟩ => ⟨v, L1, I1, q1, q2, q3, listed', hl, q4⟩⟩
theorem RAnyL.os {listed : List Bool} {fuel : Nat} (j : Nat) {op : Op} (listed' : List Bool) (hi : ops[j]? = some ⟨none, op, ty, ps, af, g⟩) (ok : oneOk ops listed j listed' = true) (hw : want env ops g = some true)
  (h : Eff P n C env L I ⟨none, op, ty, ps, af, g⟩ fun v L1 I1 => ((∀ W, Inv C.w0 C.I0 C.L0 I1 L1 W → S1 W) ∧ (late.contains j = true ∨ ∀ W, Inv C.w0 C.I0 C.L0 I1 L1 W → S W)) ∧ RAnyL P n C ops late S1 S k fuel listed' env L1 I1) : RAnyL P n C ops late S1 S k (fuel + 1) listed env L I := by
 obtain ⟨hr, hl⟩ := one_spec' ok
 refine RAnyL.all [j] hr (by simp) fun j' hj => ?_
 obtain rfl : j' = j := by simpa using hj
 refine ⟨_, hi, hw, dNo, fun a W he hin => ?_⟩
 rcases h a W he hin with ⟨v, W1, L1, I1, h1, h2, h3, h4⟩ | ⟨f, args, h1, h2⟩
 ·exact .inl ⟨v, W1, L1, I1, h1, h2, h3, listed', hl, h4⟩
 ·exact .inr ⟨f, args, h1, h2.mono fun e W' ⟨v, L1, I1, q1, q2, q3, q4⟩ => ⟨v, L1, I1, q1, q2, q3, listed', hl, q4⟩⟩
theorem RAnyL.two {listed : List Bool} {fuel : Nat} (i j : Nat) {d1 d2 : Nat} {op1 op2 : Op} {ty1 ty2 : TypeId} {ps1 ps2 : String} {af1 af2 : Array Edge} {g1 g2 : Option (Nat × Bool)} (l1 l2 : List Bool)
  (h1 : ops[i]? = some ⟨some d1, op1, ty1, ps1, af1, g1⟩) (h2 : ops[j]? = some ⟨some d2, op2, ty2, ps2, af2, g2⟩) (ok : twoOk ops listed i j l1 l2 = true) (w1 : want env ops g1 = some true) (w2 : want env ops g2 = some true) (hd1 : d1 < n) (hd2 : d2 < n)
  (e1 : Eff P n C env L I ⟨some d1, op1, ty1, ps1, af1, g1⟩ fun v L1 I1 => ((∀ W, Inv C.w0 C.I0 C.L0 I1 L1 W → S1 W) ∧ (late.contains i = true ∨ ∀ W, Inv C.w0 C.I0 C.L0 I1 L1 W → S W)) ∧ RAnyL P n C ops late S1 S k fuel l1 ((d1, v) :: env) L1 I1)
  (e2 : Eff P n C env L I ⟨some d2, op2, ty2, ps2, af2, g2⟩ fun v L1 I1 => ((∀ W, Inv C.w0 C.I0 C.L0 I1 L1 W → S1 W) ∧ (late.contains j = true ∨ ∀ W, Inv C.w0 C.I0 C.L0 I1 L1 W → S W)) ∧ RAnyL P n C ops late S1 S k fuel l2 ((d2, v) :: env) L1 I1) : RAnyL P n C ops late S1 S k (fuel + 1) listed env L I := by
 simp only [twoOk, Bool.and_eq_true, beq_iff_eq] at ok
 obtain ⟨⟨hr, hs1⟩, hs2⟩ := ok
 refine RAnyL.all [i, j] hr (by simp) fun q hq => ?_
 have hq' : q = i ∨ q = j := by simpa using hq
 rcases hq' with rfl | rfl
 ·refine ⟨_, h1, w1, dOk hd1, fun a W he hin => ?_⟩
  rcases e1 a W he hin with ⟨v, W1, L1, I1, q1, q2, q3, q4⟩ | ⟨f, args, q1, q2⟩
  ·exact .inl ⟨v, W1, L1, I1, q1, q2, q3, l1, by rw [← hs1]; simp, q4⟩
  ·exact .inr ⟨f, args, q1, q2.mono fun e W' ⟨v, L1, I1, p1, p2, p3, p4⟩ => ⟨v, L1, I1, p1, p2, p3, l1, by rw [← hs1]; simp, p4⟩⟩
 ·refine ⟨_, h2, w2, dOk hd2, fun a W he hin => ?_⟩
  rcases e2 a W he hin with ⟨v, W1, L1, I1, q1, q2, q3, q4⟩ | ⟨f, args, q1, q2⟩
  ·exact .inl ⟨v, W1, L1, I1, q1, q2, q3, l2, by rw [← hs2]; simp, q4⟩
  ·exact .inr ⟨f, args, q1, q2.mono fun e W' ⟨v, L1, I1, p1, p2, p3, p4⟩ => ⟨v, L1, I1, p1, p2, p3, l2, by rw [← hs2]; simp, p4⟩⟩
end
end Go.V
namespace Go.V
open Go.RowKit
section
variable {P : Program} {n : Nat} {C : Cx} {k : List Item} {env : Env} {L : Own} {I : Imm} {ops : Array Oper} {i : Nat} {l : List Oper} {S : World → Prop}
variable {ty : TypeId} {ps : String} {af : Array Edge} {g : Option (Nat × Bool)} {d : Nat}
def First (P : Program) (size q : Nat) (v : Value) (news : List Value) (W : World) : Prop := (Builtin.firstCells size q v).run P W = .ok news.toArray W
theorem First.sl {α : Type} {t : Ty α} {v : Value} {xs : List α} {q : Nat} (h : Sl t I v xs) (hq : q ≤ xs.length) : ∃ news, Cells t I news (xs.take q) ∧ ∀ W w0 I0 L0 L, Inv w0 I0 L0 I L W → First P t.size q v news W := by
 obtain ⟨A, c, rfl, hc, hrow⟩ := h
 rcases hrow with rfl | ⟨b, off, rfl, hrow⟩
 ·simp at hq
  subst hq
  refine ⟨[], Cells.nil t I, fun W w0 I0 L0 L hi => ?_⟩
  cases A with
  | none => rfl
  | some a =>
   have := run_loadCells_list (P := P) W a [] (fun j v h => by simp at h)
   unfold First
   simp only [Builtin.firstCells, Nat.zero_mul]
   exact this
 ·have hr2 : RowAt t I b off (xs.take q) := by
   have := hrow.cut 0 q
   simpa using this
  obtain ⟨news, hC, hA⟩ := hr2.cells
  refine ⟨news, hC, fun W w0 I0 L0 L hi => ?_⟩
  have hl : news.length = q * t.size := by rw [hC.flat_len, List.length_take, Nat.min_eq_left hq]
  have := run_loadCells_list (P := P) W ⟨b, off, none⟩ news (fun j v hv => by
   rw [add_off]
   rcases hA with h0 | hA
   ·have : q = 0 := by
     have := congrArg List.length h0
     rw [List.length_take, Nat.min_eq_left hq] at this; simpa using this
    rw [this, Nat.zero_mul] at hl
    rw [List.eq_nil_of_length_eq_zero hl] at hv; simp at hv
   ·exact hA.cell hi j v hv)
  unfold First
  simp only [Builtin.firstCells]
  rw [← hl]; exact this
theorem Run.pieceV {x : Code} (ks : List Nat) (vs : List Value) (d : Nat) (v : Value) (hv : ks.map (look env) = vs.map some) (h : ∀ k', Run P n C k' ((d, v) :: ks.zip vs) L I → Run P n C (.code x :: k') env L I)
  (next : Run P n C k ((d, v) :: ks.zip vs) L I) : Run P n C (.code x :: k) env L I := h k next
end
end Go.V
namespace Go.V
open Go.RowKit
set_option maxRecDepth 10000
attribute [local irreducible] Run Ops QD
theorem b64ix {n : Nat} (h : n < 64) : Value.int .u8 (((b64A.getD ((n : Nat) : Int).toNat 0).toNat : Nat) : Int) = w8 (b64c n) := by
 unfold b64c
 rw [Nat.mod_eq_of_lt h]; rfl
theorem and15 (a : Nat) : a &&& 15 = a % 16 := Nat.and_two_pow_sub_one_eq_mod a 4
end Go.V
namespace Go.V
open Go.Proofs.Tryz
open Go.RowKit
set_option maxRecDepth 10000
attribute [local irreducible] Run Ops QD
def Wy (I : Imm) (w : Bs) (o : Obj) : Prop := ∃ (v : Value) (ws : Bs) (k : Nat), o = blk [v, .int .i64 (k : Int)] 110 ∧ Sl tU8 I v ws ∧ k ≤ ws.length ∧ ws.drop k = w ∧ ws.length ≤ 2147483647
theorem Wy.mono {I J : Imm} {w : Bs} {o : Obj} (h : Wy I w o) (hle : Le I J) : Wy J w o := by
 obtain ⟨v, ws, k, h1, h2, h3⟩ := h
 exact ⟨v, ws, k, h1, h2.mono hle, h3⟩
set_option maxHeartbeats 1000000 in
theorem way_take (I : Imm) (w : Bs) (p n : Nat) (o : Obj) (hW : Wy I w o) (hn : 0 < n) (hn2 : n ≤ 4611686018427387904) :
  Spec prog 88 [.pointer (some ⟨p, 0, none⟩), .int .i64 (n : Int)] I [(p, o)] fun v J M => v = .int .i64 ((tk n w).1 : Int) ∧ ∃ o', M = [(p, o')] ∧ Wy J (tk n w).2 o' := by
 obtain ⟨v, ws, k, rfl, hS, hk, hd, hl⟩ := hW
 have hS0 := hS
 obtain ⟨A0, c0, rfl⟩ := hS.isSl
 refine Spec.enter 36 [(0, _), (1, _)] func88 rfl ntmps88 (by simp) rfl ?_
 intro C hCf hR hCI
 refine Run.seq ?_
 refine Run.regionO (D := [some 4]) [true] rfl rfl rfl (fun Z hZ => ?_)
 refine q1 dc rfl rfl ?_
 refine QD.nil (hZ _ ?_)
 clear hZ Z
 repeat refine Run.seq ?_
 refine Run.regionAny (Holds I [(p, blk [.slice A0 ws.length c0, .int .i64 (k : Int)] 110)]) (bl 10 0) (by kernel_rfl) (by kernel_rfl) ?_
 refine RAny.tk 0 (bl 10 1) rfl (by kernel_rfl) dc (fun W h => h.holds (Le.refl _) (by first | exact mp rfl | exact mq rfl)) (Yld.eval T rfl rfl) ?_
 refine RAny.tk 1 (bl 10 3) rfl (by kernel_rfl) dc (fun W h => h.holds (Le.refl _) (by first | exact mp rfl | exact mq rfl)) (Yld.eval T rfl rfl) ?_
 refine RAny.tk 2 (bl 10 7) rfl (by kernel_rfl) dc (fun W h => h.holds (Le.refl _) (by first | exact mp rfl | exact mq rfl)) (Yld.eval T rfl rfl) ?_
 refine RAny.tk 3 (bl 10 15) rfl (by kernel_rfl) dc (fun W h => h.holds (Le.refl _) (by first | exact mp rfl | exact mq rfl)) (Yld.load 0 T rfl rfl rfl rfl rfl) ?_
 refine RAny.tk 4 (bl 10 31) rfl (by kernel_rfl) dc (fun W h => h.holds (Le.refl _) (by first | exact mp rfl | exact mq rfl)) (Yld.eval T rfl rfl) ?_
 refine RAny.tk 5 (bl 10 63) rfl (by kernel_rfl) dc (fun W h => h.holds (Le.refl _) (by first | exact mp rfl | exact mq rfl)) (Yld.eval T rfl rfl) ?_
 refine RAny.tk 6 (bl 10 127) rfl (by kernel_rfl) dc (fun W h => h.holds (Le.refl _) (by first | exact mp rfl | exact mq rfl)) (Yld.eval T rfl rfl) ?_
 refine RAny.tk 7 (bl 10 255) rfl (by kernel_rfl) dc (fun W h => h.holds (Le.refl _) (by first | exact mp rfl | exact mq rfl)) (Yld.load 0 T rfl rfl rfl rfl rfl) ?_
 refine RAny.tk 8 (bl 10 511) rfl (by kernel_rfl) dc (fun W h => h.holds (Le.refl _) (by first | exact mp rfl | exact mq rfl)) (Yld.lenV T rfl rfl rfl) ?_
 skip
 by_cases hlt : k < ws.length
 ·obtain ⟨db, off, c, hRd⟩ := Rd.of hS (fun h => by rw [h] at hlt; simp at hlt)
  cases hRd.eq
  have hget : ws.drop k = ws[k] :: ws.drop (k + 1) := List.drop_eq_getElem_cons hlt
  rw [hget] at hd
  subst hd
  have hb := ws[k].toNat_lt
  have hat := hRd.at' k hlt
  rw [show ws.getD k 0 = ws[k] by rw [List.getD_eq_getElem?_getD, List.getElem?_eq_getElem hlt]; rfl] at hat
  refine RAny.tk 9 (bl 10 1023) rfl (by kernel_rfl) dc (fun W h => h.holds (Le.refl _) (by first | exact mp rfl | exact mq rfl)) (Yld.ev ((Ev.geq rfl rfl).as (show _ = Value.bool false from congrArg Value.bool (decide_eq_false (by omega)))) rfl) ?_
  refine RAny.done _ (by kernel_rfl) ?_
  repeat (first | refine Run.seq ?_ | refine Run.skip ?_ | refine Run.cond_f rfl ?_)
  refine Run.regionP (D := [some 15, some 16, some 17, some 18, some 19, some 20, some 21, none]) [true, true, true, true, true] 5 rfl rfl rfl (by simp only [List.drop_succ_cons, List.drop_zero]; rfl) (fun Z hZ => ?_)
  iterate 3 refine q1 dc rfl rfl ?_
  refine QD.yv dc rfl (Yv.load 0 T rfl rfl rfl rfl) ?_
  refine QD.e (Ev.addK (r := ((k + 1 : Nat) : Int)) rfl rfl (by rw [wI (by omega) (by omega)]; omega)) dc rfl ?_
  refine QD.nil (hZ _ ?_)
  clear hZ Z
  iterate 2 refine Ops.pure T rfl dc rfl ?_
  refine Ops.store 0 rfl rfl rfl rfl rfl (T.sizeOk rfl) rfl (Nat.le_of_ble_eq_true rfl) rfl rfl ?_
  refine Ops.nil ?_
  refine Run.seq ?_
  refine Run.regionAny (Holds I [(p, blk [.slice (some ⟨db, off, none⟩) ws.length c0, .int .i64 ((k + 1 : Nat) : Int)] 110)]) (bl 15 0) (by kernel_rfl) (by kernel_rfl) ?_
  refine RAny.tk 0 (bl 15 1) rfl (by kernel_rfl) dc (fun W h => h.holds (Le.refl _) (by first | exact mp rfl | exact mq rfl)) (Yld.eval T rfl rfl) ?_
  refine RAny.tk 1 (bl 15 3) rfl (by kernel_rfl) dc (fun W h => h.holds (Le.refl _) (by first | exact mp rfl | exact mq rfl)) (Yld.eval T rfl rfl) ?_
  refine RAny.tk 2 (bl 15 7) rfl (by kernel_rfl) dc (fun W h => h.holds (Le.refl _) (by first | exact mp rfl | exact mq rfl)) (Yld.eval T rfl rfl) ?_
  refine RAny.tk 3 (bl 15 15) rfl (by kernel_rfl) dc (fun W h => h.holds (Le.refl _) (by first | exact mp rfl | exact mq rfl)) (Yld.load 0 T rfl rfl rfl rfl rfl) ?_
  refine RAny.tk 4 (bl 15 31) rfl (by kernel_rfl) dc (fun W h => h.holds (Le.refl _) (by first | exact mp rfl | exact mq rfl)) (Yld.eval T rfl rfl) ?_
  refine RAny.tk 5 (bl 15 63) rfl (by kernel_rfl) dc (fun W h => h.holds (Le.refl _) (by first | exact mp rfl | exact mq rfl)) (Yld.eval T rfl rfl) ?_
  refine RAny.tk 6 (bl 15 127) rfl (by kernel_rfl) dc (fun W h => h.holds (Le.refl _) (by first | exact mp rfl | exact mq rfl)) (Yld.eval T rfl rfl) ?_
  refine RAny.tk 7 (bl 15 255) rfl (by kernel_rfl) dc (fun W h => h.holds (Le.refl _) (by first | exact mp rfl | exact mq rfl)) (Yld.load 0 T rfl rfl rfl rfl rfl) ?_
  refine RAny.tk 8 (bl 15 511) rfl (by kernel_rfl) dc (fun W h => h.holds (Le.refl _) (by first | exact mp rfl | exact mq rfl)) (Yld.ev (Ev.subK (r := (k : Int)) rfl rfl (by rw [wI (by omega) (by omega)]; omega)) rfl) ?_
  refine RAny.tk 9 (bl 15 1023) rfl (by kernel_rfl) dc (fun W h => h.holds (Le.refl _) (by first | exact mp rfl | exact mq rfl)) (Yld.indexSl (t := tU8) T rfl rfl rfl rfl rfl rfl (by omega) (by omega)) ?_
  refine RAny.tk 10 (bl 15 2047) rfl (by kernel_rfl) dc (fun W h => h.holds (Le.refl _) (by first | exact mp rfl | exact mq rfl)) (Yld.loadI T hat rfl rfl rfl) ?_
  refine RAny.tk 11 (bl 15 4095) rfl (by kernel_rfl) dc (fun W h => h.holds (Le.refl _) (by first | exact mp rfl | exact mq rfl)) (Yld.ev (Ev.conv (r := ((ws[k].toNat : Nat) : Int)) T rfl rfl rfl (wI (by omega) (by omega))) rfl) ?_
  refine RAny.tk 12 (bl 15 8191) rfl (by kernel_rfl) dc (fun W h => h.holds (Le.refl _) (by first | exact mp rfl | exact mq rfl)) (Yld.eval T rfl rfl) ?_
  refine RAny.tk 13 (bl 15 16383) rfl (by kernel_rfl) dc (fun W h => h.holds (Le.refl _) (by first | exact mp rfl | exact mq rfl)) (Yld.ev (Ev.remI (r := ((ws[k].toNat % n : Nat) : Int)) rfl rfl (by omega) (by rw [Int.tmod_eq_emod_of_nonneg (by omega)]; omega)) rfl) ?_
  refine RAny.tk 14 (bl 15 32767) rfl (by kernel_rfl) dc (fun W h => h.holds (Le.refl _) (by first | exact mp rfl | exact mq rfl)) (Yld.eval T rfl rfl) ?_
  refine RAny.done _ (by kernel_rfl) ?_
  skip
  refine Run.ret1 (by rw [hCf]; exact func88) results88 rfl (hR _ _ _ ?_)
  exact ⟨rfl, _, rfl, _, ws, k + 1, rfl, hS0, by omega, rfl, hl⟩
 ·skip
  skip
  have hk' : k = ws.length := by omega
  have hd' : w = [] := by rw [← hd, hk', List.drop_length]
  subst hd'
  refine RAny.tk 9 (bl 10 1023) rfl (by kernel_rfl) dc (fun W h => h.holds (Le.refl _) (by first | exact mp rfl | exact mq rfl)) (Yld.ev ((Ev.geq rfl rfl).as (show _ = Value.bool true from congrArg Value.bool (decide_eq_true (by omega)))) rfl) ?_
  refine RAny.done _ (by kernel_rfl) ?_
  repeat (first | refine Run.seq ?_ | refine Run.cond_t rfl ?_)
  refine Run.regionO (D := [some 4]) [true] rfl rfl rfl (fun Z hZ => ?_)
  refine q1 dc rfl rfl ?_
  refine QD.nil (hZ _ ?_)
  clear hZ Z
  skip
  refine Run.ret1 (by rw [hCf]; exact func88) results88 rfl (hR _ _ _ ?_)
  exact ⟨rfl, _, rfl, _, ws, k, rfl, hS0, hk, hd, hl⟩
end Go.V
namespace Go.V
open Go.RowKit
set_option maxRecDepth 10000
attribute [local irreducible] Run Ops QD
section
variable {P : Program} {I : Imm} {L : Own} {n : Nat} {C : Cx} {env : Env} {ops : Array Oper} {ty : TypeId} {ps : String} {af : Array Edge} {g : Option (Nat × Bool)} {d : Nat}
theorem Eff.appLit {s x : Operand} {ts e : TypeId} {b q c : Nat} {M N : Own} {v : Value} {xs : List UInt8} {news : List Value} {K : Value → Own → Imm → Prop} (ys : List UInt8) (hE : Bt P ts e) (hG : Buf e v xs M) (hs : opnd env s = some v) (hx : opnd env x = some (.slice (some ⟨b, 0, none⟩) q c))
  (hL : L = (b, blk news e) :: (N ++ M)) (hn : news = wb ys) (hq : ys.length = q) (hbytes : 2 * (xs.length + ys.length) + 512 ≤ 281474976710656)
  (next : ∀ v' M', Buf e v' (xs ++ ys) M' → K v' (N ++ M') I) : Eff P n C env L I ⟨some d, .call ⟨.builtin .append, #[s, x], #[ts, ts]⟩, ty, ps, af, g⟩ K := by
 subst hL; subst hn; subst hq
 intro a W he hi
 have hp : ((b, blk (wb ys) e) :: (N ++ M)).Perm (M ++ ((b, blk (wb ys) e) :: N)) := (List.Perm.cons _ List.perm_append_comm).trans List.perm_middle.symm
 have hsrc := src_own (P := P) (ts := ts) (pre := []) (post := []) (ys := ys) (b := b) (c := c) (e' := e) hE.el.under hi (by simp)
 simp only [List.length_nil] at hsrc
 obtain ⟨v', W', M', hr, hG', hi'⟩ := run_append_buf (P := P) (ty := ty) hE.el hE.zero (hi.perm hp) hG hsrc hbytes (by omega)
 refine .inl ⟨v', W', N ++ M', I, .inl ?_, ?_, next v' M' hG'⟩
 ·simp [execOp, resolve, Go.invoke, builtin, eval_opnd he hs, eval_opnd he hx, hr]
 ·exact (hi'.perm List.perm_append_comm).weakenL (List.Sublist.append_right (List.sublist_cons_self _ _) _)
end
def hexTJ : Bs := [48, 49, 50, 51, 52, 53, 54, 55, 56, 57, 97, 98, 99, 100, 101, 102]
theorem hexT_fin : ∀ k : Fin 16, hexTJ.getD k.val 0 = hexD k.val := by decide
theorem hexV16 {n : Nat} (h : n < 16) : Value.int .u8 (((hexTJ.getD ((n : Nat) : Int).toNat 0).toNat : Nat) : Int) = w8 (hexD n) := by
 rw [Int.toNat_natCast, hexT_fin ⟨n, h⟩]
theorem hexD_mod (n : Nat) : hexD (n % 16) = hexD n := by unfold hexD; simp
theorem quo1_len {c : Nat} (g : goodR c) : (quo1 c).length ≤ 6 := by
 have h := encR_pos c
 unfold quo1 hexes
 repeat' split
 all_goals simp <;> omega
theorem flat_len : ∀ (rs : List Nat), (∀ r ∈ rs, goodR r) → (rs.flatMap quo1).length ≤ 6 * rs.length
 | [], _ => by simp
 | r :: rs, h => by
  have := flat_len rs fun x hx => h x (by simp [hx])
  have := quo1_len (h r (by simp))
  simp only [List.flatMap_cons, List.length_append, List.length_cons]; omega
end Go.V
namespace Go.V
open Go.Proofs.Tryz
open Go.RowKit
set_option maxRecDepth 10000
attribute [local irreducible] Run Ops QD
theorem way_blank (I : Imm) (w : Bs) (p : Nat) (o : Obj) (hW : Wy I w o) :
  Spec prog 86 [.pointer (some ⟨p, 0, none⟩)] I [(p, o)] fun v J M => v = str (blk5 w).1 ∧ ∃ o', M = [(p, o')] ∧ Wy J (blk5 w).2 o' := by
 have h5 : (tk 5 w).1 < 5 := by
  cases w with
  | nil => exact Nat.zero_lt_succ _
  | cons b t => exact Nat.mod_lt _ (by decide)
 refine Spec.enter 8 [(0, _)] func86 rfl ntmps86 (by simp) rfl ?_
 intro C hCf hR hCI
 refine Run.seq ?_
 refine Run.regionO (D := [some 2]) [true] rfl rfl rfl (fun Z hZ => ?_)
 refine q1 dc rfl rfl ?_
 refine QD.nil (hZ _ ?_)
 clear hZ Z
 refine Run.seq ?_
 refine Run.region ?_
 refine Ops.lit T rfl rfl rfl dc rfl dc dc rfl rfl rfl rfl rfl (fun bq => ?_)
 refine Ops.freezeAt 0 rfl rfl fun J1 l1 hJ1 => ?_
 have hS : Sl tStr J1 (.slice (some ⟨bq, 0, none⟩) 5 5) blks := Sl.ofBlock hJ1 (Cells.strs blks) rfl (Nat.le_refl _)
 refine Ops.pure T rfl dc rfl ?_
 refine Ops.callP (N := []) ((way_take J1 w p 5 o (hW.mono l1) dc dc)) (.refl _) rfl dc call88 rfl ?_
 rintro v J2 M2 l2 ⟨rfl, o', rfl, hW'⟩
 refine Ops.indexSl (j := ((tk 5 w).1 : Int)) (hS.mono l2) rfl dc rfl rfl (T.undOk rfl) (T.sizeOk rfl) (by omega) (by show _ < (5 : Int); omega) fun bb off q cs hq hr hA => ?_
 obtain rfl : cs = [str q] := hr
 rw [Int.toNat_natCast] at hq
 have he : (blk5 w).1 = q := by unfold blk5; rw [List.getD_eq_getElem?_getD, hq]; rfl
 refine Ops.loadI rfl dc rfl hA (T.aggOk rfl) ?_
 refine Ops.pure T rfl dc rfl ?_
 refine Ops.nil ?_
 skip
 refine Run.ret1 (by rw [hCf]; exact func86) results86 rfl (hR _ _ _ ?_)
 exact ⟨by rw [he], o', rfl, hW'⟩
set_option maxHeartbeats 1000000 in
theorem spec_hexes (I : Imm) (x : Nat) (hx : x < 1114112) : Pure prog 124 [.int .i32 (x : Int)] I fun w J => w = str (hexes x) := by
 have e : hexes x = [hexD (x / 2 ^ 12 % 16), hexD (x / 2 ^ 8 % 16), hexD (x / 2 ^ 4 % 16), hexD (x % 16)] := by
  rw [hexD_mod, hexD_mod, hexD_mod, hexD_mod]; rfl
 refine Spec.enter 25 [(0, _)] func124 rfl ntmps124 (by simp) rfl ?_
 intro C hCf hR hCI
 refine Run.seq ?_
 refine Run.regionO (D := [some 2]) [true] rfl rfl rfl (fun Z hZ => ?_)
 refine q1 dc rfl rfl ?_
 refine QD.nil (hZ _ ?_)
 clear hZ Z
 refine Run.seq ?_
 refine Run.regionO (D := [some 3]) [true] rfl rfl rfl (fun Z hZ => ?_)
 refine q1 dc rfl rfl ?_
 refine QD.nil (hZ _ ?_)
 clear hZ Z
 refine Run.seq ?_
 refine Run.regionAny (fun _ => True) (bl 22 0) (by kernel_rfl) (by kernel_rfl) ?_
 refine RAny.tk 0 (bl 22 1) rfl (by kernel_rfl) dc (fun _ _ => trivial) (Yld.eval T rfl rfl) ?_
 refine RAny.tk 1 (bl 22 3) rfl (by kernel_rfl) dc (fun _ _ => trivial) (Yld.eval T rfl rfl) ?_
 refine RAny.tk 2 (bl 22 7) rfl (by kernel_rfl) dc (fun _ _ => trivial) (Yld.ev (Ev.shrK rfl rfl dc dc (shrL x 12)) rfl) ?_
 refine RAny.tk 3 (bl 22 15) rfl (by kernel_rfl) dc (fun _ _ => trivial) (Yld.ev (Ev.andK (a := x / 2 ^ 12) (b := 15) (c := x / 2 ^ 12 % 16) rfl rfl (by show _ < 4294967296; omega) dc (and15 _) (wrapI32 (by omega) (by omega))) rfl) ?_
 refine RAny.tk 4 (bl 22 31) rfl (by kernel_rfl) dc (fun _ _ => trivial) (Yld.ev ((Ev.indexT (s := hexTJ) T rfl rfl rfl (by omega) (by show _ < (16 : Int); omega)).as (hexV16 (n := x / 2 ^ 12 % 16) (by omega))) rfl) ?_
 refine RAny.tk 5 (bl 22 63) rfl (by kernel_rfl) dc (fun _ _ => trivial) (Yld.eval T rfl rfl) ?_
 refine RAny.tk 6 (bl 22 127) rfl (by kernel_rfl) dc (fun _ _ => trivial) (Yld.eval T rfl rfl) ?_
 refine RAny.tk 7 (bl 22 255) rfl (by kernel_rfl) dc (fun _ _ => trivial) (Yld.ev (Ev.shrK rfl rfl dc dc (shrL x 8)) rfl) ?_
 refine RAny.tk 8 (bl 22 511) rfl (by kernel_rfl) dc (fun _ _ => trivial) (Yld.ev (Ev.andK (a := x / 2 ^ 8) (b := 15) (c := x / 2 ^ 8 % 16) rfl rfl (by show _ < 4294967296; omega) dc (and15 _) (wrapI32 (by omega) (by omega))) rfl) ?_
 refine RAny.tk 9 (bl 22 1023) rfl (by kernel_rfl) dc (fun _ _ => trivial) (Yld.ev ((Ev.indexT (s := hexTJ) T rfl rfl rfl (by omega) (by show _ < (16 : Int); omega)).as (hexV16 (n := x / 2 ^ 8 % 16) (by omega))) rfl) ?_
 refine RAny.tk 10 (bl 22 2047) rfl (by kernel_rfl) dc (fun _ _ => trivial) (Yld.eval T rfl rfl) ?_
 refine RAny.tk 11 (bl 22 4095) rfl (by kernel_rfl) dc (fun _ _ => trivial) (Yld.eval T rfl rfl) ?_
 refine RAny.tk 12 (bl 22 8191) rfl (by kernel_rfl) dc (fun _ _ => trivial) (Yld.ev (Ev.shrK rfl rfl dc dc (shrL x 4)) rfl) ?_
 refine RAny.tk 13 (bl 22 16383) rfl (by kernel_rfl) dc (fun _ _ => trivial) (Yld.ev (Ev.andK (a := x / 2 ^ 4) (b := 15) (c := x / 2 ^ 4 % 16) rfl rfl (by show _ < 4294967296; omega) dc (and15 _) (wrapI32 (by omega) (by omega))) rfl) ?_
 refine RAny.tk 14 (bl 22 32767) rfl (by kernel_rfl) dc (fun _ _ => trivial) (Yld.ev ((Ev.indexT (s := hexTJ) T rfl rfl rfl (by omega) (by show _ < (16 : Int); omega)).as (hexV16 (n := x / 2 ^ 4 % 16) (by omega))) rfl) ?_
 refine RAny.tk 15 (bl 22 65535) rfl (by kernel_rfl) dc (fun _ _ => trivial) (Yld.eval T rfl rfl) ?_
 refine RAny.tk 16 (bl 22 131071) rfl (by kernel_rfl) dc (fun _ _ => trivial) (Yld.eval T rfl rfl) ?_
 refine RAny.tk 17 (bl 22 262143) rfl (by kernel_rfl) dc (fun _ _ => trivial) (Yld.ev (Ev.andK (a := x) (b := 15) (c := x % 16) rfl rfl (by show _ < 4294967296; omega) dc (and15 _) (wrapI32 (by omega) (by omega))) rfl) ?_
 refine RAny.tk 18 (bl 22 524287) rfl (by kernel_rfl) dc (fun _ _ => trivial) (Yld.ev ((Ev.indexT (s := hexTJ) T rfl rfl rfl (by omega) (by show _ < (16 : Int); omega)).as (hexV16 (n := x % 16) (by omega))) rfl) ?_
 refine RAny.on 19 (bl 22 1048575) rfl (by kernel_rfl) rfl dc (Eff.lit T rfl rfl rfl dc dc rfl rfl rfl rfl rfl fun bq => ⟨fun _ _ => trivial, ?_⟩)
 refine RAny.on 20 (bl 22 2097151) rfl (by kernel_rfl) rfl dc (Eff.yv (Yv.bytesBuf (xs := hexes x) (N := [(bq, blk ([] ++ wb (hexes x) ++ []) 5)]) T (.inr ⟨bq, [], [], 4, rfl, rfl, by rw [e]; simp, by rw [e]; simp⟩) (fun _ h => by rw [List.mem_singleton.1 h, e]; exact List.mem_singleton.2 rfl) rfl rfl rfl rfl) ⟨fun _ _ => trivial, ?_⟩)
 refine RAny.tk 21 (bl 22 4194303) rfl (by kernel_rfl) dc (fun _ _ => trivial) (Yld.eval T rfl rfl) ?_
 refine RAny.done _ (by kernel_rfl) ?_
 skip
 refine Run.fin (Run.ret1 (by rw [hCf]; exact func124) results124 rfl (hR _ _ _ ?_))
 exact ⟨rfl, rfl⟩
end Go.V
namespace Go.V
open Go.RowKit
set_option maxRecDepth 10000
attribute [local irreducible] Run Ops QD
theorem ba_sizeJ (s : Bs) : (ba s).size = s.length := str_size s
theorem getD_drop0 (s : Bs) (p k : Nat) : (s.drop p).getD k 0 = s.getD (p + k) 0 := by rw [List.getD_eq_getElem?_getD, List.getD_eq_getElem?_getD, List.getElem?_drop]
theorem runeAt_drop (s : Bs) (p : Nat) : runeAt s p = runeAt (s.drop p) 0 := by
 have e : ∀ k, (0 + k < (s.drop p).length) = (p + k < s.length) := fun k => propext (by rw [List.length_drop]; omega)
 unfold runeAt Utf8.decode
 simp only [Nat.add_zero, ba_get, ba_sizeJ, getD_drop0, Nat.zero_add] at e ⊢
 simp only [e]
theorem runeAt_mid {c : Nat} (g : goodR c) (a t : Bs) : runeAt (a ++ (encR (c : Int) ++ t)) a.length = (c, (encR (c : Int)).length) := by
 rw [runeAt_drop, List.drop_left]; exact runeAt_enc g t
theorem Ev.convRune {P : Program} {n : Nat} {env : Env} {x : Operand} {src dst : TypeId} {kd : IntKind} {r : Int} (T : Tab P) (hs : T.und src = some (.int kd)) (ht : T.und dst = some .string) (hx : opnd env x = some (.int kd r)) : Ev P n env (.convert src dst x) (str (encR r)) :=
 fun a W he _ _ _ _ _ => by
  simp [execOp, eval_opnd he hx, convert, T.undOk hs, T.undOk ht, Conv.intToString, encR_str]
end Go.V
