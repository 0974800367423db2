import Derived.Test.YtcegjgmmbbojdaaGreatDoorAW
import Derived.Test.YtcegjgmmbbojdaaGreatDoorAM5
import Derived.Test.YtcegjgmmbbojdaaGreatDoorAM7
import Derived.Lib.ParseIntB
set_option linter.unusedVariables false
set_option linter.unusedSimpArgs false
namespace Go.V
open Go.Proofs.Tryz
open Go.RowKit
set_option maxRecDepth 10000
attribute [local irreducible] Run Ops QD
theorem b64iy {n : Nat} (h : n < 64) : Value.int .u8 (((b64A.getD ((n : Nat) : Int).toNat 0).toNat : Nat) : Int) = w8 (b64c n) := b64ix h
theorem b64c_enc (n : Nat) : encR (((b64c n).toNat : Nat) : Int) = [b64c n] := by
 have h := b64c_asc n
 rw [encR_ascii _ (by omega) (by omega)]; simp
def bt (r : Bs) (j : Nat) : Nat := (r.getD j 0).toNat
def sx (r : Bs) (j : Nat) : Nat := match j with
 | 0 => bt r 0 / 4
 | 1 => bt r 0 % 4 * 16 + bt r 1 / 16
 | 2 => bt r 1 % 16 * 4 + bt r 2 / 64
 | _ => bt r 2 % 64
theorem bt_lt (r : Bs) (j : Nat) : bt r j < 256 := UInt8.toNat_lt _
theorem bt_no {r : Bs} {j : Nat} (h : r.length <= j) : bt r j = 0 := by
 unfold bt
 rw [List.getD_eq_getElem?_getD, List.getElem?_eq_none h]; rfl
theorem sx_lt (r : Bs) (j : Nat) : sx r j < 64 := by
 have h0 := bt_lt r 0
 have h1 := bt_lt r 1
 have h2 := bt_lt r 2
 match j with
 | 0 => show bt r 0 / 4 < 64; omega
 | 1 => show bt r 0 % 4 * 16 + bt r 1 / 16 < 64; omega
 | 2 => show bt r 1 % 16 * 4 + bt r 2 / 64 < 64; omega
 | n + 3 => show bt r 2 % 64 < 64; omega
theorem sx_no {r : Bs} {j : Nat} (h : r.length < j) (h0 : r ≠ []) (hj : j < 4) : sx r j = 0 := by
 have hl := List.length_pos_iff.2 h0
 match j, hj with
 | 0, _ => omega
 | 1, _ => omega
 | 2, _ => show bt r 1 % 16 * 4 + bt r 2 / 64 = 0; rw [bt_no (by omega : r.length <= 1), bt_no (by omega : r.length <= 2)]
 | 3, _ => show bt r 2 % 64 = 0; rw [bt_no (by omega : r.length <= 2)]
theorem b64_at {r : Bs} {j : Nat} (h0 : r ≠ []) (hj : j < 4) : (b64 r).getD j 0 = if j <= r.length then b64c (sx r j) else 61 := by
 match r, h0, j, hj with
 | [a], _, 0, _ => rfl
 | [a], _, 1, _ =>
  show b64c (a.toNat % 4 * 16) = b64c (a.toNat % 4 * 16 + 0 / 16)
  rw [Nat.zero_div, Nat.add_zero]
 | [a], _, 2, _ => rfl
 | [a], _, 3, _ => rfl
 | [a, b], _, 0, _ => rfl
 | [a, b], _, 1, _ => rfl
 | [a, b], _, 2, _ =>
  show b64c (b.toNat % 16 * 4) = b64c (b.toNat % 16 * 4 + 0 / 64)
  rw [Nat.zero_div, Nat.add_zero]
 | [a, b], _, 3, _ => rfl
 | a :: b :: c :: t, _, 0, _ => rfl
 | a :: b :: c :: t, _, 1, _ => rfl
 | a :: b :: c :: t, _, 2, _ => rfl
 | a :: b :: c :: t, _, 3, _ => rfl
def acc (r : Bs) : Nat -> Nat
 | 0 => 0
 | n + 1 => acc r n * 256 + bt r n
theorem acc_lt2 (r : Bs) {i : Nat} (h : i <= 2) : acc r i < 65536 := by
 have h0 := bt_lt r 0
 have h1 := bt_lt r 1
 match i, h with
 | 0, _ => exact Nat.lt_of_le_of_lt (Nat.le_refl 0) (by decide)
 | 1, _ => show 0 * 256 + bt r 0 < 65536; omega
 | 2, _ => show (0 * 256 + bt r 0) * 256 + bt r 1 < 65536; omega
theorem acc_sx (r : Bs) {j : Nat} (h : j < 4) : acc r 3 / 2 ^ (18 - 6 * j) % 64 = sx r j := by
 have h0 := bt_lt r 0
 have h1 := bt_lt r 1
 have h2 := bt_lt r 2
 have e : acc r 3 = ((0 * 256 + bt r 0) * 256 + bt r 1) * 256 + bt r 2 := rfl
 rw [e]
 match j, h with
 | 0, _ => show _ / 262144 % 64 = bt r 0 / 4; omega
 | 1, _ => show _ / 4096 % 64 = bt r 0 % 4 * 16 + bt r 1 / 16; omega
 | 2, _ => show _ / 64 % 64 = bt r 1 % 16 * 4 + bt r 2 / 64; omega
 | 3, _ => show _ / 1 % 64 = bt r 2 % 64; omega
theorem b64_four {r : Bs} (h : r ≠ []) : 4 <= (b64 r).length := by
 have := b64_len r
 have := List.length_pos_iff.2 h
 omega
theorem b64_take {r : Bs} {j : Nat} (h : r ≠ []) (hj : j < 4) : (b64 r).take (j + 1) = (b64 r).take j ++ [if j <= r.length then b64c (sx r j) else 61] := by
 have h4 := b64_four h
 have hl : j < (b64 r).length := by omega
 rw [<- b64_at h hj, List.take_succ_eq_append_getElem hl, List.getD_eq_getElem?_getD, List.getElem?_eq_getElem hl]; rfl
theorem b64_step {r : Bs} (h : r ≠ []) : b64 r = (b64 r).take 4 ++ b64 (r.drop 3) := by
 match r, h with
 | [a], _ => rfl
 | [a, b], _ => rfl
 | a :: b :: c :: t, _ => rfl
set_option maxHeartbeats 4000000 in
theorem spec_base64 (I : Imm) (s : Bs) (hl : s.length <= 1099511627776) : Pure prog 40 [str s] I fun w J => w = str (b64 s) := by
 have hbl := b64_len s
 refine Spec.enter 59 [(0, _)] func40 rfl ntmps40 (by simp) rfl ?_
 intro C hCf hR hCI
 refine rS ?_
 refine rO (fun Z hZ => (eE rfl (zN hZ ((rS (rO (fun Z hZ => (eE rfl (zN hZ ((rS (rO (fun Z hZ => (eE rfl (zN hZ ?_)))))))))))))))
 repeat refine rS ?_
 refine rO (fun Z hZ => (eE rfl (zN hZ ((rB (Run.keep [0, 3, 4, 5] [_, _, _, _] rfl (Run.rounds (fun m env L J => ∃ (at0 : Nat) (rest out : Bs), m = rest.length /\ s.drop at0 = rest /\ out ++ b64 rest = b64 s /\ at0 <= s.length + 2 /\ env = [(0, str s), (3, str b64A), (4, str out), (5, .int .i64 (at0 : Int))] /\ L = [] /\ I = J) s.length ⟨0, s, [], rfl, rfl, rfl, by omega, rfl, rfl, rfl⟩ ?_)))))))
 rintro m env L J ⟨at0, rest, out, rfl, hd, hout, hat, rfl, rfl, rfl⟩ ih
 have hdl := congrArg List.length hd
 rw [List.length_drop] at hdl
 have hol := congrArg List.length hout
 rw [List.length_append] at hol
 repeat refine rS ?_
 by_cases hr : rest = []
 ·subst hr
  simp only [List.length_nil] at hdl
  refine rO (fun Z hZ => (eE rfl (eE rfl (fE (Ev.lenS T rfl rfl) (kF (Ev.lss rfl rfl) (by omega) (zN hZ ?_))))))
  repeat (first | refine rS ?_ | refine rK ?_ | refine rB ?_ | refine rI ?_ | refine Run.exit rfl ?_ | refine rT rfl ?_ | refine rF rfl ?_)
  refine rO (fun Z hZ => (eE rfl (eE rfl (zN hZ ?_))))
  skip
  refine Run.fin (Run.ret1 (by rw [hCf]; exact func40) results40 rfl (hR _ _ _ ?_))
  exact ⟨rfl, by rw [<- hout]; simp [b64]⟩
 have hrl := List.length_pos_iff.2 hr
 have h4 := b64_four hr
 obtain ⟨kk, hkk⟩ : ∃ kk, kk = min 3 rest.length := ⟨_, rfl⟩
 have ha3 : acc rest 3 < 16777216 := by
  have := acc_lt2 rest (Nat.le_refl 2)
  have := bt_lt rest 2
  show acc rest 2 * 256 + bt rest 2 < _; omega
 refine rO (fun Z hZ => (eE rfl (eE rfl (fE (Ev.lenS T rfl rfl) (kT (Ev.lss rfl rfl) (by omega) (zN hZ ?_))))))
 repeat (first | refine rS ?_ | refine rK ?_ | refine rB ?_ | refine rT rfl ?_)
 refine rO (fun Z hZ => (eE rfl (fE (Ev.lenS T rfl rfl) (eE rfl (fE (Ev.subK (r := ((s.length - at0 : Nat) : Int)) rfl rfl (by rw [wI (by omega) (by omega)]; omega)) (fE ((Ev.min2 rfl rfl).as (show _ = Value.int .i64 ((kk : Nat) : Int) from congrArg (Value.int .i64) (by split <;> omega))) (eE rfl (eE rfl (zN hZ ?_)))))))))
 repeat refine rS ?_
 refine rO (fun Z hZ => (eE rfl (zN hZ ((rB (Run.keep [0, 3, 4, 5, 6, 7, 21] [_, _, _, _, _, _, _] rfl (Run.rounds (fun m env L J => ∃ i : Nat, m = 3 - i /\ i <= 3 /\ env = [(0, str s), (3, str b64A), (4, str out), (5, .int .i64 (at0 : Int)), (6, .int .i64 (acc rest i : Int)), (7, .int .i64 (kk : Int)), (21, .int .i64 (i : Int))] /\ L = [] /\ I = J) 3 ⟨0, rfl, by omega, rfl, rfl, rfl⟩ ?_)))))))
 rintro m env L J ⟨i, rfl, hi, rfl, rfl, rfl⟩ ih2
 refine rS ?_
 by_cases hi3 : i < 3
 ·have ha := acc_lt2 rest (show i <= 2 by omega)
  have hb := bt_lt rest i
  refine rO (fun Z hZ => (kT (Ev.lss rfl rfl) (by omega) (zN hZ ?_)))
  repeat (first | refine rS ?_ | refine rK ?_ | refine rB ?_ | refine rT rfl ?_)
  refine rO (fun Z hZ => (eE rfl (eE rfl (zN hZ ((rS (rO (fun Z hZ => (eE rfl (fE (Ev.shlK (r := ((acc rest i * 256 : Nat) : Int)) rfl rfl dc dc (by show IntKind.i64.wrap (((acc rest i : Nat) : Int) * 256) = _; rw [wI (by omega) (by omega)]; omega)) (eE rfl (zN hZ ((rS ?_))))))))))))))
  by_cases hk : i < kk
  ·have hg : (s.getD (at0 + i) 0).toNat = bt rest i := by
    unfold bt
    rw [<- hd, List.getD_eq_getElem?_getD, List.getD_eq_getElem?_getD, List.getElem?_drop]
   refine rO (fun Z hZ => (eE rfl (eE rfl (kT (Ev.lss rfl rfl) (by omega) (zN hZ ((rT rfl (rO (fun Z hZ => ?_)))))))))
   iterate 4 refine eE rfl ?_
   refine fE (Ev.addK (r := ((at0 + i : Nat) : Int)) rfl rfl (by rw [wI (by omega) (by omega)]; omega)) (fE ((Ev.indexT (s := s) T rfl rfl rfl (by omega) (by omega)).as (show _ = Value.int .u8 ((bt rest i : Nat) : Int) from by show Value.int .u8 (((s.getD _ 0).toNat : Nat) : Int) = _; rw [Int.toNat_natCast, hg])) (fE (Ev.conv (r := ((bt rest i : Nat) : Int)) T rfl rfl rfl (wI (by omega) (by omega))) (fE (Ev.orK (a := acc rest i * 256) (b := bt rest i) (c := acc rest (i + 1)) rfl rfl (by show _ < 18446744073709551616; omega) (by show _ < 18446744073709551616; omega) (by rw [show acc rest i * 256 = acc rest i * 2 ^ 8 from rfl, orSh 8 (by omega)]; rfl) (wI (by omega) (by show ((acc rest i * 256 + bt rest i : Nat) : Int) <= _; omega))) (eE rfl (zN hZ ((rI (rO (fun Z hZ => (fE (Ev.addK (r := ((i + 1 : Nat) : Int)) rfl rfl (by rw [wI (by omega) (by omega)]; omega)) (eE rfl (zN hZ ?_))))))))))))
   skip
   refine Run.keep [0, 3, 4, 5, 6, 7, 21] [_, _, _, _, _, _, _] rfl ?_
   exact ih2 (3 - (i + 1)) _ _ _ (by omega) ⟨i + 1, rfl, by omega, rfl, rfl, rfl⟩
  ·have h0 : acc rest (i + 1) = acc rest i * 256 := by
    show acc rest i * 256 + bt rest i = _
    rw [bt_no (by omega), Nat.add_zero]
   refine rO (fun Z hZ => (eE rfl (eE rfl (kF (Ev.lss rfl rfl) (by omega) (zN hZ ?_)))))
   repeat (first | refine rS ?_ | refine rK ?_ | refine rB ?_ | refine rI ?_ | refine Run.exit rfl ?_ | refine rT rfl ?_ | refine rF rfl ?_)
   refine rO (fun Z hZ => (fE (Ev.addK (r := ((i + 1 : Nat) : Int)) rfl rfl (by rw [wI (by omega) (by omega)]; omega)) (eE rfl (zN hZ ?_))))
   skip
   refine Run.keep [0, 3, 4, 5, 6, 7, 21] [_, _, _, _, _, _, _] rfl ?_
   exact ih2 (3 - (i + 1)) _ _ _ (by omega) ⟨i + 1, rfl, by omega, by rw [h0]; rfl, rfl, rfl⟩
 obtain rfl : i = 3 := by omega
 refine rO (fun Z hZ => (fE (Ev.lss rfl rfl) (zN hZ ?_)))
 repeat (first | refine rS ?_ | refine rK ?_ | refine rB ?_ | refine rI ?_ | refine Run.exit rfl ?_ | refine rT rfl ?_ | refine rF rfl ?_)
 refine rO (fun Z hZ => (eE rfl (zN hZ ((rB (Run.keep [0, 3, 4, 5, 6, 7, 38] [_, _, _, _, _, _, _] rfl ?_))))))
 clear ih2
 refine Run.rounds (fun m env L J => ∃ j : Nat, m = 4 - j /\ j <= 4 /\ env = [(0, str s), (3, str b64A), (4, str (out ++ (b64 rest).take j)), (5, .int .i64 (at0 : Int)), (6, .int .i64 (acc rest 3 : Int)), (7, .int .i64 (kk : Int)), (38, .int .i64 (j : Int))] /\ L = [] /\ I = J) 4 ⟨0, rfl, by omega, by rw [List.take_zero, List.append_nil]; rfl, rfl, rfl⟩ ?_
 rintro m env L J ⟨j, rfl, hj, rfl, rfl, rfl⟩ ih3
 have hjl : (out ++ (b64 rest).take j).length <= 4000000000000 := by
  rw [List.length_append, List.length_take]; omega
 refine rS ?_
 by_cases hj4 : j < 4
 ·have htk := b64_take hr hj4
  refine rO (fun Z hZ => (kT (Ev.lss rfl rfl) (by omega) (zN hZ ?_)))
  repeat (first | refine rS ?_ | refine rK ?_ | refine rB ?_ | refine rT rfl ?_)
  refine rO (fun Z hZ => (eE rfl (eE rfl (zN hZ ?_))))
  repeat refine rS ?_
  by_cases hs : j <= rest.length
  ·rw [if_pos hs] at htk
   have hs6 := sx_lt rest j
   refine rO (fun Z hZ => (eE rfl (eE rfl (kF (Ev.gtr rfl rfl) (by omega) (zN hZ ?_)))))
   repeat (first | refine rS ?_ | refine rK ?_ | refine rB ?_ | refine rI ?_ | refine Run.exit rfl ?_ | refine rT rfl ?_ | refine rF rfl ?_)
   refine rO (fun Z hZ => ?_)
   iterate 4 refine eE rfl ?_
   refine fE (Ev.mulK (r := ((6 * j : Nat) : Int)) rfl rfl (by rw [wI (by omega) (by omega)]; omega)) (fE (Ev.subK (r := ((18 - 6 * j : Nat) : Int)) rfl rfl (by rw [wI (by omega) (by omega)]; omega)) (fE (Ev.shrK (r := ((acc rest 3 / 2 ^ (18 - 6 * j) : Nat) : Int)) rfl rfl (by omega) (show 18 - 6 * j <= 64 by omega) (shrL (acc rest 3) (18 - 6 * j))) (fE (Ev.andK (a := acc rest 3 / 2 ^ (18 - 6 * j)) (b := 63) (c := sx rest j) rfl rfl (show _ < 18446744073709551616 from Nat.lt_of_le_of_lt (Nat.div_le_self _ _) (by omega)) dc (by rw [and63]; exact acc_sx rest hj4) (wI (by omega) (by omega))) (fE ((Ev.indexT (s := b64A) T rfl rfl rfl (by omega) (by show _ < (64 : Int); omega)).as (b64iy (n := sx rest j) hs6)) (fE ((Ev.convRune T rfl rfl rfl).as (show _ = str [b64c (sx rest j)] from congrArg str (b64c_enc _))) ?_)))))
   refine fE (Ev.catS rfl rfl (by simp only [List.length_cons, List.length_nil]; omega)) (eE rfl (zN hZ ((rI (rO (fun Z hZ => (fE (Ev.addK (r := ((j + 1 : Nat) : Int)) rfl rfl (by rw [wI (by omega) (by omega)]; omega)) (eE rfl (zN hZ ?_)))))))))
   skip
   refine Run.keep [0, 3, 4, 5, 6, 7, 38] [_, _, _, _, _, _, _] rfl ?_
   exact ih3 (4 - (j + 1)) _ _ _ (by omega) ⟨j + 1, rfl, by omega, by rw [htk, List.append_assoc]; rfl, rfl, rfl⟩
  ·rw [if_neg hs] at htk
   refine rO (fun Z hZ => (eE rfl (eE rfl (kT (Ev.gtr rfl rfl) (by omega) (zN hZ ?_)))))
   repeat (first | refine rS ?_ | refine rK ?_ | refine rB ?_ | refine rI ?_ | refine Run.exit rfl ?_ | refine rT rfl ?_ | refine rF rfl ?_)
   refine rO (fun Z hZ => (eE rfl (fE (Ev.catS rfl rfl (by simp only [List.length_cons, List.length_nil]; omega)) (eE rfl (zN hZ ((Run.exit rfl (rO (fun Z hZ => (fE (Ev.addK (r := ((j + 1 : Nat) : Int)) rfl rfl (by rw [wI (by omega) (by omega)]; omega)) (eE rfl (zN hZ ?_))))))))))))
   skip
   refine Run.keep [0, 3, 4, 5, 6, 7, 38] [_, _, _, _, _, _, _] rfl ?_
   exact ih3 (4 - (j + 1)) _ _ _ (by omega) ⟨j + 1, rfl, by omega, by rw [htk, List.append_assoc]; rfl, rfl, rfl⟩
 obtain rfl : j = 4 := by omega
 refine rO (fun Z hZ => (fE (Ev.lss rfl rfl) (zN hZ ?_)))
 repeat (first | refine rS ?_ | refine rK ?_ | refine rB ?_ | refine rI ?_ | refine Run.exit rfl ?_ | refine rT rfl ?_ | refine rF rfl ?_)
 refine rO (fun Z hZ => (eE rfl (fE (Ev.addK (r := ((at0 + 3 : Nat) : Int)) rfl rfl (by rw [wI (by omega) (by omega)]; omega)) (eE rfl (zN hZ ?_)))))
 skip
 refine Run.keep [0, 3, 4, 5] [_, _, _, _] rfl ?_
 exact ih (rest.drop 3).length _ _ _ (by rw [List.length_drop]; omega) ⟨at0 + 3, rest.drop 3, _, rfl, by rw [<- List.drop_drop, hd], by rw [List.append_assoc, <- b64_step hr, hout], by omega, rfl, rfl, rfl⟩
end Go.V
namespace Go.V
open Go.Proofs.Tryz
open Go.RowKit
set_option maxRecDepth 10000
attribute [local irreducible] Run Ops QD
def txJ (s : Bs) : Js := .mk 115 s []
theorem txJ_rel (d : Nat) (I : Imm) (s : Bs) : (tJs (d + 1)).rel I [.int .u8 115, str s, .slice none 0 0] (txJ s) := ⟨.slice none 0 0, rfl, sl_nil _ _⟩
def opJ (name s : Bs) : List Js := if s = [] then [] else [txJ name, txJ s]
theorem object_text (d : Nat) (I : Imm) (b : Nat) (name s : Bs) (kids : List Js) (vk : Value) (M : Own) (hG : Gr (tJs (d + 1)) I 38 vk kids M) (hkl : kids.length <= 1000000) :
  Spec prog 20 [.pointer (some ⟨b, 0, none⟩), str name, str s] I ((b, obj vk) :: M) fun _ J N => ∃ vk' M', N = (b, obj vk') :: M' /\ Gr (tJs (d + 1)) J 38 vk' (kids ++ opJ name s) M' := by
 refine Spec.enter 13 [(0, _), (1, _), (2, _)] func20 rfl ntmps20 (by simp) rfl ?_
 intro C hCf hR hCI
 refine rS ?_
 by_cases h0 : s = []
 ·subst h0
  refine rO (fun Z hZ => (eE rfl (fE ((Ev.neqS rfl rfl).as (show _ = Value.bool false from rfl)) (zN hZ ?_))))
  repeat (first | refine rK ?_ | refine rF rfl ?_)
  refine Run.end0 (by rw [hCf]; exact func20) results20 (hR _ _ _ ?_)
  exact ⟨vk, M, rfl, by simpa [opJ] using hG⟩
 ·skip
  refine rO (fun Z hZ => (eE rfl (fE ((Ev.neqS rfl rfl).as (show _ = Value.bool true from congrArg Value.bool (by rw [decide_eq_false h0]; rfl))) (zN hZ ((rT rfl (rP 3 (fun Z hZ => (eE rfl (eE rfl (eE rfl (zN hZ ((Ops.call ((spec_jText I s)) rfl dc call38 rfl ?_))))))))))))))
  rintro y J1 l1 rfl
  refine Ops.callP (N := []) (object_put d J1 b name _ (txJ s) kids vk M (hG.mono l1) (txJ_rel d J1 s) hkl) (.refl _) rfl dc call18 rfl ?_
  rintro y J2 N2 l2 ⟨vk2, M2, rfl, hG2⟩
  refine Ops.nil ?_
  skip
  refine Run.end0 (by rw [hCf]; exact func20) results20 (hR _ _ _ ?_)
  exact ⟨vk2, M2, rfl, by rw [opJ, if_neg h0]; exact hG2⟩
end Go.V
namespace Go.V
open Go.RowKit
section
variable {P : Program} {n : Nat} {C : Cx} {k : List Item} {env : Env} {L : Own} {I : Imm} {ops : Array Oper} {i : Nat} {l : List Oper} {S : World → Prop}
variable {ty : TypeId} {ps : String} {af : Array Edge} {g : Option (Nat × Bool)} {d : Nat}
theorem Ev.capV {ts e : TypeId} {x : Operand} {A : Option Addr} {m c : Nat} (T : Tab P) (hu : T.und ts = some (.slice e)) (hx : opnd env x = some (.slice A m c)) : Ev P n env (.call ⟨.builtin .cap, #[x], #[ts]⟩) (.int .i64 (c : Int)) :=
 fun a W he _ _ _ _ _ => by
  simp [execOp, resolve, invoke, builtin, Builtin.cap_, eval_opnd he hx, T.undOk hu, goInt]
theorem run_append_make {ts ti e : TypeId} {iE : TypeInfo} {kd : IntKind} (W : World) (ht : P.underlying ts = some (.slice e)) (hti : P.underlying ti = some (.int kd)) (hi : P.info? e = some iE) (hz : iE.zero = some (.int .u8 0)) (hs : iE.size = 1) (hb : iE.bytes = 1) (q : Nat) (h0 : 0 < q) (hq : q <= 140737488355328) :
  (Builtin.append_ #[ts, ti] ty #[.slice none 0 0, .int .i64 (q : Int)]).run P W =
   .ok (.slice (some ⟨W.heap.size, 0, none⟩) q (grownCap W q 0 e)) (W.drew.alloc (.cells (wb (List.replicate (grownCap W q 0 e) 0)).toArray e)) := by
 have hn : ¬ (q <= 0) := by omega
 have h63 : ¬ (9223372036854775807 < (q : Int)) := by omega
 have hw : IntKind.i64.wrap (q : Int) = q := wI (by omega) (by omega)
 have hneg : ¬ ((q : Int) < 0) := by omega
 have h48 : ¬ (281474976710656 < (q : Int)) := by omega
 have hnx : Builtin.nextslicecap q 0 = q := by unfold Builtin.nextslicecap; rw [if_pos (by omega)]
 have hq48 : ¬ (281474976710656 < q) := by omega
 have hai : (asInt (.int .i64 (q : Int))).run P W = .ok (q : Int) W := rfl
 have hq0 : q ≠ 0 := by omega
 have hge := grownCap_ge W q 0 e
 have hc : Builtin.zeroCells #[Value.int .u8 0] q ++ Builtin.zeroCells #[Value.int .u8 0] (grownCap W q 0 e - q) = (wb (List.replicate (grownCap W q 0 e) 0)).toArray := by
  apply Array.ext'
  rw [Array.toList_append, zeroCells_u8, zeroCells_u8, <- List.map_append, List.replicate_append_replicate, show q + (grownCap W q 0 e - q) = grownCap W q 0 e by omega]
 rw [<- hc]
 simp [Builtin.append_, run_underlying ht, run_underlying hti, sizeOf, typeInfo, zeroValue, hi, hz, hs, hb, hn, h63, hw, hneg, h48, hnx, hq48, hq0, hai, Question.forced, newRow, grownCap, Builtin.firstCells, Value.cells]
theorem Ops.appMake {s x : Operand} {ts ti e : TypeId} {kd : IntKind} {q : Nat} (hE : Bt P ts e) (hti : P.underlying ti = some (.int kd)) (hg : want env ops g = some true) (hd : d < n) (hs : opnd env s = some (.slice none 0 0)) (hx : opnd env x = some (.int .i64 (q : Int))) (h0 : 0 < q) (hq : q <= 140737488355328)
  (next : ∀ b c, q <= c -> c <= 9223372036854775807 -> Ops P n C ops (i + 1) l k ((d, .slice (some ⟨b, 0, none⟩) q c) :: env) ((b, blk (wb (List.replicate c 0)) e) :: L) I) :
  Ops P n C ops i (⟨some d, .call ⟨.builtin .append, #[s, x], #[ts, ti]⟩, ty, ps, af, g⟩ :: l) k env L I :=
 Ops.valW hg (dOk hd) fun a0 W he hi => by
  obtain ⟨iE, z, hinfo, hzero, hs1, hb1, hzs⟩ := hE.el.info
  obtain ⟨iE', hinfo', hz'⟩ := hE.zero
  obtain rfl : iE' = iE := Option.some.inj (hinfo'.symm.trans hinfo)
  obtain rfl : z = .int .u8 0 := Option.some.inj (hzero.symm.trans hz')
  have hr : (Builtin.append_ #[ts, ti] ty #[.slice none 0 0, .int .i64 (q : Int)]).run P W = .ok (.slice (some ⟨W.heap.size, 0, none⟩) q (grownCap W q 0 e)) (W.drew.alloc (blk (wb (List.replicate (grownCap W q 0 e) 0)) e)) := run_append_make (P := P) (ty := ty) W hE.el.under hti hinfo hzero hs1 hb1 q h0 hq
  have hge := grownCap_ge W q 0 e
  have hle := grownCap_le_maxLen W q 0 e (by unfold maxLen; omega)
  refine ⟨.slice (some ⟨W.heap.size, 0, none⟩) q (grownCap W q 0 e), _, (W.heap.size, blk (wb (List.replicate (grownCap W q 0 e) 0)) e) :: L, I, .inl ?_, hi.drew.alloc _, next _ _ hge (by have : maxLen = 9223372036854775807 := rfl; omega)⟩
  simp [execOp, resolve, Go.invoke, builtin, eval_opnd he hs, eval_opnd he hx, hr]
theorem Ops.makeGr {α : Type} (t : Ty α) {x y : Operand} {ts e : TypeId} {kl kc : IntKind} {c bytes : Nat} (hE : Elem P ts e t.size bytes) (hg : want env ops g = some true) (hd : d < n) (hx : opnd env x = some (.int kl 0)) (hy : opnd env y = some (.int kc (c : Int))) (hc : c <= 65536) (hby : (bytes : Int) * (c : Int) <= 281474976710656)
  (next : ∀ b M, Gr t I e (.slice (some ⟨b, 0, none⟩) 0 c) [] M -> Ops P n C ops (i + 1) l k ((d, .slice (some ⟨b, 0, none⟩) 0 c) :: env) (M ++ L) I) :
  Ops P n C ops i (⟨some d, .makeSlice ts x y, ty, ps, af, g⟩ :: l) k env L I :=
 Ops.valW hg (dOk hd) fun a0 W he hi => by
  obtain ⟨iE, z, hinfo, hzero, hs1, hb1, hzs⟩ := hE.info
  have hr := run_make (P := P) W ts e iE _ hE.under hinfo hzero kl kc 0 (c : Int) (by omega) (by omega) (by rw [hb1]; exact hby) (by omega)
  rw [hs1, Int.toNat_natCast] at hr
  refine ⟨.slice (some ⟨W.heap.size, 0, none⟩) 0 c, _, (W.heap.size, .cells (madeCells z.cells (c * t.size)) e) :: L, I, .inl ?_, hi.alloc _, next W.heap.size [(W.heap.size, .cells (madeCells z.cells (c * t.size)) e)] ⟨[], ⟨by simp, .inr ⟨W.heap.size, c, _, rfl, rfl, Nat.zero_le _, ?_, by simp⟩⟩, Cells.nil t I⟩⟩
  ·simp only [execOp, eval_opnd he hx, eval_opnd he hy, Sem.run_bind, hr, Result.andThen_ok]; rfl
  ·simp [madeCells]
theorem Ops.eqlSame {x y : Operand} {ti t' tp te : TypeId} {ms : Array (String × TypeId)} {ii jj : TypeInfo} {a0 : Addr} (h1 : P.underlying ti = some (.interface ms)) (h2 : P.underlying tp = some (.pointer te)) (h3 : P.info? tp = some ii) (h4 : ii.comparable = true) (h5 : P.info? te = some jj)
  (hg : want env ops g = some true) (hd : d < n) (hx : opnd env x = some (.iface tp (.pointer (some a0)))) (hy : opnd env y = some (.iface tp (.pointer (some a0))))
  (next : Ops P n C ops (i + 1) l k ((d, .bool true) :: env) L I) : Ops P n C ops i (⟨some d, .binOp .eql ti x y t', ty, ps, af, g⟩ :: l) k env L I :=
 Ops.val hg (dOk hd) (fun a W he hi => by
  have e1 := run_equalIn_iface_ptr_same (P := P) W 9998 a0 h1 h2 h3 h4 h5
  have h6 : ∀ c d : Value, (eqGuard .eql ti x y (.iface tp c) d).run P W = .ok () W := fun c d => rfl
  simp [execOp, eval_opnd he hx, eval_opnd he hy, binOp, Op.equal, Op.maxDepth, e1, h6]) next
end
end Go.V
namespace Go.V
open Go.RowKit
section
variable {P : Program} {n : Nat} {C : Cx} {k : List Item} {env : Env} {L : Own} {I : Imm} {ops : Array Oper} {i : Nat} {l : List Oper} {S : World → Prop}
variable {ty : TypeId} {ps : String} {af : Array Edge} {g : Option (Nat × Bool)} {d : Nat}
theorem Ops.rangeNil {x : Operand} {ts kt et : TypeId} (T : Tab P) (hg : want env ops g = some true) (hd : d < n) (hu : T.und ts = some (.map kt et)) (hx : opnd env x = some (.map none))
  (next : ∀ b, Ops P n C ops (i + 1) l k ((d, .pointer (some ⟨b, 0, none⟩)) :: env) ((b, .mapIter none 0 #[] 0) :: L) I) : Ops P n C ops i (⟨some d, .range ts x, ty, ps, af, g⟩ :: l) k env L I :=
 Ops.valW hg (dOk hd) fun a W he hi => ⟨.pointer (some ⟨W.heap.size, 0, none⟩), W.alloc (.mapIter none 0 #[] 0), (W.heap.size, .mapIter none 0 #[] 0) :: L, I,
  .inl (by
   have : ({ W with heap := W.heap.push (.mapIter none 0 #[] 0) } : World) = W.alloc (.mapIter none 0 #[] 0) := rfl
   simp [execOp, Instr.range, eval_opnd he hx, T.undOk hu, newObj, Sem.run, this]), hi.alloc _, next _⟩
theorem Ops.nextNil {x : Operand} {b s c : Nat} {seen : Array Nat} (j : Nat) (hg : want env ops g = some true) (hd : d < n) (hx : opnd env x = some (.pointer (some ⟨b, 0, none⟩))) (hL : L[j]? = some (b, .mapIter none s seen c))
  (next : Ops P n C ops (i + 1) l k ((d, .tuple #[.bool false]) :: env) L I) : Ops P n C ops i (⟨some d, .next x false, ty, ps, af, g⟩ :: l) k env L I :=
 Ops.val hg (dOk hd) (fun a W he hi => by
  have hW := hi.fits.own b _ (List.mem_of_getElem? hL)
  simp only [execOp, eval_opnd he hx, Instr.next, Sem.run_bind, run_getObj hW (fun _ _ _ h => by cases h), Result.andThen_ok]
  rfl) next
theorem Ev.negI {x : Operand} {t : TypeId} {kd : IntKind} {a r : Int} (hx : opnd env x = some (.int kd a)) (hr : kd.wrap (0 - a) = r) : Ev P n env (.unOp .neg t x) (.int kd r) :=
 fun a' W he _ _ _ _ _ => by
  subst hr
  simp [execOp, eval_opnd he hx, Op.unary, Op.intArith]
theorem Ev.convRuneV {x : Operand} {src dst : TypeId} {kd : IntKind} {r : Int} (T : Tab P) (hs : T.und src = some (.int kd)) (ht : T.und dst = some .string) (hx : opnd env x = some (.int kd r)) : Ev P n env (.convert src dst x) (str (encR r)) :=
 fun a W he _ _ _ _ _ => by
  simp [execOp, eval_opnd he hx, convert, T.undOk hs, T.undOk ht, Conv.intToString, encR_str]
end
end Go.V
namespace Go.V
open Go.RowKit
set_option maxRecDepth 10000
attribute [local irreducible] Run Ops QD
def dgF : Nat -> Nat -> Bs
 | 0, _ => []
 | f + 1, n => if n = 0 then [] else dgF f (n / 10) ++ [UInt8.ofNat (48 + n % 10)]
def numT (n : Int) : Bs := if n = 0 then [48] else (if n < 0 then [45] else []) ++ dgF 20 n.natAbs
def nuJ (n : Int) : Js := .mk 110 (numT n) []
theorem dgF_zero (f : Nat) : dgF f 0 = [] := by cases f <;> simp [dgF]
theorem dgF_len : ∀ f n, (dgF f n).length <= f
 | 0, _ => Nat.le_refl _
 | f + 1, n => by
  unfold dgF
  split
  ·simp
  ·rw [List.length_append, List.length_singleton]; have := dgF_len f (n / 10); omega
theorem numT_len (n : Int) : (numT n).length <= 21 := by
 unfold numT
 split
 ·simp
 ·rw [List.length_append]
  have := dgF_len 20 n.natAbs
  split <;> simp <;> omega
theorem dgF_dig : ∀ f n, ∀ c ∈ dgF f n, 48 <= c.toNat /\ c.toNat <= 57
 | 0, _, c, h => by cases h
 | f + 1, n, c, h => by
  unfold dgF at h
  split at h
  ·cases h
  ·rcases List.mem_append.1 h with h | h
   ·exact dgF_dig f _ c h
   ·rw [List.mem_singleton.1 h, ofNat_nat (by omega)]; omega
theorem dgF_head : ∀ f n, 0 < n -> n < 10 ^ f -> ∃ c t, dgF f n = c :: t /\ 49 <= c.toNat /\ c.toNat <= 57
 | 0, n, h, h' => by simp at h'; omega
 | f + 1, n, h, h' => by
  unfold dgF
  rw [if_neg (by omega)]
  by_cases h0 : n / 10 = 0
  ·rw [h0, dgF_zero]
   refine ⟨_, [], rfl, ?_⟩
   rw [ofNat_nat (by omega)]; omega
  ·obtain ⟨c, t, e, h1⟩ := dgF_head f (n / 10) (by omega) (by rw [Nat.pow_succ] at h'; omega)
   exact ⟨c, t ++ [UInt8.ofNat (48 + n % 10)], by rw [e]; rfl, h1⟩
theorem stop_word {r : Bs} (hr : Stop r) {k : UInt8} (h : k ≠ 44 /\ k ≠ 93 /\ k ≠ 125 /\ isBl k = false) : wordR [k] r = none := by
 cases r with
 | nil => exact hr.elim
 | cons c r =>
  refine word_no (fun e => ?_) r
  subst e
  rcases hr with h' | h' | h' | h'
  ·exact h.1 h'
  ·exact h.2.1 h'
  ·exact h.2.2.1 h'
  ·rw [h.2.2.2] at h'; cases h'
theorem num_rest {r : Bs} (hr : Stop r) : (some r : Option Bs).bind numR3 = some r /\ numR4 r = some r := by
 refine ⟨?_, ?_⟩
 ·rw [Option.bind_some, numR3, stop_word hr (by decide)]
 ·rw [numR4, stop_word hr (by decide)]
  simp only
  rw [stop_word hr (by decide)]
theorem dropW_all {l r : Bs} (h : ∀ c ∈ l, isDg c = true) (hr : Stop r) : (l ++ r).dropWhile isDg = r := by
 induction l with
 | nil => exact stop_dg hr
 | cons c l ih =>
  rw [List.cons_append, List.dropWhile_cons, if_pos (h c (by simp))]
  exact ih fun x hx => h x (by simp [hx])
theorem num_digs {c : UInt8} {t r : Bs} (h : ∀ x ∈ c :: t, isDg x = true) (hc : c ≠ 48) (hr : Stop r) : numR2 (c :: t ++ r) = some r := by
 rw [numR2, List.cons_append, word_no hc]
 simp only
 rw [digs_one (h c (by simp)), dropW_all (fun x hx => h x (by simp [hx])) hr]
theorem isDg_of {c : UInt8} (h : 48 <= c.toNat /\ c.toNat <= 57) : isDg c = true := by unfold isDg; simp [h.1, h.2]
theorem lit_num (n : Int) (hn : n.natAbs < 10 ^ 20) : LitR (numT n) (.mk 48 false (numT n) [] []) := by
 intro f r hr
 by_cases h0 : n = 0
 ·subst h0
  refine rdV_num f (t := [48]) rfl (.inl (by decide)) ?_
  have e1 : numR1 (48 :: r) = 48 :: r := by rw [numR1, word_no (by decide)]; rfl
  show numR (48 :: r) = some r
  rw [numR, e1, numR2, word1]
  simp only
  rw [(num_rest hr).1, Option.bind_some, (num_rest hr).2]
 ·obtain ⟨c, t, e, hc1, hc2⟩ := dgF_head 20 n.natAbs (by omega) hn
  have hall : ∀ x ∈ c :: t, isDg x = true := fun x hx => isDg_of (dgF_dig 20 n.natAbs x (by rw [e]; exact hx))
  have h48 : c ≠ 48 := fun h => by subst h; simp at hc1
  have h45 : c ≠ 45 := fun h => by subst h; simp at hc1
  by_cases hneg : n < 0
  ·have et : numT n = 45 :: (c :: t) := by unfold numT; rw [if_neg h0, if_pos hneg, e]; rfl
   rw [et]
   refine rdV_num f rfl (.inr rfl) ?_
   have e1 : numR1 (45 :: (c :: t) ++ r) = c :: t ++ r := by rw [numR1, List.cons_append, word1]; rfl
   rw [numR, e1, num_digs hall h48 hr, (num_rest hr).1, Option.bind_some, (num_rest hr).2]
  ·have et : numT n = c :: t := by unfold numT; rw [if_neg h0, if_neg hneg, e]; rfl
   rw [et]
   refine rdV_num f rfl (.inl (by omega)) ?_
   have e1 : numR1 (c :: t ++ r) = c :: t ++ r := by rw [numR1, List.cons_append, word_no h45]; rfl
   rw [numR, e1, num_digs hall h48 hr, (num_rest hr).1, Option.bind_some, (num_rest hr).2]
theorem dgF_step (f m : Nat) (s : Bs) (h : 0 < m) : dgF (f + 1) m ++ s = dgF f (m / 10) ++ (UInt8.ofNat (48 + m % 10) :: s) := by
 rw [show dgF (f + 1) m = dgF f (m / 10) ++ [UInt8.ofNat (48 + m % 10)] by rw [dgF, if_neg (by omega)]]
 simp
end Go.V
namespace Go.V
set_option maxRecDepth 10000
theorem pu_app (M : Nat) : ∀ (a b : Bs) (acc u : Nat), Lib.parseUintM M acc a = .ok u -> Lib.parseUintM M acc (a ++ b) = Lib.parseUintM M u b
 | [], b, acc, u, h => by
  obtain rfl : acc = u := by injection h
  rfl
 | c :: a, b, acc, u, h => by
  rw [List.cons_append]
  rw [Lib.parseUintM] at h ⊢
  split at h
  ·rename_i h1
   rw [if_pos h1]
   split at h
   ·cases h
   ·rename_i h2
    rw [if_neg h2]
    split at h
    ·cases h
    ·rename_i h3
     rw [if_neg h3]
     exact pu_app M a b _ u h
  ·cases h
theorem pu_dg : ∀ (f n : Nat), n < 10 ^ f -> n <= 18446744073709551615 -> Lib.parseUintM (2 ^ 64 - 1) 0 (dgF f n) = .ok n
 | 0, n, h, _ => by
  obtain rfl : n = 0 := by omega
  rfl
 | f + 1, n, h, hm => by
  unfold dgF
  split
  ·rename_i h0; subst h0; rfl
  ·have hp : 10 ^ (f + 1) = 10 ^ f * 10 := Nat.pow_succ ..
   rw [pu_app _ _ _ _ _ (pu_dg f (n / 10) (by omega) (by omega))]
   have e : (UInt8.ofNat (48 + n % 10)).toNat = 48 + n % 10 := by
    rw [UInt8.toNat_ofNat']; omega
   unfold Lib.parseUintM
   rw [e, if_pos (by omega), if_neg (by omega), if_neg (by omega)]
   unfold Lib.parseUintM
   rw [show n / 10 * 10 + (48 + n % 10 - 48) = n by omega]
theorem pi_num (z : Int) (h1 : -9223372036854775808 <= z) (h2 : z <= 9223372036854775807) : Lib.parseIntB 64 (numT z) = .ok z := by
 by_cases h0 : z = 0
 ·subst h0; rfl
 ·obtain ⟨c, t, e, hc1, hc2⟩ := dgF_head 20 z.natAbs (by omega) (by omega)
  have hp := pu_dg 20 z.natAbs (by omega) (by omega)
  have hu : Lib.parseUintB 64 (dgF 20 z.natAbs) = .ok z.natAbs := by
   unfold Lib.parseUintB
   rw [if_neg (by rw [e]; simp), hp]
  by_cases hneg : z < 0
  ·have et : numT z = 45 :: dgF 20 z.natAbs := by unfold numT; rw [if_neg h0, if_pos hneg]; rfl
   rw [et]
   unfold Lib.parseIntB
   simp only
   rw [if_pos (by decide), hu]
   simp only
   rw [if_neg (by simp), if_neg (by simp; omega), if_pos (by decide)]
   congr 1
   omega
  ·have et : numT z = dgF 20 z.natAbs := by unfold numT; rw [if_neg h0, if_neg hneg]; rfl
   rw [et]
   rw [e] at hu ⊢
   unfold Lib.parseIntB
   simp only
   rw [if_neg (by omega), hu]
   simp only
   rw [if_neg (by simp; omega), if_neg (by omega), if_neg (by omega)]
   congr 1
   omega
end Go.V
