import Derived.Test.YtcegjgmmbbojdaaGreatDoorAW
import Derived.Test.YtcegjgmmbbojdaaGreatDoorAM14
import Derived.Test.YtcegjgmmbbojdaaGreatDoorAM4
import Derived.Test.YtcegjgmmbbojdaaGreatDoorAM2
import Derived.Test.YtcegjgmmbbojdaaGreatDoorAM3
set_option linter.unusedVariables false
set_option linter.unusedSimpArgs false
namespace Go.V
open Go.Proofs.Tryz
open Go.RowKit
set_option maxRecDepth 10000
attribute [local irreducible] Run Ops QD
set_option maxHeartbeats 2000000 in
theorem object_pairs (d : Nat) (I : Imm) (b : Nat) (name : Bs) (xs : List K2) (v : Value) (hS : Sl tK2 I v xs) (hl : xs.length <= 400000) (kids : List Js) (vk : Value) (M : Own) (hG : Gr (tJs (d + 2)) I 38 vk kids M) (hkl : kids.length <= 1000000) :
  Spec prog 22 [.pointer (some ⟨b, 0, none⟩), str name, v] I ((b, obj vk) :: M) fun _ J N => ∃ vk' M', N = (b, obj vk') :: M' /\ Gr (tJs (d + 2)) J 38 vk' (kids ++ opP name xs) M' := by
 obtain ⟨A0, c0, rfl⟩ := hS.isSl
 refine Spec.enter 36 [(0, _), (1, _), (2, _)] func22 rfl ntmps22 (by simp) rfl ?_
 intro C hCf hR hCI
 refine rS ?_
 by_cases h0 : xs = []
 ·subst h0
  refine rO (fun Z hZ => (eE rfl (eE rfl (fE (Ev.gtr rfl rfl) (zN hZ ?_)))))
  repeat (first | refine rK ?_ | refine rF rfl ?_)
  refine Run.end0 (by rw [hCf]; exact func22) results22 (hR _ _ _ ?_)
  exact ⟨vk, M, rfl, by simpa [opP] using hG⟩
 ·have hp := List.length_pos_iff.2 h0
  refine rO (fun Z hZ => (eE rfl (eE rfl (kT (Ev.gtr rfl rfl) (by omega) (zN hZ ?_)))))
  repeat (first | refine rS ?_ | refine rT rfl ?_)
  refine Run.region (Ops.buildL bd38 rfl dc rfl rfl (Ops.buildL bd56 rfl dc rfl rfl (Ops.box rfl dc rfl rfl (fun b6 => (oP rfl (Ops.nil ?_))))))
  repeat refine rS ?_
  refine rO (fun Z hZ => (eE rfl (eE rfl (eE rfl (zN hZ ((rB (Run.keep [0, 1, 6, 15, 16, 17] [_, _, _, _, _, _] rfl ?_))))))))
  refine Run.rounds (fun m env L J => ∃ (i : Nat) (vi : Value) (Mi : Own), m = xs.length - i /\ i <= xs.length /\ Gr (tJs (d + 1)) J 38 vi (prJs (xs.take i)) Mi /\
   env = [(0, .pointer (some ⟨b, 0, none⟩)), (1, str name), (6, .pointer (some ⟨b6, 0, none⟩)), (15, .slice A0 xs.length c0), (16, .int .i64 (xs.length : Int)), (17, .int .i64 (i : Int))] /\
   L = (b6, obj vi) :: (Mi ++ (b, obj vk) :: M) /\ Le I J) xs.length ⟨0, _, [], by omega, by omega, Gr.nil _ _ _, rfl, rfl, Le.refl _⟩ ?_
  rintro m env L J ⟨i, vi, Mi, rfl, hi, hGi, rfl, rfl, hle⟩ ih
  have hpl : (prJs (xs.take i)).length <= 1000000 := by
   have : ∀ l : List K2, (prJs l).length = 2 * l.length := by
    intro l
    unfold prJs
    induction l with
    | nil => rfl
    | cons x l ih => rw [List.flatMap_cons, List.length_append, ih]; simp; omega
   rw [this, List.length_take]; omega
  by_cases hlt : i < xs.length
  ·skip
   refine rS ?_
   refine rO (fun Z hZ => (kT (Ev.lss rfl rfl) (by omega) (zN hZ ?_)))
   repeat (first | refine rS ?_ | refine rK ?_ | refine rB ?_ | refine rT rfl ?_)
   refine Run.region (Ops.indexSl (j := (i : Int)) (hS.mono hle) rfl dc rfl rfl (T.undOk rfl) (T.sizeOk rfl) (by omega) (by omega) fun bb off q cs hq hr hA => ?_)
   obtain rfl : cs = [str q.1, str q.2] := hr
   rw [Int.toNat_natCast] at hq
   refine Ops.loadIN rfl dc rfl hA (T.aggOk rfl) (T.sizeOk rfl) rfl (Ops.alloc rfl dc (T.zeroOk rfl) rfl (fun b8 => (Ops.store 0 rfl rfl rfl rfl rfl (T.sizeOk rfl) rfl (lb rfl) rfl rfl (Ops.nil ?_))))
   skip
   refine Run.regionT (D := [some 21, some 22, some 23, some 24, some 25, some 26, some 27]) (fun _ => True) [true, true, true, true, true, true] (bl 7 63) 1 (by kernel_rfl) (by kernel_rfl) (by kernel_rfl) rfl (fun Z hZ => (eE rfl (eE rfl (gY (Yv.load 0 T rfl rfl rfl rfl) (eE rfl (gY (Yv.load 0 T rfl rfl rfl rfl) (QD.call (spec_jText J q.2) dc rfl call38 rfl (zN hZ ((RAny.on 6 (bl 7 127) rfl (by kernel_rfl) rfl dc (Eff.callM (M := (b6, obj vi) :: Mi) (N := (b8, _) :: (b, obj vk) :: M) (object_put d J b6 q.1 _ (txJ q.2) (prJs (xs.take i)) vi Mi hGi (txJ_rel d J _) hpl) (show List.Perm ((b8, _) :: (b6, obj vi) :: (Mi ++ (b, obj vk) :: M)) ((b6, obj vi) :: (Mi ++ (b8, _) :: (b, obj vk) :: M)) from (List.Perm.swap _ _ _).trans (List.Perm.cons _ List.perm_middle.symm)) call18 rfl fun y J' M' l' hw => ⟨fun _ _ => trivial, ?_⟩)))))))))))
   obtain ⟨vi', Mi', rfl, hGi'⟩ := hw
   refine RAny.done _ (by kernel_rfl) (Run.dropL (L' := (b6, obj vi') :: (Mi' ++ (b, obj vk) :: M)) (List.Sublist.cons_cons _ (List.Sublist.append_left (List.sublist_cons_self _ _) Mi')) (rI (rO (fun Z hZ => (fE (Ev.addK (r := ((i + 1 : Nat) : Int)) rfl rfl (by rw [wI (by omega) (by omega)]; omega)) (eE rfl (zN hZ ?_)))))))
   skip
   refine Run.keep [0, 1, 6, 15, 16, 17] [_, _, _, _, _, _] rfl ?_
   refine ih (xs.length - (i + 1)) _ _ _ (by omega) ⟨i + 1, vi', Mi', rfl, by omega, ?_, rfl, rfl, hle.trans l'⟩
   obtain ⟨hi', rfl⟩ := List.getElem?_eq_some_iff.1 hq
   rw [List.take_succ_eq_append_getElem hi', prJs, List.flatMap_append, List.flatMap_singleton]
   exact hGi'
  ·obtain rfl : i = xs.length := by omega
   rw [List.take_length] at hGi
   refine rS ?_
   refine rO (fun Z hZ => (kF (Ev.lss rfl rfl) (by omega) (zN hZ ?_)))
   repeat (first | refine rS ?_ | refine Run.exit rfl ?_ | refine rF rfl ?_)
   refine Run.keepGr hGi (N := (b6, obj vi) :: (b, obj vk) :: M) (List.perm_middle (l₁ := Mi) (a := (b6, obj vi)) (l₂ := (b, obj vk) :: M)).symm fun J5 l5 hSl => ?_
   obtain ⟨A', c', rfl⟩ := hSl.isSl
   have hG5 := hG.mono (hle.trans l5)
   refine rP 6 (fun Z hZ => ?_)
   iterate 5 refine eE rfl ?_
   refine gY (Yv.loadN 0 T rfl rfl rfl rfl rfl rfl) (zN hZ ((Ops.callP (N := [_]) (object_put (d + 1) J5 b name _ (paJ xs) kids vk M hG5 ⟨_, rfl, hSl⟩ hkl) (.refl _) rfl dc call18 rfl ?_)))
   rintro y J6 N6 l6 ⟨vk6, M6, rfl, hG6⟩
   refine Ops.nil ?_
   skip
   refine Run.dropL (List.sublist_cons_self _ _) ?_
   refine Run.end0 (by rw [hCf]; exact func22) results22 (hR _ _ _ ?_)
   exact ⟨vk6, M6, rfl, by rw [opP, if_neg h0]; exact hG6⟩
def plK (x : PfL) : List Js := [] ++ [txJ [97, 114, 99, 104, 105, 116, 101, 99, 116, 117, 114, 101], txJ x.1.arch] ++ [txJ [111, 115], txJ x.1.os] ++ opJ [111, 115, 46, 118, 101, 114, 115, 105, 111, 110] x.1.ver ++ opL [111, 115, 46, 102, 101, 97, 116, 117, 114, 101, 115] x.2.1 ++ opJ [118, 97, 114, 105, 97, 110, 116] x.1.var ++ opL [102, 101, 97, 116, 117, 114, 101, 115] x.2.2
def plJ (x : PfL) : Js := .mk 111 [] (plK x)
set_option maxHeartbeats 4000000 in
theorem spec_platformJson (d : Nat) (I : Imm) (x : PfL) (A : Option Addr) (a : Nat) (A' : Option Addr) (a' : Nat) (hf : Sl tStr I (.slice A x.2.1.length a) x.2.1) (hg : Sl tStr I (.slice A' x.2.2.length a') x.2.2) (hl1 : x.2.1.length <= 1000000) (hl2 : x.2.2.length <= 1000000) :
  Pure prog 42 [.agg (x.1.cs (.slice A x.2.1.length a) (.slice A' x.2.2.length a')).toArray] I fun w J => ∃ vk, w = .agg [.int .u8 111, str [], vk].toArray /\ Sl (tJs (d + 2)) J vk (plK x) := by
 refine Spec.enter 37 [(0, _)] func42 rfl ntmps42 (by simp) rfl ?_
 intro C hCf hR hCI
 refine rS ?_
 refine Run.region (Ops.box rfl dc rfl rfl (fun b1 => (Ops.alloc rfl dc (T.zeroOk rfl) rfl (fun b2 => (Ops.nil (rS (Run.region (Ops.buildL bd38 rfl dc rfl rfl (Ops.buildL bd56 rfl dc rfl rfl (Ops.box rfl dc rfl rfl (fun b3 => (oP rfl (Ops.nil (Run.perm (L' := [_, _] ++ [(b3, _)]) ((List.Perm.swap _ _ _).trans (List.Perm.cons _ (List.Perm.swap _ _ _))) (rS ?_)))))))))))))))
 have hG0 := Gr.nil (tJs (d + 1 + 1)) I 38
 have le0 := Le.refl I
 have hn0 : ([] : List Js).length <= 0 := Nat.le_refl _
 refine rP 3 (fun Z hZ => (eE rfl (eE rfl (gY (Yv.load 1 T rfl rfl rfl rfl) (zN hZ ((Ops.call ((spec_jText I x.1.arch)) rfl dc call38 rfl ?_)))))))
 rintro y1 K1 k1 rfl
 refine Ops.callP (N := [_, _]) (object_put (d + 1) _ b3 [97, 114, 99, 104, 105, 116, 101, 99, 116, 117, 114, 101] _ (txJ x.1.arch) [] (.slice none 0 0) [] (hG0.mono k1) (txJ_rel _ _ _) (by omega)) (.refl _) rfl dc call18 rfl ?_
 rintro y J1 N1 j1 ⟨vk1, M1, rfl, hG1⟩
 refine Ops.nil (rS ?_)
 have le1 := le0.trans (k1.trans j1)
 obtain ⟨ks1, hks1⟩ : ∃ ks : List Js, ks = [] ++ ([txJ [97, 114, 99, 104, 105, 116, 101, 99, 116, 117, 114, 101], txJ x.1.arch]) := ⟨_, rfl⟩
 have hG1 : Gr (tJs (d + 1 + 1)) J1 38 vk1 ks1 M1 := by rw [hks1]; exact hG1
 have hn1 : ks1.length <= 2 := by rw [hks1, List.length_append]; have h2 : ([txJ [97, 114, 99, 104, 105, 116, 101, 99, 116, 117, 114, 101], txJ x.1.arch] : List Js).length <= 2 := show _ <= 2 from Nat.le_refl 2; omega
 refine rP 3 (fun Z hZ => (eE rfl (eE rfl (gY (Yv.load 1 T rfl rfl rfl rfl) (zN hZ ((Ops.call ((spec_jText J1 x.1.os)) rfl dc call38 rfl ?_)))))))
 rintro y2 K2 k2 rfl
 refine Ops.callP (N := [_, _]) (object_put (d + 1) _ b3 [111, 115] _ (txJ x.1.os) ks1 vk1 M1 (hG1.mono k2) (txJ_rel _ _ _) (by omega)) (.refl _) rfl dc call18 rfl ?_
 rintro y J2 N2 j2 ⟨vk2, M2, rfl, hG2⟩
 refine Ops.nil (rS ?_)
 have le2 := le1.trans (k2.trans j2)
 obtain ⟨ks2, hks2⟩ : ∃ ks : List Js, ks = ks1 ++ ([txJ [111, 115], txJ x.1.os]) := ⟨_, rfl⟩
 have hG2 : Gr (tJs (d + 1 + 1)) J2 38 vk2 ks2 M2 := by rw [hks2]; exact hG2
 have hn2 : ks2.length <= 4 := by rw [hks2, List.length_append]; have h2 : ([txJ [111, 115], txJ x.1.os] : List Js).length <= 2 := show _ <= 2 from Nat.le_refl 2; omega
 refine rP 3 (fun Z hZ => (eE rfl (eE rfl (gY (Yv.load 1 T rfl rfl rfl rfl) (zN hZ ((Ops.callP (N := [_, _]) (object_text (d + 1) J2 b3 [111, 115, 46, 118, 101, 114, 115, 105, 111, 110] x.1.ver ks2 vk2 M2 hG2 (by omega)) (.refl _) rfl dc call20 rfl ?_)))))))
 rintro y J3 N3 j3 ⟨vk3, M3, rfl, hG3⟩
 refine Ops.nil (rS ?_)
 have le3 := le2.trans j3
 obtain ⟨ks3, hks3⟩ : ∃ ks : List Js, ks = ks2 ++ (opJ [111, 115, 46, 118, 101, 114, 115, 105, 111, 110] x.1.ver) := ⟨_, rfl⟩
 have hG3 : Gr (tJs (d + 1 + 1)) J3 38 vk3 ks3 M3 := by rw [hks3]; exact hG3
 have hn3 : ks3.length <= 6 := by rw [hks3, List.length_append]; have h2 : (opJ [111, 115, 46, 118, 101, 114, 115, 105, 111, 110] x.1.ver : List Js).length <= 2 := opJ_len _ _; omega
 refine rP 3 (fun Z hZ => (eE rfl (eE rfl (gY (Yv.load 1 T rfl rfl rfl rfl) (zN hZ ((Ops.callP (N := [_, _]) (object_texts (d) J3 b3 [111, 115, 46, 102, 101, 97, 116, 117, 114, 101, 115] x.2.1 _ (hf.mono le3) hl1 ks3 vk3 M3 hG3 (by omega)) (.refl _) rfl dc call41 rfl ?_)))))))
 rintro y J4 N4 j4 ⟨vk4, M4, rfl, hG4⟩
 refine Ops.nil (rS ?_)
 have le4 := le3.trans j4
 obtain ⟨ks4, hks4⟩ : ∃ ks : List Js, ks = ks3 ++ (opL [111, 115, 46, 102, 101, 97, 116, 117, 114, 101, 115] x.2.1) := ⟨_, rfl⟩
 have hG4 : Gr (tJs (d + 1 + 1)) J4 38 vk4 ks4 M4 := by rw [hks4]; exact hG4
 have hn4 : ks4.length <= 8 := by rw [hks4, List.length_append]; have h2 : (opL [111, 115, 46, 102, 101, 97, 116, 117, 114, 101, 115] x.2.1 : List Js).length <= 2 := opL_len _ _; omega
 refine rP 3 (fun Z hZ => (eE rfl (eE rfl (gY (Yv.load 1 T rfl rfl rfl rfl) (zN hZ ((Ops.callP (N := [_, _]) (object_text (d + 1) J4 b3 [118, 97, 114, 105, 97, 110, 116] x.1.var ks4 vk4 M4 hG4 (by omega)) (.refl _) rfl dc call20 rfl ?_)))))))
 rintro y J5 N5 j5 ⟨vk5, M5, rfl, hG5⟩
 refine Ops.nil (rS ?_)
 have le5 := le4.trans j5
 obtain ⟨ks5, hks5⟩ : ∃ ks : List Js, ks = ks4 ++ (opJ [118, 97, 114, 105, 97, 110, 116] x.1.var) := ⟨_, rfl⟩
 have hG5 : Gr (tJs (d + 1 + 1)) J5 38 vk5 ks5 M5 := by rw [hks5]; exact hG5
 have hn5 : ks5.length <= 10 := by rw [hks5, List.length_append]; have h2 : (opJ [118, 97, 114, 105, 97, 110, 116] x.1.var : List Js).length <= 2 := opJ_len _ _; omega
 refine rP 3 (fun Z hZ => (eE rfl (eE rfl (gY (Yv.load 1 T rfl rfl rfl rfl) (zN hZ ((Ops.callP (N := [_, _]) (object_texts (d) J5 b3 [102, 101, 97, 116, 117, 114, 101, 115] x.2.2 _ (hg.mono le5) hl2 ks5 vk5 M5 hG5 (by omega)) (.refl _) rfl dc call41 rfl ?_)))))))
 rintro y J6 N6 j6 ⟨vk6, M6, rfl, hG6⟩
 refine Ops.nil (rS ?_)
 have le6 := le5.trans j6
 obtain ⟨ks6, hks6⟩ : ∃ ks : List Js, ks = ks5 ++ (opL [102, 101, 97, 116, 117, 114, 101, 115] x.2.2) := ⟨_, rfl⟩
 have hG6 : Gr (tJs (d + 1 + 1)) J6 38 vk6 ks6 M6 := by rw [hks6]; exact hG6
 have hn6 : ks6.length <= 12 := by rw [hks6, List.length_append]; have h2 : (opL [102, 101, 97, 116, 117, 114, 101, 115] x.2.2 : List Js).length <= 2 := opL_len _ _; omega
 refine Run.keepGr hG6 (N := [_, _, _]) (List.perm_append_comm (l₁ := [_, _, _]) (l₂ := M6)) fun JF lF hSl => ?_
 obtain ⟨AF, cF, rfl⟩ := hSl.isSl
 refine Run.region (oP rfl (oP rfl (oP rfl (Ops.loadN 2 rfl dc rfl rfl (T.aggOk rfl) (T.sizeOk rfl) rfl rfl (Ops.store 0 rfl rfl rfl rfl rfl (T.sizeOk rfl) rfl (lb rfl) rfl rfl (Ops.nil ?_))))))
 skip
 refine Run.retC T 0 (by rw [hCf]; exact func42) results42 rfl rfl rfl rfl rfl rfl (hR _ _ _ ?_)
 refine ⟨rfl, _, rfl, ?_⟩
 have e : ks6 = plK x := by simp only [hks6, hks5, hks4, hks3, hks2, hks1]; rfl
 rw [e] at hSl ⊢
 exact hSl
end Go.V
namespace Go.V
open Go.Proofs.Tryz
open Go.RowKit
set_option maxRecDepth 10000
attribute [local irreducible] Run Ops QD
def goodS (s : Bs) : Prop := Lib.validD s = true /\ s.length <= 4000
set_option maxHeartbeats 1000000 in
theorem laws_textsGood (I : Imm) (hU : UT I) (v : Value) (xs : List Bs) (hS : Sl tStr I v xs) (hx : ∀ s ∈ xs, s.length <= 2147483647) (hl : xs.length <= 1099511627776) : Pure prog 16 [v] I fun w _ => ∃ r, w = .bool r /\ (r = true -> xs.length <= 60 /\ ∀ s ∈ xs, goodS s) := by
 obtain ⟨A0, c0, rfl⟩ := hS.isSl
 refine Spec.enter 27 [(0, _)] func16 rfl ntmps16 (by simp) rfl ?_
 intro C hCf hR hCI
 refine rS ?_
 refine rO (fun Z hZ => (eE rfl (zN hZ ((rS (rO (fun Z hZ => (eE rfl (zN hZ ?_)))))))))
 repeat refine rS ?_
 refine rO (fun Z hZ => (eE rfl (eE rfl (eE rfl (zN hZ ((rB (Run.keep [0, 3, 6, 7, 8] [_, _, _, _, _] rfl (Run.rounds (fun m env L J => ∃ (i : Nat) (n : Int), m = xs.length - i /\ i <= xs.length /\ (i <= 60 -> 0 <= n /\ n <= i * 2147483647) /\ (i <= 60 -> ∀ s ∈ xs.take i, Lib.validD s = true /\ (s.length : Int) <= n) /\ env = [(0, .slice A0 xs.length c0), (3, .int .i64 n), (6, .slice A0 xs.length c0), (7, .int .i64 xs.length), (8, .int .i64 i)] /\ L = [] /\ I = J) xs.length ⟨0, 0, by omega, by omega, by omega, by simp, rfl, rfl, rfl⟩ ?_)))))))))
 rintro m env L J ⟨i, n, rfl, hi, hn, hdone, rfl, rfl, rfl⟩ ih
 refine rS ?_
 by_cases hlt : i < xs.length
 ·skip
  refine rO (fun Z hZ => (kT (Ev.lss rfl rfl) (by omega) (zN hZ ?_)))
  repeat (first | refine rS ?_ | refine rK ?_ | refine rB ?_ | refine rT rfl ?_)
  refine Run.region (Ops.indexSl (j := (i : Int)) hS rfl dc rfl rfl (T.undOk rfl) (T.sizeOk rfl) (by omega) (by omega) fun bb off q cs hq hr hA => ?_)
  obtain rfl : cs = [str q] := hr
  rw [Int.toNat_natCast] at hq
  have hql := hx q (List.mem_of_getElem? hq)
  refine Ops.loadI rfl dc rfl hA (T.aggOk rfl) (oP rfl (Ops.nil (rS (rO (fun Z hZ => (eE rfl (eE rfl (fE (Ev.lenS T rfl rfl) (fE (Ev.addK (r := IntKind.i64.wrap (n + (q.length : Int))) rfl rfl rfl) (eE rfl (zN hZ ((rS (rP 1 (fun Z hZ => (eE rfl (zN hZ ((Ops.call ((utf8_ValidString I hU q (by omega))) rfl dc call34 rfl ?_)))))))))))))))))))
  rintro w J2 l2 ⟨rfl, rfl⟩
  refine oP rfl (Ops.nil ?_)
  skip
  cases hv : Lib.validD q with
  | false =>
   repeat (first | refine rS ?_ | refine rT rfl ?_)
   refine rO (fun Z hZ => (eE rfl (zN hZ ?_)))
   skip
   refine Run.fin (Run.ret1 (by rw [hCf]; exact func16) results16 rfl (hR _ _ _ ?_))
   exact ⟨rfl, _, rfl, fun h => by cases h⟩
  | true =>
   repeat (first | refine rK ?_ | refine rI ?_ | refine rF rfl ?_)
   refine rO (fun Z hZ => (fE (Ev.addK (r := ((i + 1 : Nat) : Int)) rfl rfl (by rw [wI (by omega) (by omega)]; omega)) (eE rfl (zN hZ ?_))))
   skip
   refine Run.keep [0, 3, 6, 7, 8] [_, _, _, _, _] rfl ?_
   refine ih (xs.length - (i + 1)) _ _ _ (by omega) ⟨i + 1, IntKind.i64.wrap (n + (q.length : Int)), rfl, by omega, fun h60 => ?_, fun h60 => ?_, rfl, rfl, rfl⟩
   ·have := hn (by omega)
    rw [wI (by omega) (by omega)]; omega
   have hn' := hn (by omega)
   have hdone := hdone (by omega)
   rw [wI (by omega) (by omega)]
   intro s hs
   rw [List.take_succ_eq_append_getElem hlt] at hs
   rcases List.mem_append.1 hs with hs | hs
   ·obtain ⟨h1, h2⟩ := hdone s hs
    exact ⟨h1, by omega⟩
   ·obtain rfl := List.mem_singleton.1 hs
    rw [List.getElem?_eq_getElem hlt] at hq
    obtain rfl : xs[i] = q := Option.some.inj hq
    exact ⟨hv, by omega⟩
 ·skip
  refine rO (fun Z hZ => (kF (Ev.lss rfl rfl) (by omega) (zN hZ ?_)))
  repeat (first | refine rS ?_ | refine Run.exit rfl ?_ | refine rF rfl ?_)
  by_cases h60 : xs.length <= 60
  ·have hdone := hdone (by omega)
   rw [List.take_of_length_le (by omega)] at hdone
   by_cases h4 : n <= 4000
   ·skip
    refine rO (fun Z hZ => (eE rfl (eE rfl (kT (Ev.leq rfl rfl) (by omega) (eE rfl (eE rfl (kT (Ev.leq rfl rfl) (by omega) (eE rfl (eE rfl (zN hZ ?_))))))))))
    skip
    refine Run.fin (Run.ret1 (by rw [hCf]; exact func16) results16 rfl (hR _ _ _ ?_))
    exact ⟨rfl, _, rfl, fun _ => ⟨h60, fun s hs => ⟨(hdone s hs).1, by have := (hdone s hs).2; omega⟩⟩⟩
   ·skip
    refine rO (fun Z hZ => (eE rfl (eE rfl (kT (Ev.leq rfl rfl) (by omega) (eE rfl (eE rfl (kF (Ev.leq rfl rfl) (by omega) (eE rfl (eE rfl (zN hZ ?_))))))))))
    skip
    refine Run.fin (Run.ret1 (by rw [hCf]; exact func16) results16 rfl (hR _ _ _ ?_))
    exact ⟨rfl, _, rfl, fun h => by cases h⟩
  ·skip
   refine rO (fun Z hZ => (eE rfl (eE rfl (kF (Ev.leq rfl rfl) (by omega) (eE rfl (oF (oF (eE rfl (eE rfl (zN hZ ?_))))))))))
   skip
   refine Run.fin (Run.ret1 (by rw [hCf]; exact func16) results16 rfl (hR _ _ _ ?_))
   exact ⟨rfl, _, rfl, fun h => by cases h⟩
end Go.V
namespace Go.V
open Go.Proofs.Tryz
open Go.RowKit
set_option maxRecDepth 10000
attribute [local irreducible] Run Ops
def Asc (xs : List K2) : Prop := ∀ i x y, xs[i]? = some x -> xs[i + 1]? = some y -> x.1 < y.1
theorem blt_tri : ∀ s u : List UInt8, ¬ s < u -> s ≠ u -> u < s
 | [], [], _, h => absurd rfl h
 | [], _ :: _, h, _ => absurd (by simp) h
 | _ :: _, [], _, _ => by simp
 | a :: x, b :: y, h, hne => by
  simp only [List.cons_lt_cons_iff] at h ⊢
  by_cases hab : a = b
  ·subst hab
   exact .inr ⟨rfl, blt_tri x y (fun hh => h (.inr ⟨rfl, hh⟩)) (fun e => hne (by rw [e]))⟩
  ·refine .inl ?_
   have h1 : ¬ a < b := fun hh => h (.inl hh)
   have h2 : a.toNat ≠ b.toNat := fun e => hab (UInt8.toNat_inj.1 e)
   rw [UInt8.lt_iff_toNat_lt] at h1 ⊢
   omega
theorem bleq_not {s u : List UInt8} (h : (Op.bytesLess s u || s == u) = false) : u < s := by
 rw [bless_eq] at h
 simp only [Bool.or_eq_false_iff, decide_eq_false_iff_not, beq_eq_false_iff_ne] at h
 exact blt_tri s u h.1 h.2
set_option maxHeartbeats 1000000 in
theorem laws_pairsGood (I : Imm) (xs : List K2) (v : Value) (hS : Sl tK2 I v xs) (hlen : xs.length <= 2147483647) : Pure prog 15 [v] I fun w J => ∃ r, w = .bool r /\ (r = true -> Asc xs) := by
 have hS0 := hS
 obtain ⟨A, c, rfl, hc, hrow⟩ := hS0
 refine Spec.enter 26 [(0, _)] func15 rfl ntmps15 (by simp) rfl ?_
 intro C hCf hR hCI
 repeat (first | refine rS ?_ | refine Run.region ?_ | refine Ops.nil ?_ | refine rB ?_ | refine oP rfl ?_)
 refine Run.keep [0, 5, 6] [_, _, _] rfl ?_
 refine Run.rounds (fun m env L J => ∃ i : Nat, m = xs.length - i /\ i <= xs.length /\ (∀ j x y, j + 1 < i -> xs[j]? = some x -> xs[j + 1]? = some y -> x.1 < y.1) /\ env = [(0, .slice A xs.length c), (5, .int .i64 xs.length), (6, .int .i64 i)] /\ L = [] /\ J = I) xs.length
  ⟨0, by omega, by omega, by omega, rfl, rfl, rfl⟩ ?_
 rintro m env L J ⟨i, rfl, hi, hall, rfl, rfl, rfl⟩ ih
 repeat (first | refine rS ?_ | refine Run.region ?_ | refine Ops.nil ?_ | refine Ops.lss rfl (by decide) rfl rfl ?_)
 refine Run.cond rfl rfl (fun h => ?_) (fun h => ?_)
 all_goals (try rw [h])
 all_goals (try simp only [decide_eq_true_eq, decide_eq_false_iff_not, Bool.not_eq_true', Bool.not_eq_false', Bool.and_eq_true, Bool.or_eq_true, Bool.and_eq_false_imp, Bool.or_eq_false_iff] at h)
 ·have hi' : i < xs.length := by omega
  repeat (first | refine rS ?_ | refine Run.region ?_ | refine Ops.nil ?_ | refine rK ?_ | refine rB ?_ | refine oP rfl ?_)
  rcases Nat.eq_zero_or_pos i with rfl | hpos
  ·skip
   refine Run.regionAny (Holds J []) (bl 16 0) (by kernel_rfl) (by kernel_rfl) (RAny.tk 0 (bl 16 1) rfl (by kernel_rfl) dc (fun W h => h.holds (Le.refl _) (by first | exact mp rfl | exact mq rfl)) (Yld.eval T rfl rfl) (RAny.tk 1 (bl 16 3) rfl (by kernel_rfl) dc (fun W h => h.holds (Le.refl _) (by first | exact mp rfl | exact mq rfl)) (Yld.as (v' := .bool false) (Yld.gtr rfl rfl rfl) (by simp)) (RAny.tk 2 (bl 16 7) rfl (by kernel_rfl) dc (fun W h => h.holds (Le.refl _) (by first | exact mp rfl | exact mq rfl)) (Yld.eval T rfl rfl) (RAny.tk 3 (bl 16 15) rfl (by kernel_rfl) dc (fun W h => h.holds (Le.refl _) (by first | exact mp rfl | exact mq rfl)) (Yld.off rfl) (RAny.tk 4 (bl 16 31) rfl (by kernel_rfl) dc (fun W h => h.holds (Le.refl _) (by first | exact mp rfl | exact mq rfl)) (Yld.off rfl) ?_)))))
   refine RAny.tk 5 (bl 16 63) rfl (by kernel_rfl) dc (fun W h => h.holds (Le.refl _) (by first | exact mp rfl | exact mq rfl)) (Yld.off rfl) (RAny.tk 6 (bl 16 127) rfl (by kernel_rfl) dc (fun W h => h.holds (Le.refl _) (by first | exact mp rfl | exact mq rfl)) (Yld.off rfl) (RAny.tk 7 (bl 16 255) rfl (by kernel_rfl) dc (fun W h => h.holds (Le.refl _) (by first | exact mp rfl | exact mq rfl)) (Yld.off rfl) (RAny.tk 8 (bl 16 511) rfl (by kernel_rfl) dc (fun W h => h.holds (Le.refl _) (by first | exact mp rfl | exact mq rfl)) (Yld.off rfl) (RAny.tk 9 (bl 16 1023) rfl (by kernel_rfl) dc (fun W h => h.holds (Le.refl _) (by first | exact mp rfl | exact mq rfl)) (Yld.off rfl) (RAny.tk 10 (bl 16 2047) rfl (by kernel_rfl) dc (fun W h => h.holds (Le.refl _) (by first | exact mp rfl | exact mq rfl)) (Yld.off rfl) ?_)))))
   refine RAny.tk 11 (bl 16 4095) rfl (by kernel_rfl) dc (fun W h => h.holds (Le.refl _) (by first | exact mp rfl | exact mq rfl)) (Yld.off rfl) (RAny.tk 12 (bl 16 8191) rfl (by kernel_rfl) dc (fun W h => h.holds (Le.refl _) (by first | exact mp rfl | exact mq rfl)) (Yld.off rfl) (RAny.tk 13 (bl 16 16383) rfl (by kernel_rfl) dc (fun W h => h.holds (Le.refl _) (by first | exact mp rfl | exact mq rfl)) (Yld.off rfl) (RAny.tk 14 (bl 16 32767) rfl (by kernel_rfl) dc (fun W h => h.holds (Le.refl _) (by first | exact mp rfl | exact mq rfl)) (Yld.off rfl) (RAny.tk 15 (bl 16 65535) rfl (by kernel_rfl) dc (fun W h => h.holds (Le.refl _) (by first | exact mp rfl | exact mq rfl)) (Yld.eval T rfl rfl) (RAny.done _ (by kernel_rfl) ?_)))))
   repeat (first | refine Run.region ?_ | refine Ops.nil ?_ | refine rK ?_ | refine rI ?_ | refine rF rfl ?_ | refine Ops.add rfl (by decide) rfl rfl (wI (by first | omega | (simp only [List.length_cons, List.length_nil] ; omega) | (simp; omega)) (by first | omega | (simp only [List.length_cons, List.length_nil] ; omega) | (simp; omega))) ?_ | refine oP rfl ?_)
   refine Run.keep [0, 5, 6] [_, _, _] rfl ?_
   exact ih (xs.length - 1) _ _ _ (by omega) ⟨1, rfl, by omega, by omega, rfl, rfl, rfl⟩
  ·rcases hrow with rfl | ⟨b, off, rfl, hrow⟩
   ·simp at hi'
   obtain ⟨cs, hr, hA⟩ := hrow i xs[i] (List.getElem?_eq_getElem hi')
   obtain ⟨cs', hr', hA'⟩ := hrow (i - 1) xs[i - 1] (List.getElem?_eq_getElem (by omega))
   obtain rfl : cs = [str xs[i].1, str xs[i].2] := hr
   obtain rfl : cs' = [str xs[i - 1].1, str xs[i - 1].2] := hr'
   refine Run.regionAny (Holds J []) (bl 16 0) (by kernel_rfl) (by kernel_rfl) (RAny.tk 0 (bl 16 1) rfl (by kernel_rfl) dc (fun W h => h.holds (Le.refl _) (by first | exact mp rfl | exact mq rfl)) (Yld.eval T rfl rfl) (RAny.tk 1 (bl 16 3) rfl (by kernel_rfl) dc (fun W h => h.holds (Le.refl _) (by first | exact mp rfl | exact mq rfl)) (Yld.as (v' := .bool true) (Yld.gtr rfl rfl rfl) (by simp; omega)) (RAny.tk 2 (bl 16 7) rfl (by kernel_rfl) dc (fun W h => h.holds (Le.refl _) (by first | exact mp rfl | exact mq rfl)) (Yld.eval T rfl rfl) (RAny.tk 3 (bl 16 15) rfl (by kernel_rfl) dc (fun W h => h.holds (Le.refl _) (by first | exact mp rfl | exact mq rfl)) (Yld.eval T rfl rfl) (RAny.tk 4 (bl 16 31) rfl (by kernel_rfl) dc (fun W h => h.holds (Le.refl _) (by first | exact mp rfl | exact mq rfl)) (Yld.eval T rfl rfl) ?_)))))
   refine RAny.tk 5 (bl 16 63) rfl (by kernel_rfl) dc (fun W h => h.holds (Le.refl _) (by first | exact mp rfl | exact mq rfl)) (Yld.as (v' := .pointer (some ⟨b, off + i * tK2.size, none⟩)) (Yld.indexSl (t := tK2) T rfl rfl rfl rfl rfl rfl (by omega) (by omega)) (by simp)) (RAny.tk 6 (bl 16 127) rfl (by kernel_rfl) dc (fun W h => h.holds (Le.refl _) (by first | exact mp rfl | exact mq rfl)) (Yld.eval T rfl rfl) (RAny.tk 7 (bl 16 255) rfl (by kernel_rfl) dc (fun W h => h.holds (Le.refl _) (by first | exact mp rfl | exact mq rfl)) (Yld.loadI T (hA.cellAt 0 rfl) rfl rfl rfl) (RAny.tk 8 (bl 16 511) rfl (by kernel_rfl) dc (fun W h => h.holds (Le.refl _) (by first | exact mp rfl | exact mq rfl)) (Yld.eval T rfl rfl) (RAny.tk 9 (bl 16 1023) rfl (by kernel_rfl) dc (fun W h => h.holds (Le.refl _) (by first | exact mp rfl | exact mq rfl)) (Yld.eval T rfl rfl) ?_))))
   refine RAny.tk 10 (bl 16 2047) rfl (by kernel_rfl) dc (fun W h => h.holds (Le.refl _) (by first | exact mp rfl | exact mq rfl)) (Yld.sub rfl rfl rfl (wI (by omega) (by omega))) (RAny.tk 11 (bl 16 4095) rfl (by kernel_rfl) dc (fun W h => h.holds (Le.refl _) (by first | exact mp rfl | exact mq rfl)) (Yld.as (v' := .pointer (some ⟨b, off + (i - 1) * tK2.size, none⟩)) (Yld.indexSl (t := tK2) T rfl rfl rfl rfl rfl rfl (by omega) (by omega)) (by simp)) (RAny.tk 12 (bl 16 8191) rfl (by kernel_rfl) dc (fun W h => h.holds (Le.refl _) (by first | exact mp rfl | exact mq rfl)) (Yld.eval T rfl rfl) (RAny.tk 13 (bl 16 16383) rfl (by kernel_rfl) dc (fun W h => h.holds (Le.refl _) (by first | exact mp rfl | exact mq rfl)) (Yld.loadI T (hA'.cellAt 0 rfl) rfl rfl rfl) ?_)))
   cases hle : (Op.bytesLess xs[i].1 xs[i - 1].1 || xs[i].1 == xs[i - 1].1) with
   | true =>
    skip
    refine RAny.tk 14 (bl 16 32767) rfl (by kernel_rfl) dc (fun W h => h.holds (Le.refl _) (by first | exact mp rfl | exact mq rfl)) (Yld.as (v' := .bool true) (Yld.leqS rfl rfl rfl) (by rw [hle])) (RAny.tk 15 (bl 16 65535) rfl (by kernel_rfl) dc (fun W h => h.holds (Le.refl _) (by first | exact mp rfl | exact mq rfl)) (Yld.eval T rfl rfl) (RAny.done _ (by kernel_rfl) ?_))
    repeat (first | refine rS ?_ | refine Run.region ?_ | refine Ops.nil ?_ | refine rT rfl ?_ | refine oP rfl ?_)
    refine Run.fin (Run.ret1 (by rw [hCf]; exact func15) results15 rfl (hR _ _ _ ?_))
    exact ⟨rfl, false, rfl, by simp⟩
    skip
   | false =>
    refine RAny.tk 14 (bl 16 32767) rfl (by kernel_rfl) dc (fun W h => h.holds (Le.refl _) (by first | exact mp rfl | exact mq rfl)) (Yld.as (v' := .bool false) (Yld.leqS rfl rfl rfl) (by rw [hle])) (RAny.tk 15 (bl 16 65535) rfl (by kernel_rfl) dc (fun W h => h.holds (Le.refl _) (by first | exact mp rfl | exact mq rfl)) (Yld.eval T rfl rfl) (RAny.done _ (by kernel_rfl) ?_))
    repeat (first | refine Run.region ?_ | refine Ops.nil ?_ | refine rK ?_ | refine rI ?_ | refine rF rfl ?_ | refine Ops.add rfl (by decide) rfl rfl (wI (by first | omega | (simp only [List.length_cons, List.length_nil] ; omega) | (simp; omega)) (by first | omega | (simp only [List.length_cons, List.length_nil] ; omega) | (simp; omega))) ?_ | refine oP rfl ?_)
    refine Run.keep [0, 5, 6] [_, _, _] rfl ?_
    refine ih (xs.length - (i + 1)) _ _ _ (by omega) ⟨i + 1, rfl, by omega, ?_, by simp, rfl, rfl⟩
    intro j x y hj hx hy
    by_cases hji : j + 1 < i
    ·exact hall j x y hji hx hy
    ·obtain rfl : i = j + 1 := by omega
     simp only [Nat.add_sub_cancel] at hle
     rw [List.getElem?_eq_getElem (by omega)] at hx hy
     cases hx
     cases hy
     exact bleq_not hle
 ·have : i = xs.length := by omega
  subst this
  repeat (first | refine rS ?_ | refine Run.region ?_ | refine Ops.nil ?_ | refine Run.exit rfl ?_ | refine oP rfl ?_)
  refine Run.fin (Run.ret1 (by rw [hCf]; exact func15) results15 rfl (hR _ _ _ ?_))
  refine ⟨rfl, true, rfl, fun _ j x y hx hy => hall j x y ?_ hx hy⟩
  rcases Nat.lt_or_ge (j + 1) xs.length with h | h
  ·exact h
  ·rw [List.getElem?_eq_none h] at hy; cases hy
end Go.V
namespace Go.V
open Go.RowKit
def ix (c : UInt8) : List UInt8 -> Option Nat
 | [] => none
 | x :: r => if x = c then some 0 else (ix c r).map (· + 1)
def ixI (c : UInt8) (s : List UInt8) : Int := match ix c s with | some k => k | none => -1
theorem ix_drop (c : UInt8) (s : List UInt8) (i : Nat) (h : i < s.length) : ix c (s.drop i) = if s.getD i 0 = c then some 0 else (ix c (s.drop (i + 1))).map (· + 1) := by
 have h1 : s.drop i = s[i] :: s.drop (i + 1) := List.drop_eq_getElem_cons h
 rw [h1, ix]
 simp [List.getD_eq_getElem?_getD, h]
theorem cut1 (s : List UInt8) (i : Nat) (h : i < s.length) : (s.take (i + 1)).drop i = [s.getD i 0] := by
 rw [List.drop_take]
 have h1 : s.drop i = s[i] :: s.drop (i + 1) := List.drop_eq_getElem_cons h
 have h2 : i + 1 - i = 1 := by omega
 rw [h2, h1, List.take_succ_cons, List.take_zero]; simp [List.getD_eq_getElem?_getD, h]
theorem ix_lt {c : UInt8} : ∀ {s : List UInt8} {k : Nat}, ix c s = some k -> k < s.length
 | [], k, h => by simp [ix] at h
 | x :: r, k, h => by
  simp only [ix] at h
  split at h
  ·simp at h; subst h; simp
  ·cases hr : ix c r with
   | none => rw [hr] at h; simp at h
   | some j =>
    rw [hr] at h; simp at h
    have := ix_lt hr
    simp; omega
theorem u8_inj {a b : UInt8} : ((a.toNat : Int) = (b.toNat : Int)) ↔ a = b := by
 constructor
 ·intro h; exact UInt8.toNat_inj.1 (by omega)
 ·intro h; rw [h]
end Go.V
namespace Go.V
abbrev Tx := List UInt8
def allIn (cs s : Tx) : Bool := s.all fun b => cs.contains b
def hasB (c : UInt8) (s : Tx) : Bool := s.contains c
def hexT : Tx := [48, 49, 50, 51, 52, 53, 54, 55, 56, 57, 97, 98, 99, 100, 101, 102]
def sWithin (s cs : Tx) (a b : Nat) : Bool := allIn cs s && (decide (a <= s.length) && decide (s.length <= b))
def lx (c : UInt8) : Tx -> Option Nat
 | [] => none
 | x :: r => match lx c r with
  | some k => some (k + 1)
  | none => if x = c then some 0 else none
def digGood (s : Tx) : Bool := decide (s.length = 71) && (decide (s.take 7 = [115, 104, 97, 50, 53, 54, 58]) && sWithin (s.drop 7) hexT 64 64)
end Go.V
namespace Go.V
set_option maxRecDepth 10000
theorem hasB_false {c : UInt8} {s : Tx} : hasB c s = false ↔ ∀ b ∈ s, b ≠ c := by
 unfold hasB
 constructor
 ·intro h b hb e
  subst e
  have : s.contains b = true := List.contains_iff_mem.2 hb
  rw [this] at h; cases h
 ·intro h
  cases hc : s.contains c with
  | false => rfl
  | true => exact absurd rfl (h c (List.contains_iff_mem.1 hc))
theorem hasB_true {c : UInt8} {s : Tx} : hasB c s = true ↔ c ∈ s := List.contains_iff_mem
theorem hasB_cons {c b : UInt8} {u : Tx} : hasB c (b :: u) = (decide (b = c) || hasB c u) := by
 rw [Bool.eq_iff_iff]
 simp only [hasB_true, List.mem_cons, Bool.or_eq_true, decide_eq_true_eq]
 exact ⟨fun h => h.imp Eq.symm id, fun h => h.imp Eq.symm id⟩
theorem ix_none {c : UInt8} : ∀ {s : Tx}, ix c s = none ↔ hasB c s = false
 | [] => by simp [ix, hasB]
 | x :: r => by
  rw [hasB_cons]
  simp only [ix]
  by_cases h : x = c
  ·simp [h]
  ·rw [if_neg h, Option.map_eq_none_iff, ix_none (s := r)]
   simp [h]
theorem ix_app {c : UInt8} {y : Tx} : ∀ {x : Tx}, hasB c x = false -> ix c (x ++ c :: y) = some x.length
 | [], _ => by simp [ix]
 | b :: r, h => by
  rw [hasB_cons, Bool.or_eq_false_iff] at h
  have h1 : b ≠ c := of_decide_eq_false h.1
  simp [ix, h1, ix_app h.2]
theorem lx_none {c : UInt8} : ∀ {s : Tx}, lx c s = none ↔ hasB c s = false
 | [] => by simp [lx, hasB]
 | x :: r => by
  rw [hasB_cons]
  simp only [lx]
  cases hr : lx c r with
  | none =>
   have := lx_none.1 hr
   by_cases h : x = c
   ·simp [h]
   ·simp [h, this]
  | some k =>
   have : hasB c r = true := by
    cases hb : hasB c r with
    | true => rfl
    | false => rw [lx_none.2 hb] at hr; cases hr
   simp [this]
theorem lx_app {c : UInt8} {y : Tx} (hy : hasB c y = false) : ∀ {x : Tx}, lx c (x ++ c :: y) = some x.length
 | [] => by simp [lx, lx_none.2 hy]
 | b :: r => by simp [lx, lx_app hy (x := r)]
theorem ix_split {c : UInt8} {s : Tx} {k : Nat} (h : ix c s = some k) : s = s.take k ++ c :: s.drop (k + 1) /\ hasB c (s.take k) = false := by
 induction s generalizing k with
 | nil => simp [ix] at h
 | cons x r ih =>
  simp only [ix] at h
  split at h
  ·rename_i hx
   cases h
   subst hx
   exact ⟨by simp, by simp [hasB]⟩
  ·rename_i hx
   cases hr : ix c r with
   | none => rw [hr] at h; simp at h
   | some j =>
    rw [hr] at h
    simp only [Option.map_some, Option.some.injEq] at h
    subst h
    obtain ⟨h1, h2⟩ := ih hr
    refine ⟨by simpa using h1, ?_⟩
    rw [List.take_succ_cons, hasB_cons, h2]
    simp [hx]
theorem allIn_mem {cs s : Tx} : allIn cs s = true ↔ ∀ b ∈ s, b ∈ cs := by simp [allIn]
theorem allIn_not {cs s : Tx} (c : UInt8) (h : allIn cs s = true) (hc : cs.contains c = false) : hasB c s = false :=
 hasB_false.2 fun b hb e => by
  have := allIn_mem.1 h b hb
  subst e
  rw [List.contains_iff_mem.2 this] at hc; cases hc
theorem allIn_app {cs s u : Tx} : allIn cs (s ++ u) = (allIn cs s && allIn cs u) := by simp [allIn]
end Go.V
namespace Go.V
def okRune (r : Nat) : Prop := r < 55296 \/ (57343 < r /\ r <= 1114111)
theorem cont_big {x : Nat} (h : (x / 64 == 2) = true) : 128 <= x := by
 have : x / 64 = 2 := by simpa using h
 omega
theorem ba_size (s : Tx) : (ba s).size = s.length := str_size s
theorem runeAt_big (s : Tx) (p : Nat) (hp : p < s.length) (h : ¬ (s.getD p 0).toNat < 128) :
  128 <= (runeAt s p).1 /\ okRune (runeAt s p).1 /\ p + (runeAt s p).2 <= s.length /\ ∀ q, p <= q -> q < p + (runeAt s p).2 -> 128 <= (s.getD q 0).toNat := by
 have bad : (128 <= 0xFFFD /\ okRune 0xFFFD /\ p + 1 <= s.length /\ ∀ q, p <= q -> q < p + 1 -> 128 <= (s.getD q 0).toNat) :=
  ⟨by decide, .inr (by decide), by omega, fun q h1 h2 => by obtain rfl : q = p := by omega
                                                            omega⟩
 unfold runeAt Utf8.decode
 simp only [Nat.add_zero, ba_get, ba_size]
 rw [if_neg h]
 split
 ·rename_i h2
  simp only [Bool.and_eq_true, decide_eq_true_eq] at h2
  obtain ⟨_, h3, h4⟩ := h2
  have := cont_big h4
  split
  ·refine ⟨by simp only; omega, .inl (by simp only; omega), by simp only; omega, fun q q1 q2 => ?_⟩
   simp only at q2
   have : q = p \/ q = p + 1 := by omega
   rcases this with rfl | rfl <;> omega
  ·exact bad
 ·split
  ·rename_i h2
   simp only [Bool.and_eq_true, decide_eq_true_eq] at h2
   obtain ⟨⟨_, h3, h4⟩, h5, h6⟩ := h2
   have := cont_big h4
   have := cont_big h6
   split
   ·rename_i h7
    simp only [Bool.and_eq_true, decide_eq_true_eq, Utf8.valid, Bool.or_eq_true] at h7
    refine ⟨by simp only; omega, ?_, by simp only; omega, fun q q1 q2 => ?_⟩
    ·simp only [okRune]; omega
    ·simp only at q2
     have : q = p \/ q = p + 1 \/ q = p + 2 := by omega
     rcases this with rfl | rfl | rfl <;> omega
   ·exact bad
  ·split
   ·rename_i h2
    simp only [Bool.and_eq_true, decide_eq_true_eq] at h2
    obtain ⟨⟨⟨_, h3, h4⟩, h5, h6⟩, h8, h9⟩ := h2
    have := cont_big h4
    have := cont_big h6
    have := cont_big h9
    split
    ·rename_i h7
     simp only [Bool.and_eq_true, decide_eq_true_eq, Utf8.valid, Bool.or_eq_true] at h7
     refine ⟨by simp only; omega, ?_, by simp only; omega, fun q q1 q2 => ?_⟩
     ·simp only [okRune]; omega
     ·simp only at q2
      have : q = p \/ q = p + 1 \/ q = p + 2 \/ q = p + 3 := by omega
      rcases this with rfl | rfl | rfl | rfl <;> omega
    ·exact bad
   ·exact bad
def runesW (s : Tx) (p : Nat) : List Nat := if p < s.length then (runeAt s p).1 :: runesW s (p + (runeAt s p).2) else []
termination_by s.length - p
decreasing_by
 have := runeAt_width s p
 omega
theorem runesW_lt {s : Tx} {p : Nat} (h : p < s.length) : runesW s p = (runeAt s p).1 :: runesW s (p + (runeAt s p).2) := by rw [runesW, if_pos h]
theorem runesW_end {s : Tx} {p : Nat} (h : ¬ p < s.length) : runesW s p = [] := by rw [runesW, if_neg h]
theorem drop_cons {s : Tx} {p : Nat} (h : p < s.length) : s.drop p = s.getD p 0 :: s.drop (p + 1) := by
 rw [List.drop_eq_getElem_cons h]; simp [List.getD_eq_getElem?_getD, h]
theorem runes_step {s : Tx} {p : Nat} (hp : p < s.length) : ∃ ys, s.drop p = ys ++ s.drop (p + (runeAt s p).2) /\ p + (runeAt s p).2 <= s.length /\ okRune (runeAt s p).1 /\
  ((∃ b : UInt8, ys = [b] /\ (runeAt s p).1 = b.toNat /\ b.toNat < 128) \/ (ys ≠ [] /\ (∀ y ∈ ys, 128 <= y.toNat) /\ 128 <= (runeAt s p).1)) := by
 by_cases h : (s.getD p 0).toNat < 128
 ·rw [runeAt_ascii s p h]
  exact ⟨[s.getD p 0], by simpa using drop_cons hp, by simp only; omega, .inl (by simp only; omega), .inl ⟨_, rfl, rfl, h⟩⟩
 ·obtain ⟨h1, h2, h3, h4⟩ := runeAt_big s p hp h
  have hw := runeAt_width s p
  refine ⟨(s.drop p).take (runeAt s p).2, ?_, h3, h2, .inr ⟨?_, ?_, h1⟩⟩
  ·rw [<- List.drop_drop, List.take_append_drop]
  ·intro e
   have := congrArg List.length e
   simp at this; omega
  ·intro y hy
   obtain ⟨j, hj, rfl⟩ := List.mem_iff_getElem.1 hy
   simp only [List.length_take, List.length_drop] at hj
   have := h4 (p + j) (by omega) (by omega)
   rw [List.getD_eq_getElem?_getD, List.getElem?_eq_getElem (by omega)] at this
   simpa using this
theorem runes_ok {s : Tx} : ∀ (n p : Nat), s.length - p <= n -> ∀ r ∈ runesW s p, okRune r
 | 0, p, h, r, hr => by rw [runesW_end (by omega)] at hr; cases hr
 | n + 1, p, h, r, hr => by
  by_cases hp : p < s.length
  ·rw [runesW_lt hp] at hr
   obtain ⟨_, _, _, h2, _⟩ := runes_step hp
   have hw := runeAt_width s p
   rcases List.mem_cons.1 hr with rfl | hr
   ·exact h2
   ·exact runes_ok n _ (by omega) r hr
  ·rw [runesW_end hp] at hr; cases hr
theorem runes_mem {s : Tx} {c : UInt8} (hc : c.toNat < 128) : ∀ (n p : Nat), s.length - p <= n -> (c.toNat ∈ runesW s p ↔ c ∈ s.drop p)
 | 0, p, h => by rw [runesW_end (by omega), List.drop_eq_nil_of_le (by omega)]; simp
 | n + 1, p, h => by
  by_cases hp : p < s.length
  ·rw [runesW_lt hp]
   obtain ⟨ys, e, _, _, h3⟩ := runes_step hp
   have hw := runeAt_width s p
   have ih := runes_mem (s := s) hc n (p + (runeAt s p).2) (by omega)
   rw [e, List.mem_cons, List.mem_append, ih]
   rcases h3 with ⟨b, rfl, hb, hb'⟩ | ⟨_, h4, h5⟩
   ·rw [hb, List.mem_singleton]
    constructor <;> (rintro (h | h))
    ·exact .inl (UInt8.toNat_inj.1 h)
    ·exact .inr h
    ·exact .inl (by rw [h])
    ·exact .inr h
   ·constructor
    ·rintro (h | h)
     ·omega
     ·exact .inr h
    ·rintro (h | h)
     ·have := h4 c h; omega
     ·exact .inr h
  ·rw [runesW_end hp, List.drop_eq_nil_of_le (by omega)]; simp
def ascii (cs : Tx) : Prop := ∀ c ∈ cs, c.toNat < 128
theorem runes_map {s : Tx} (hs : ascii s) : ∀ (n p : Nat), s.length - p <= n -> runesW s p = (s.drop p).map UInt8.toNat
 | 0, p, h => by rw [runesW_end (by omega), List.drop_eq_nil_of_le (by omega)]; rfl
 | n + 1, p, h => by
  by_cases hp : p < s.length
  ·have hb : (s.getD p 0).toNat < 128 := by
    rw [List.getD_eq_getElem?_getD, List.getElem?_eq_getElem hp]
    exact hs _ (List.getElem_mem hp)
   rw [runesW_lt hp, runeAt_ascii s p hb, runes_map hs n (p + 1) (by omega), drop_cons hp]
   rfl
  ·rw [runesW_end hp, List.drop_eq_nil_of_le (by omega)]; rfl
theorem runes0 {s : Tx} (hs : ascii s) : runesW s 0 = s.map UInt8.toNat := by simpa using runes_map hs s.length 0 (by omega)
theorem inCs {cs : Tx} (hc : ascii cs) (r : Nat) : r ∈ runesW cs 0 ↔ ∃ c ∈ cs, c.toNat = r := by
 rw [runes0 hc]; simp
theorem runes_all {s cs : Tx} (hc : ascii cs) : ∀ (n p : Nat), s.length - p <= n -> ((runesW s p).all fun r => decide (r ∈ runesW cs 0)) = allIn cs (s.drop p)
 | 0, p, h => by rw [runesW_end (by omega), List.drop_eq_nil_of_le (by omega)]; rfl
 | n + 1, p, h => by
  by_cases hp : p < s.length
  ·rw [runesW_lt hp]
   obtain ⟨ys, e, _, _, h3⟩ := runes_step hp
   have hw := runeAt_width s p
   rw [List.all_cons, runes_all hc n (p + (runeAt s p).2) (by omega), e, allIn_app]
   congr 1
   rcases h3 with ⟨b, rfl, hb, hb'⟩ | ⟨h6, h4, h5⟩
   ·rw [hb, Bool.eq_iff_iff, decide_eq_true_eq, inCs hc, allIn_mem]
    constructor
    ·rintro ⟨c, h1, h2⟩ y hy
     rw [List.mem_singleton] at hy
     subst hy
     rw [<- UInt8.toNat_inj.1 h2]; exact h1
    ·intro h
     exact ⟨b, h b List.mem_cons_self, rfl⟩
   ·have e1 : decide ((runeAt s p).1 ∈ runesW cs 0) = false := decide_eq_false fun hm => by
     obtain ⟨c, h1, h2⟩ := (inCs hc _).1 hm
     have := hc c h1
     omega
    rw [e1]
    cases hys : allIn cs ys with
    | false => rfl
    | true =>
     cases ys with
     | nil => exact absurd rfl h6
     | cons y t =>
      have h7 := allIn_mem.1 hys y List.mem_cons_self
      have h8 := hc y h7
      have h9 := h4 y List.mem_cons_self
      omega
  ·rw [runesW_end hp, List.drop_eq_nil_of_le (by omega)]; rfl
theorem allIn_ascii {s cs : Tx} (hc : ascii cs) (h : allIn cs s = true) : ascii s := fun c hm => hc c (allIn_mem.1 h c hm)
theorem within_eq {s cs : Tx} {a b : Nat} (hc : ascii cs) : (((runesW s 0).all fun r => decide (r ∈ runesW cs 0)) && (decide (a <= (runesW s 0).length) && decide ((runesW s 0).length <= b))) = sWithin s cs a b := by
 have h := runes_all (s := s) hc s.length 0 (by omega)
 rw [List.drop_zero] at h
 rw [h, sWithin]
 cases ha : allIn cs s with
 | false => rfl
 | true => rw [runes0 (allIn_ascii hc ha), List.length_map]
theorem ascii_hex : ascii hexT := by unfold ascii; decide
end Go.V
namespace Go.V
open Go.Proofs.Tryz
open Go.RowKit
set_option maxRecDepth 10000
attribute [local irreducible] Run Ops
def u8 (c : UInt8) : Value := .int .u8 (c.toNat : Int)
theorem spec_firstOf (s : List UInt8) (c : UInt8) (I : Imm) (hs : s.length <= 4620000000000000000) :
  Pure prog 60 [str s, u8 c] I fun v J => v = .int .i64 (ixI c s) := by
 refine Spec.enter 18 [(0, _), (1, _)] func60 rfl ntmps60 (by simp) rfl ?_
 intro C hCf hR hCI
 repeat (first | refine rS ?_ | refine Run.region ?_ | refine Ops.nil ?_ | refine rB ?_ | refine oP rfl ?_ | refine Ops.lenS T rfl (by decide) rfl rfl ?_)
 refine Run.keep [0, 1, 7, 8] [_, _, _, _] rfl ?_
 refine Run.rounds (fun m env L J => ∃ i : Nat, m = s.length - i /\ i <= s.length /\ ix c s = (ix c (s.drop i)).map (· + i) /\ env = [(0, str s), (1, u8 c), (7, .int .i64 s.length), (8, .int .i64 i)] /\ L = [] /\ J = I) s.length ⟨0, by omega, by omega, by simp, rfl, rfl, rfl⟩ ?_
 rintro m env L J ⟨i, rfl, hi, hix, rfl, rfl, rfl⟩ ih
 repeat (first | refine rS ?_ | refine Run.region ?_ | refine Ops.nil ?_ | refine Ops.lss rfl (by decide) rfl rfl ?_)
 refine Run.cond rfl rfl (fun h => ?_) (fun h => ?_)
 all_goals (try rw [h])
 all_goals (try simp only [decide_eq_true_eq, decide_eq_false_iff_not, Bool.not_eq_true', Bool.not_eq_false', Bool.and_eq_true, Bool.or_eq_true, Bool.and_eq_false_imp, Bool.or_eq_false_iff] at h)
 ·have hi' : i < s.length := by omega
  have hx := ix_drop c s i hi'
  repeat (first | refine rS ?_ | refine Run.region ?_ | refine Ops.nil ?_ | refine rK ?_ | refine rB ?_ | refine Ops.eql rfl (by decide) rfl rfl ?_ | refine oP rfl ?_ | refine Ops.indexStr rfl (by decide) (T.undOk rfl) rfl rfl (by first | omega | (simp only [List.length_cons, List.length_nil] ; omega) | (simp; omega)) (by first | omega | (simp only [List.length_cons, List.length_nil] ; omega) | (simp; omega)) ?_)
  refine Run.cond rfl rfl (fun h2 => ?_) (fun h2 => ?_)
  all_goals (try rw [h2])
  all_goals (try simp only [decide_eq_true_eq, decide_eq_false_iff_not, Bool.not_eq_true', Bool.not_eq_false', Bool.and_eq_true, Bool.or_eq_true, Bool.and_eq_false_imp, Bool.or_eq_false_iff] at h2)
  ·have h3 : s.getD i 0 = c := u8_inj.1 h2
   rw [if_pos h3] at hx
   rw [hx] at hix
   repeat (first | refine rS ?_ | refine Run.region ?_ | refine Ops.nil ?_ | refine oP rfl ?_)
   refine Run.fin (Run.ret1 (by rw [hCf]; exact func60) results60 rfl (hR _ _ _ ?_))
   exact ⟨rfl, by simp [ixI, hix]⟩
  ·have h3 : ¬ s.getD i 0 = c := fun h => h2 (u8_inj.2 h)
   rw [if_neg h3] at hx
   repeat (first | refine Run.region ?_ | refine Ops.nil ?_ | refine rK ?_ | refine rI ?_ | refine Ops.add rfl (by decide) rfl rfl (wI (by first | omega | (simp only [List.length_cons, List.length_nil] ; omega) | (simp; omega)) (by first | omega | (simp only [List.length_cons, List.length_nil] ; omega) | (simp; omega))) ?_ | refine oP rfl ?_)
   refine Run.keep [0, 1, 7, 8] [_, _, _, _] rfl ?_
   refine ih (s.length - (i + 1)) _ _ _ (by omega) ⟨i + 1, rfl, by omega, ?_, rfl, rfl, rfl⟩
   rw [hix, hx]; simp [Option.map_map]; congr 1; funext x; simp; omega
 ·have hi' : i = s.length := by omega
  subst hi'
  repeat (first | refine rS ?_ | refine Run.region ?_ | refine Ops.nil ?_ | refine Run.exit rfl ?_ | refine oP rfl ?_)
  refine Run.fin (Run.ret1 (by rw [hCf]; exact func60) results60 rfl (hR _ _ _ ?_))
  simp [ix] at hix
  exact ⟨rfl, by simp [ixI, hix]⟩
def lxI (c : UInt8) (s : Tx) : Int := match lx c s with
 | some k => k
 | none => -1
theorem spec_lastOf (s : Tx) (c : UInt8) (I : Imm) (hs : s.length <= 4620000000000000000) :
  Pure prog 61 [str s, u8 c] I fun v J => v = .int .i64 (lxI c s) := by
 refine Spec.enter 19 [(0, _), (1, _)] func61 rfl ntmps61 (by simp) rfl ?_
 intro C hCf hR hCI
 repeat (first | refine rS ?_ | refine Run.region ?_ | refine Ops.nil ?_ | refine rB ?_ | refine Ops.sub rfl (by decide) rfl rfl (wI (by first | omega | (simp only [List.length_cons, List.length_nil] ; omega) | (simp; omega)) (by first | omega | (simp only [List.length_cons, List.length_nil] ; omega) | (simp; omega))) ?_ | refine oP rfl ?_ | refine Ops.lenS T rfl (by decide) rfl rfl ?_)
 refine Run.keep [0, 1, 5] [_, _, _] rfl ?_
 refine Run.rounds (fun m env L J => ∃ j : Nat, m = j /\ j <= s.length /\ hasB c (s.drop j) = false /\ env = [(0, str s), (1, u8 c), (5, .int .i64 ((j : Int) - 1))] /\ L = [] /\ J = I) s.length ⟨s.length, rfl, by omega, by simp [hasB], rfl, rfl, rfl⟩ ?_
 rintro j env L J ⟨_, rfl, hj, hno, rfl, rfl, rfl⟩ ih
 repeat (first | refine rS ?_ | refine Run.region ?_ | refine Ops.nil ?_ | refine Ops.geq rfl (by decide) rfl rfl ?_ | refine oP rfl ?_)
 refine Run.cond rfl rfl (fun h => ?_) (fun h => ?_)
 all_goals (try rw [h])
 all_goals (try simp only [decide_eq_true_eq, decide_eq_false_iff_not, Bool.not_eq_true', Bool.not_eq_false', Bool.and_eq_true, Bool.or_eq_true, Bool.and_eq_false_imp, Bool.or_eq_false_iff] at h)
 ·obtain ⟨i, rfl⟩ : ∃ i, j = i + 1 := ⟨j - 1, by omega⟩
  have hi' : i < s.length := by omega
  have e1 : ((i + 1 : Nat) : Int) - 1 = i := by omega
  rw [e1]
  repeat (first | refine rS ?_ | refine Run.region ?_ | refine Ops.nil ?_ | refine rK ?_ | refine rB ?_ | refine Ops.eql rfl (by decide) rfl rfl ?_ | refine oP rfl ?_ | refine Ops.indexStr rfl (by decide) (T.undOk rfl) rfl rfl (by first | omega | (simp only [List.length_cons, List.length_nil] ; omega) | (simp; omega)) (by first | omega | (simp only [List.length_cons, List.length_nil] ; omega) | (simp; omega)) ?_)
  have hd := drop_cons hi'
  refine Run.cond rfl rfl (fun h2 => ?_) (fun h2 => ?_)
  all_goals (try rw [h2])
  all_goals (try simp only [decide_eq_true_eq, decide_eq_false_iff_not, Bool.not_eq_true', Bool.not_eq_false', Bool.and_eq_true, Bool.or_eq_true, Bool.and_eq_false_imp, Bool.or_eq_false_iff] at h2)
  ·have h3 : s.getD i 0 = c := u8_inj.1 (by simpa using h2)
   repeat (first | refine rS ?_ | refine Run.region ?_ | refine Ops.nil ?_ | refine oP rfl ?_)
   refine Run.fin (Run.ret1 (by rw [hCf]; exact func61) results61 rfl (hR _ _ _ ?_))
   refine ⟨rfl, ?_⟩
   have : lx c s = some i := by
    conv => lhs; rw [<- List.take_append_drop i s, hd, h3]
    rw [lx_app hno]; simp; omega
   simp [lxI, this]
  ·have h3 : ¬ s.getD i 0 = c := fun h => h2 (by simpa using u8_inj.2 h)
   repeat (first | refine Run.region ?_ | refine Ops.nil ?_ | refine rK ?_ | refine rI ?_ | refine Ops.sub rfl (by decide) rfl rfl (wI (by first | omega | (simp only [List.length_cons, List.length_nil] ; omega) | (simp; omega)) (by first | omega | (simp only [List.length_cons, List.length_nil] ; omega) | (simp; omega))) ?_ | refine oP rfl ?_)
   refine Run.keep [0, 1, 5] [_, _, _] rfl ?_
   refine ih i _ _ _ (by omega) ⟨i, rfl, by omega, ?_, rfl, rfl, rfl⟩
   rw [hd, hasB_cons, hno, decide_eq_false h3]; rfl
 ·obtain rfl : j = 0 := by omega
  repeat (first | refine rS ?_ | refine Run.region ?_ | refine Ops.nil ?_ | refine Run.exit rfl ?_ | refine oP rfl ?_)
  refine Run.fin (Run.ret1 (by rw [hCf]; exact func61) results61 rfl (hR _ _ _ ?_))
  refine ⟨rfl, ?_⟩
  have : lx c s = none := lx_none.2 (by simpa using hno)
  simp [lxI, this]
def inR (r : Nat) (cs : Tx) : Bool := decide (r ∈ runesW cs 0)
def allR (s cs : Tx) : Bool := (runesW s 0).all fun r => inR r cs
theorem memD (r x : Nat) (l : List Nat) : decide (r ∈ x :: l) = (decide ((r : Int) = (x : Int)) || decide (r ∈ l)) := by
 by_cases h : r = x
 ·subst h; simp
 ·have : decide ((r : Int) = (x : Int)) = false := decide_eq_false (by omega)
  rw [this]; simp [h]
set_option maxHeartbeats 2000000 in
theorem spec_within (I : Imm) (s cs : Tx) (a b : Nat) (hs : s.length <= 4620000000000000000) (hc : cs.length <= 4620000000000000000) : Pure prog 68 [str s, str cs, .int .i64 a, .int .i64 b] I fun w J =>
  w = .bool (allR s cs && (decide (a <= (runesW s 0).length) && decide ((runesW s 0).length <= b))) := by
 refine Spec.enter 43 [(0, _), (1, _), (2, _), (3, _)] func68 rfl ntmps68 (by simp) rfl ?_
 intro C hCf hR hCI
 repeat (first | refine rS ?_ | refine Run.region ?_ | refine Ops.nil ?_ | refine oP rfl ?_)
 refine Ops.rangeStr T rfl dc rfl rfl (fun b1 => ?_)
 refine Ops.nil ?_; refine rB ?_
 refine Run.keep [0, 1, 2, 3, 9, 16] [_, _, _, _, _, _] rfl ?_
 refine Run.rounds (fun m env L J => ∃ p k : Nat, m = s.length - p /\ p <= s.length /\ k <= p /\ k + (runesW s p).length = (runesW s 0).length /\ ((runesW s p).all fun r => inR r cs) = allR s cs /\
  env = [(0, str s), (1, str cs), (2, .int .i64 a), (3, .int .i64 b), (9, .int .i64 k), (16, .pointer (some ⟨b1, 0, none⟩))] /\ L = [(b1, .stringIter (ba s) p)] /\ J = I) s.length ⟨0, 0, by omega, by omega, by omega, by simp, rfl, rfl, rfl, rfl⟩ ?_
 rintro m env L J ⟨p, k, rfl, hp, hk, hlen, hall, rfl, rfl, rfl⟩ ih
 by_cases hlt : p < s.length
 ·have hw := runeAt_width s p
  obtain ⟨_, _, hpw, _, _⟩ := runes_step hlt
  rw [runesW_lt hlt] at hlen hall
  refine rS ?_; refine Run.region ?_
  refine Ops.nextStr 0 rfl dc rfl rfl hlt ?_
  generalize runeAt s p = rw at *
  obtain ⟨r, w⟩ := rw
  simp only at hw hpw hlen hall
  repeat (first | refine rS ?_ | refine Run.region ?_ | refine Ops.nil ?_ | refine rK ?_ | refine rB ?_ | refine rT rfl ?_ | refine Ops.add rfl (by decide) rfl rfl (wI (by first | omega | (simp only [List.length_cons, List.length_nil] ; omega) | (simp; omega)) (by first | omega | (simp only [List.length_cons, List.length_nil] ; omega) | (simp; omega))) ?_ | refine oP rfl ?_)
  refine Ops.rangeStr T rfl dc rfl rfl (fun b2 => ?_)
  refine Ops.nil ?_; refine rB ?_
  refine Run.keep [0, 1, 2, 3, 9, 16, 11, 12, 23] [_, _, _, _, _, _, _, _, _] rfl ?_
  refine Run.rounds (fun m env L K => ∃ (q : Nat) (fd : Bool), m = cs.length - q /\ q <= cs.length /\ (fd || decide (r ∈ runesW cs q)) = inR r cs /\
   env = [(0, str s), (1, str cs), (2, .int .i64 a), (3, .int .i64 b), (9, .int .i64 ((k : Int) + 1)), (16, .pointer (some ⟨b1, 0, none⟩)), (11, .int .i32 r), (12, .bool fd), (23, .pointer (some ⟨b2, 0, none⟩))] /\
   L = [(b2, .stringIter (ba cs) q), (b1, .stringIter (ba s) (p + w))] /\ K = J) cs.length ⟨0, false, by omega, by omega, by simp [inR], rfl, rfl, rfl⟩ ?_
  rintro m env L K ⟨q, fd, rfl, hq, hfd, rfl, rfl, rfl⟩ ih2
  by_cases hqt : q < cs.length
  ·have hw2 := runeAt_width cs q
   obtain ⟨_, _, hpw2, _, _⟩ := runes_step hqt
   rw [runesW_lt hqt, memD, <- Bool.or_assoc] at hfd
   refine rS ?_; refine Run.region ?_
   refine Ops.nextStr 0 rfl dc rfl rfl hqt ?_
   generalize runeAt cs q = rw at *
   obtain ⟨x, w2⟩ := rw
   simp only at hw2 hpw2 hfd
   cases fd with
   | true =>
    repeat (first | refine rS ?_ | refine Run.region ?_ | refine Ops.nil ?_ | refine rK ?_ | refine rB ?_ | refine rI ?_ | refine rT rfl ?_ | refine Ops.not rfl (by decide) ?_ | refine oP rfl ?_)
    refine Run.keep [0, 1, 2, 3, 9, 16, 11, 12, 23] [_, _, _, _, _, _, _, _, _] rfl ?_
    refine ih2 (cs.length - (q + w2)) _ _ _ (by omega) ⟨q + w2, true, rfl, by omega, by simpa using hfd, rfl, rfl, rfl⟩
   | false =>
    repeat (first | refine rS ?_ | refine Run.region ?_ | refine Ops.nil ?_ | refine rK ?_ | refine rB ?_ | refine rI ?_ | refine rT rfl ?_ | refine Ops.eql rfl (by decide) rfl rfl ?_ | refine oP rfl ?_)
    refine Run.keep [0, 1, 2, 3, 9, 16, 11, 12, 23] [_, _, _, _, _, _, _, _, _] rfl ?_
    refine ih2 (cs.length - (q + w2)) _ _ _ (by omega) ⟨q + w2, decide ((r : Int) = (x : Int)), rfl, by omega, by simpa using hfd, rfl, rfl, rfl⟩
  ·rw [runesW_end hqt] at hfd
   refine rS ?_; refine Run.region ?_
   refine Ops.nextStrEnd 0 rfl dc rfl rfl hqt ?_
   cases fd with
   | false =>
    repeat (first | refine rS ?_ | refine Run.region ?_ | refine Ops.nil ?_ | refine Run.exit rfl ?_ | refine rT rfl ?_ | refine rF rfl ?_ | refine oP rfl ?_)
    refine Run.fin (Run.ret1 (by rw [hCf]; exact func68) results68 rfl (hR _ _ _ ?_))
    refine ⟨rfl, ?_⟩
    have : inR r cs = false := by rw [<- hfd]; simp
    rw [<- hall, List.all_cons, this]; rfl
   | true =>
    have hi : inR r cs = true := by rw [<- hfd]; simp
    rw [List.all_cons, hi, Bool.true_and] at hall
    repeat (first | refine rS ?_ | refine Run.region ?_ | refine Ops.nil ?_ | refine rK ?_ | refine rI ?_ | refine Run.exit rfl ?_ | refine rF rfl ?_ | refine oP rfl ?_)
    refine Run.dropL (List.sublist_cons_self _ _) ?_
    refine Run.keep [0, 1, 2, 3, 9, 16] [_, _, _, _, _, _] rfl ?_
    refine ih (s.length - (p + w)) _ _ _ (by omega) ⟨p + w, k + 1, rfl, by omega, by omega, by simp only [List.length_cons] at hlen; omega, hall, rfl, rfl, rfl⟩
 ·rw [runesW_end hlt] at hlen hall
  refine rS ?_; refine Run.region ?_
  refine Ops.nextStrEnd 0 rfl dc rfl rfl hlt ?_
  repeat (first | refine rS ?_ | refine Run.region ?_ | refine Ops.nil ?_ | refine Run.exit rfl ?_ | refine rF rfl ?_ | refine Ops.geq rfl (by decide) rfl rfl ?_ | refine oP rfl ?_)
  have hk' : k = (runesW s 0).length := by simpa using hlen
  cases h : decide ((a : Int) <= (k : Int)) with
  | false =>
   repeat (first | refine Ops.nil ?_ | refine Ops.not rfl (by decide) ?_ | refine oP rfl ?_)
   refine Run.fin (Run.ret1 (by rw [hCf]; exact func68) results68 rfl (hR _ _ _ ?_))
   have := of_decide_eq_false h
   have h2 : decide (a <= (runesW s 0).length) = false := decide_eq_false (by omega)
   exact ⟨rfl, by rw [<- hall, h2]; rfl⟩
  | true =>
   repeat (first | refine Ops.nil ?_ | refine Ops.leq rfl (by decide) rfl rfl ?_ | refine oP rfl ?_)
   refine Run.fin (Run.ret1 (by rw [hCf]; exact func68) results68 rfl (hR _ _ _ ?_))
   have := of_decide_eq_true h
   have h2 : decide (a <= (runesW s 0).length) = true := decide_eq_true (by omega)
   refine ⟨rfl, ?_⟩
   rw [<- hall, h2, <- hk']
   simp only [List.all_nil, Bool.true_and]
   congr 1
   rw [decide_eq_decide]; omega
theorem ixI_none {c : UInt8} {s : Tx} (h : ix c s = none) : ixI c s = -1 := by simp [ixI, h]
theorem ixI_eq {c : UInt8} {s : Tx} {k : Nat} (h : ix c s = some k) : ixI c s = k := by simp [ixI, h]
theorem spec_digestGood (I : Imm) (s : Tx) (hs : s.length <= 4620000000000000000) : Pure prog 62 [str s] I fun w J => w = .bool (digGood s) := by
 refine Spec.enter 16 [(0, _)] func62 rfl ntmps62 (by simp) rfl ?_
 intro C hCf hR hCI
 repeat (first | refine rS ?_ | refine Run.region ?_ | refine Ops.nil ?_ | refine Ops.eql rfl (by decide) rfl rfl ?_ | refine oP rfl ?_ | refine Ops.lenS T rfl (by decide) rfl rfl ?_)
 cases h : decide ((s.length : Int) = 71) with
 | false =>
  repeat (first | refine Ops.nil ?_ | refine Ops.not rfl (by decide) ?_ | refine oP rfl ?_)
  refine Run.fin (Run.ret1 (by rw [hCf]; exact func62) results62 rfl (hR _ _ _ ?_))
  have h' := of_decide_eq_false h
  exact ⟨rfl, by rw [digGood, decide_eq_false (show ¬ s.length = 71 by omega)]; rfl⟩
 | true =>
  have h' := of_decide_eq_true h
  repeat (first | refine Ops.eqlStr rfl (by decide) rfl rfl ?_ | refine oP rfl ?_ | refine Ops.sliceStrHi rfl (by decide) (T.undOk rfl) rfl rfl (by first | omega | (simp only [List.length_cons, List.length_nil] ; omega) | (simp; omega)) (by first | omega | (simp only [List.length_cons, List.length_nil] ; omega) | (simp; omega)) ?_)
  have e : decide (s.length = 71) = true := decide_eq_true (by omega)
  have e7 : (7 : Int).toNat = 7 := rfl
  rw [e7]
  cases h2 : decide (s.take 7 = [115, 104, 97, 50, 53, 54, 58]) with
  | false =>
   repeat (first | refine Ops.nil ?_ | refine Ops.not rfl (by decide) ?_ | refine oP rfl ?_)
   refine Run.fin (Run.ret1 (by rw [hCf]; exact func62) results62 rfl (hR _ _ _ ?_))
   exact ⟨rfl, by rw [digGood, e, h2]; rfl⟩
  | true =>
   refine oP rfl ?_; refine Ops.sliceStrLo rfl dc (T.undOk rfl) rfl rfl om om ?_
   refine Ops.call ((spec_within I (s.drop 7) hexT 64 64 (by simp; omega) dc)) rfl dc call68 rfl ?_
   rintro _ J l rfl
   repeat (first | refine Ops.nil ?_ | refine oP rfl ?_)
   refine Run.fin (Run.ret1 (by rw [hCf]; exact func62) results62 rfl (hR _ _ _ ?_))
   refine ⟨rfl, ?_⟩
   rw [digGood, e, h2, <- within_eq ascii_hex]
   rfl
set_option maxHeartbeats 400000 in
theorem v1_zzIndex (s : List UInt8) (c : UInt8) (I : Imm) (hs : s.length <= 4620000000000000000) :
  Pure prog 146 [str s, str [c]] I fun v _ => v = .int .i64 (ixI c s) := by
 refine Spec.enter 25 [(0, _), (1, _)] func146 rfl ntmps146 (by simp) rfl ?_
 intro C hCf hR hCI
 repeat (first | refine rS ?_ | refine Run.region ?_ | refine Ops.nil ?_ | refine rB ?_ | refine oP rfl ?_)
 refine Run.keep [0, 1, 5] [_, _, _] rfl ?_
 refine Run.rounds (fun m env L J => ∃ i : Nat, m = s.length - i /\ i <= s.length /\ ix c s = (ix c (s.drop i)).map (· + i) /\ env = [(0, str s), (1, str [c]), (5, .int .i64 i)] /\ L = [] /\ J = I) s.length ⟨0, by omega, by omega, by simp, rfl, rfl, rfl⟩ ?_
 rintro m env L J ⟨i, rfl, hi, hix, rfl, rfl, rfl⟩ ih
 repeat (first | refine rS ?_ | refine Run.region ?_ | refine Ops.nil ?_ | refine Ops.add rfl (by decide) rfl rfl (wI (by first | omega | (simp only [List.length_cons, List.length_nil] ; omega) | (simp; omega)) (by first | omega | (simp only [List.length_cons, List.length_nil] ; omega) | (simp; omega))) ?_ | refine Ops.leq rfl (by decide) rfl rfl ?_ | refine oP rfl ?_ | refine Ops.lenS T rfl (by decide) rfl rfl ?_)
 refine Run.cond rfl rfl (fun h => ?_) (fun h => ?_)
 all_goals (try rw [h])
 all_goals (try simp only [decide_eq_true_eq, decide_eq_false_iff_not, Bool.not_eq_true', Bool.not_eq_false', Bool.and_eq_true, Bool.or_eq_true, Bool.and_eq_false_imp, Bool.or_eq_false_iff] at h)
 ·have hi' : i < s.length := by simp at h; omega
  have hx := ix_drop c s i hi'
  have hcut : List.drop (Int.toNat (i : Int)) (List.take (Int.toNat ((i : Int) + (([c] : List UInt8).length : Int))) s) = [s.getD i 0] := by
   have : Int.toNat ((i : Int) + (([c] : List UInt8).length : Int)) = i + 1 := by simp
   rw [this, Int.toNat_natCast]; exact cut1 s i hi'
  repeat (first | refine rS ?_ | refine Run.region ?_ | refine Ops.nil ?_ | refine rK ?_ | refine rB ?_ | refine Ops.add rfl (by decide) rfl rfl (wI (by first | omega | (simp only [List.length_cons, List.length_nil] ; omega) | (simp; omega)) (by first | omega | (simp only [List.length_cons, List.length_nil] ; omega) | (simp; omega))) ?_ | refine Ops.eqlStr rfl (by decide) rfl rfl ?_ | refine oP rfl ?_ | refine Ops.lenS T rfl (by decide) rfl rfl ?_ | refine Ops.sliceStr rfl (by decide) (T.undOk rfl) rfl rfl rfl (by first | omega | (simp only [List.length_cons, List.length_nil] ; omega) | (simp; omega)) (by first | omega | (simp only [List.length_cons, List.length_nil] ; omega) | (simp; omega)) (by first | omega | (simp only [List.length_cons, List.length_nil] ; omega) | (simp; omega)) ?_)
  rw [hcut]
  refine Run.cond rfl rfl (fun h2 => ?_) (fun h2 => ?_)
  all_goals (try rw [h2])
  all_goals (try simp only [decide_eq_true_eq, decide_eq_false_iff_not, Bool.not_eq_true', Bool.not_eq_false', Bool.and_eq_true, Bool.or_eq_true, Bool.and_eq_false_imp, Bool.or_eq_false_iff] at h2)
  ·skip
   repeat (first | refine rS ?_ | refine Run.region ?_ | refine Ops.nil ?_ | refine oP rfl ?_)
   refine Run.fin (Run.ret1 (by rw [hCf]; exact func146) results146 rfl (hR _ _ _ ?_))
   have h3 : s.getD i 0 = c := by simpa using h2
   rw [if_pos h3] at hx
   rw [hx] at hix
   exact ⟨rfl, by simp [ixI, hix]⟩
  ·skip
   repeat (first | refine Run.region ?_ | refine Ops.nil ?_ | refine rK ?_ | refine rI ?_ | refine Ops.add rfl (by decide) rfl rfl (wI (by first | omega | (simp only [List.length_cons, List.length_nil] ; omega) | (simp; omega)) (by first | omega | (simp only [List.length_cons, List.length_nil] ; omega) | (simp; omega))) ?_ | refine oP rfl ?_)
   refine Run.keep [0, 1, 5] [_, _, _] rfl ?_
   have h3 : s.getD i 0 ≠ c := by simpa using h2
   rw [if_neg h3] at hx
   refine ih (s.length - (i + 1)) _ _ _ (by omega) ⟨i + 1, rfl, by omega, ?_, ?_, rfl, rfl⟩
   ·rw [hix, hx]; simp [Option.map_map]; congr 1; funext x; simp; omega
   ·simp
 ·have hi' : i = s.length := by simp at h; omega
  repeat (first | refine rS ?_ | refine Run.region ?_ | refine Ops.nil ?_ | refine Run.exit rfl ?_ | refine oP rfl ?_)
  refine Run.fin (Run.ret1 (by rw [hCf]; exact func146) results146 rfl (hR _ _ _ ?_))
  subst hi'
  simp [ix] at hix
  exact ⟨rfl, by simp [ixI, hix]⟩
end Go.V
namespace Go.V
open Go.Proofs.Tryz
open Go.RowKit
set_option maxRecDepth 10000
attribute [local irreducible] Run Ops QD
abbrev hashV (a h : Tx) : Value := .agg #[str a, str h]
def cutT (c : UInt8) (s : Tx) : Tx × Tx × Bool := match ix c s with
 | some k => (s.take k, s.drop (k + 1), true)
 | none => (s, [], false)
theorem v1_zzCut (I : Imm) (s : Tx) (c : UInt8) (hs : s.length <= 4620000000000000000) : Pure prog 142 [str s, str [c]] I fun w J => w = .tuple #[str (cutT c s).1, str (cutT c s).2.1, .bool (cutT c s).2.2] := by
 refine Spec.enter 23 [(0, _), (1, _)] func142 rfl ntmps142 (by simp) rfl ?_
 intro C hCf hR hCI
 repeat (first | refine rS ?_ | refine Run.region ?_ | refine Ops.nil ?_ | refine oP rfl ?_)
 refine Ops.call ((v1_zzIndex s c I hs)) rfl dc call146 rfl ?_
 rintro _ J1 l1 rfl
 cases hk : ix c s with
 | none =>
  rw [ixI_none hk]
  repeat (first | refine rS ?_ | refine Run.region ?_ | refine Ops.nil ?_ | refine rK ?_ | refine rF rfl ?_ | refine Ops.geq rfl (by decide) rfl rfl ?_ | refine oP rfl ?_)
  refine Run.fin (Run.ret3 (by rw [hCf]; exact func142) results142 rfl rfl rfl (hR _ _ _ ?_))
  exact ⟨rfl, by simp [cutT, hk]; rfl⟩
 | some k =>
  rw [ixI_eq hk]
  have hlt := ix_lt hk
  repeat (first | refine rS ?_ | refine Run.region ?_ | refine Ops.nil ?_ | refine rT rfl ?_ | refine Ops.geq rfl (by decide) rfl rfl ?_ | refine oP rfl ?_)
  rw [decide_eq_true (show (0 : Int) <= (k : Int) by omega)]
  skip
  refine rQ (fun Z hZ => (eE rfl (eE rfl (fE (Ev.cutSHi T rfl rfl rfl om om) (eE rfl (eE rfl (eE rfl (fE (Ev.lenS T rfl rfl) (fE (Ev.addI rfl rfl (wI om om)) (fE (Ev.cutSLo T rfl rfl rfl om om) (eE rfl (eE rfl (eE rfl (zN hZ ?_))))))))))))))
  skip
  refine Run.fin (Run.ret3 (by rw [hCf]; exact func142) results142 rfl rfl rfl (hR _ _ _ ?_))
  refine ⟨rfl, ?_⟩
  rw [show ((k : Int)).toNat = k by omega, show ((k : Int) + (([c] : List UInt8).length : Int)).toNat = k + 1 by simp]
  simp [cutT, hk]
theorem v1_zzInSet (I : Imm) (r : Nat) (cs : Tx) (hc : cs.length <= 4620000000000000000) : Pure prog 147 [.int .i32 r, str cs] I fun w J => w = .bool (inR r cs) := by
 refine Spec.enter 15 [(0, _), (1, _)] func147 rfl ntmps147 (by simp) rfl ?_
 intro C hCf hR hCI
 repeat (first | refine rS ?_ | refine Run.region ?_ | refine Ops.nil ?_ | refine oP rfl ?_)
 refine Ops.rangeStr T rfl dc rfl rfl (fun b2 => ?_)
 refine Ops.nil ?_; refine rB ?_
 refine Run.keep [0, 8] [_, _] rfl ?_
 refine Run.rounds (fun m env L K => ∃ (q : Nat), m = cs.length - q /\ q <= cs.length /\ decide (r ∈ runesW cs q) = inR r cs /\
   env = [(0, .int .i32 r), (8, .pointer (some ⟨b2, 0, none⟩))] /\ L = [(b2, .stringIter (ba cs) q)] /\ K = I) cs.length ⟨0, by omega, by omega, rfl, rfl, rfl, rfl⟩ ?_
 rintro m env L K ⟨q, rfl, hq, hin, rfl, rfl, rfl⟩ ih2
 by_cases hqt : q < cs.length
 ·have hw2 := runeAt_width cs q
  obtain ⟨_, _, hpw2, _, _⟩ := runes_step hqt
  rw [runesW_lt hqt, memD] at hin
  refine rS ?_; refine Run.region ?_
  refine Ops.nextStr 0 rfl dc rfl rfl hqt ?_
  generalize runeAt cs q = rw at *
  obtain ⟨x, w2⟩ := rw
  simp only at hw2 hpw2 hin
  repeat (first | refine rS ?_ | refine Run.region ?_ | refine Ops.nil ?_ | refine rK ?_ | refine rB ?_ | refine rT rfl ?_ | refine Ops.eql rfl (by decide) rfl rfl ?_ | refine oP rfl ?_)
  cases he : decide ((r : Int) = (x : Int)) with
  | true =>
   repeat (first | refine rS ?_ | refine Run.region ?_ | refine Ops.nil ?_ | refine rT rfl ?_ | refine oP rfl ?_)
   refine Run.fin (Run.ret1 (by rw [hCf]; exact func147) results147 rfl (hR _ _ _ ?_))
   rw [he, Bool.true_or] at hin
   exact ⟨rfl, by rw [<- hin]⟩
  | false =>
   rw [he, Bool.false_or] at hin
   repeat (first | refine rK ?_ | refine rI ?_ | refine rF rfl ?_)
   refine Run.keep [0, 8] [_, _] rfl ?_
   exact ih2 (cs.length - (q + w2)) _ _ _ (by omega) ⟨q + w2, rfl, by omega, hin, rfl, rfl, rfl⟩
 ·rw [runesW_end hqt] at hin
  refine rS ?_; refine Run.region ?_
  refine Ops.nextStrEnd 0 rfl dc rfl rfl hqt ?_
  repeat (first | refine rS ?_ | refine Run.region ?_ | refine Ops.nil ?_ | refine Run.exit rfl ?_ | refine rF rfl ?_ | refine oP rfl ?_)
  refine Run.fin (Run.ret1 (by rw [hCf]; exact func147) results147 rfl (hR _ _ _ ?_))
  exact ⟨rfl, by rw [<- hin]; rfl⟩
theorem v1_zzTrimLeft (I : Imm) (s cs : Tx) (hs : s.length <= 4620000000000000000) (hc : cs.length <= 4620000000000000000) : Pure prog 143 [str s, str cs] I fun w J => ∃ z : Tx, w = str z /\ decide (z.length = 0) = allR s cs := by
 refine Spec.enter 20 [(0, _), (1, _)] func143 rfl ntmps143 (by simp) rfl ?_
 intro C hCf hR hCI
 repeat (first | refine rS ?_ | refine Run.region ?_ | refine Ops.nil ?_ | refine oP rfl ?_)
 refine Ops.rangeStr T rfl dc rfl rfl (fun b1 => ?_)
 refine Ops.nil ?_; refine rB ?_
 refine Run.keep [0, 1, 8] [_, _, _] rfl ?_
 refine Run.rounds (fun m env L J => ∃ p : Nat, m = s.length - p /\ p <= s.length /\ ((runesW s p).all fun r => inR r cs) = allR s cs /\
  env = [(0, str s), (1, str cs), (8, .pointer (some ⟨b1, 0, none⟩))] /\ L = [(b1, .stringIter (ba s) p)] /\ Le I J) s.length ⟨0, by omega, by omega, rfl, rfl, rfl, Le.refl _⟩ ?_
 rintro m env L J ⟨p, rfl, hp, hall, rfl, rfl, hle⟩ ih
 by_cases hlt : p < s.length
 ·have hw := runeAt_width s p
  obtain ⟨_, _, hpw, _, _⟩ := runes_step hlt
  rw [runesW_lt hlt, List.all_cons] at hall
  refine rS ?_; refine Run.region ?_
  refine Ops.nextStr 0 rfl dc rfl rfl hlt ?_
  generalize runeAt s p = rw at *
  obtain ⟨r, w⟩ := rw
  simp only at hw hpw hall
  repeat (first | refine rS ?_ | refine Run.region ?_ | refine Ops.nil ?_ | refine rK ?_ | refine rB ?_ | refine rT rfl ?_ | refine oP rfl ?_)
  refine Ops.call ((v1_zzInSet J r cs hc)) rfl dc call147 rfl ?_
  rintro _ J2 l2 rfl
  cases he : inR r cs with
  | true =>
   rw [he, Bool.true_and] at hall
   repeat (first | refine Ops.nil ?_ | refine rK ?_ | refine rI ?_ | refine rF rfl ?_ | refine oP rfl ?_)
   refine Run.keep [0, 1, 8] [_, _, _] rfl ?_
   exact ih (s.length - (p + w)) _ _ _ (by omega) ⟨p + w, rfl, by omega, hall, rfl, rfl, hle.trans l2⟩
  | false =>
   repeat (first | refine rS ?_ | refine Run.region ?_ | refine Ops.nil ?_ | refine rT rfl ?_ | refine oP rfl ?_ | refine Ops.sliceStrLo rfl (by decide) (T.undOk rfl) rfl rfl (by first | omega | (simp only [List.length_cons, List.length_nil] ; omega) | (simp; omega)) (by first | omega | (simp only [List.length_cons, List.length_nil] ; omega) | (simp; omega)) ?_)
   refine Run.fin (Run.ret1 (by rw [hCf]; exact func143) results143 rfl (hR _ _ _ ?_))
   rw [he, Bool.false_and] at hall
   refine ⟨rfl, s.drop p, by rw [show ((p : Int)).toNat = p by omega], ?_⟩
   rw [<- hall]; simp; omega
 ·rw [runesW_end hlt] at hall
  refine rS ?_; refine Run.region ?_
  refine Ops.nextStrEnd 0 rfl dc rfl rfl hlt ?_
  repeat (first | refine rS ?_ | refine Run.region ?_ | refine Ops.nil ?_ | refine Run.exit rfl ?_ | refine rF rfl ?_ | refine oP rfl ?_)
  refine Run.fin (Run.ret1 (by rw [hCf]; exact func143) results143 rfl (hR _ _ _ ?_))
  exact ⟨rfl, [], rfl, by rw [<- hall]; rfl⟩
end Go.V
namespace Go.V
open Go.RowKit
set_option maxRecDepth 10000
attribute [local irreducible] Run Ops QD
abbrev sha256T' : Tx := [115, 104, 97, 50, 53, 54]
def pOk (s : Tx) : Bool := match ix 58 s with
 | none => false
 | some k => decide (s.take k = sha256T') && (allR (s.drop (k + 1)) hexT && decide ((s.drop (k + 1)).length = 64))
theorem allR_hex (s : Tx) : allR s hexT = allIn hexT s := by simpa [allR, inR] using runes_all ascii_hex s.length 0 (by omega)
theorem digGood_split {s : Tx} (h : digGood s = true) : s = [115, 104, 97, 50, 53, 54, 58] ++ s.drop 7 /\ (s.drop 7).length = 64 /\ allIn hexT (s.drop 7) = true := by
 simp only [digGood, Bool.and_eq_true, decide_eq_true_eq, sWithin] at h
 obtain ⟨h1, h2, h3, h4, h5⟩ := h
 refine ⟨?_, by omega, h3⟩
 conv => lhs; rw [<- List.take_append_drop 7 s, h2]
theorem ix_dig {s : Tx} (h : digGood s = true) : ix 58 s = some 6 := by
 rw [(digGood_split h).1]; exact ix_app (x := [115, 104, 97, 50, 53, 54]) (by decide)
theorem pOk_eq (s : Tx) : pOk s = digGood s := by
 rw [Bool.eq_iff_iff]
 constructor
 ·intro h
  cases hk : ix 58 s with
  | none => rw [pOk, hk] at h; cases h
  | some k =>
   simp only [pOk, hk, Bool.and_eq_true, decide_eq_true_eq] at h
   obtain ⟨h1, h2, h3⟩ := h
   have hlt := ix_lt hk
   have hk6 : k = 6 := by have := congrArg List.length h1; simp at this; omega
   subst hk6
   have e := (ix_split hk).1
   rw [h1] at e
   have e7 : s.take 7 = [115, 104, 97, 50, 53, 54, 58] := by rw [e]; rfl
   rw [allR_hex] at h2
   have hl : s.length = 71 := by have := congrArg List.length e; simp only [List.length_append, List.length_cons, h3] at this; exact this
   simp only [digGood, Bool.and_eq_true, decide_eq_true_eq, sWithin]
   have h3' : (s.drop 7).length = 64 := h3
   exact ⟨hl, e7, h2, by omega, by omega⟩
 ·intro h
  obtain ⟨e, h1, h2⟩ := digGood_split h
  have e6 : s.take 6 = [115, 104, 97, 50, 53, 54] := by rw [e]; rfl
  simp only [pOk, ix_dig h, Bool.and_eq_true, decide_eq_true_eq, allR_hex]
  exact ⟨e6, h2, h1⟩
abbrev zeroH : Value := hashV [] []
end Go.V
namespace Go.V
open Go.Proofs.Tryz
open Go.RowKit
set_option maxRecDepth 10000
attribute [local irreducible] Run Ops QD
def otherAl (s : Tx) : Bool := match ix 58 s with
 | some k => decide (s.take k = [115, 104, 97, 53, 49, 50]) || decide (s.take k = [115, 104, 97, 51, 56, 52])
 | none => false
def hOpen (s : Tx) : Bool := decide (ixI 58 s = lxI 58 s) && !digGood s && otherAl s
theorem spec_HashRead (I : Imm) (s : Tx) (hs : s.length <= 4620000000000000000) : Pure prog 50 [str s] I fun w J =>
  w = .tuple #[if digGood s then hashV sha256T' (s.drop 7) else zeroH, .bool (digGood s), .bool (hOpen s)] := by
 refine Spec.enter 33 [(0, _)] func50 rfl ntmps50 (by simp) rfl ?_
 intro C hCf hR hCI
 refine rS ?_
 refine Run.region (Ops.alloc rfl dc (T.zeroOk rfl) rfl (fun b2 => ?_))
 repeat (first | refine rS ?_ | refine Run.region ?_ | refine Ops.nil ?_ | refine oP rfl ?_)
 refine Ops.call ((spec_firstOf s 58 I hs)) rfl dc call60 rfl ?_
 rintro _ J1 l1 rfl
 cases hk : ix 58 s with
 | none =>
  have hl : lxI 58 s = -1 := by rw [lxI, lx_none.2 (ix_none.1 hk)]
  have hd : digGood s = false := by
   cases h : digGood s with
   | false => rfl
   | true => rw [ix_dig h] at hk; cases hk
  have ho : hOpen s = false := by simp [hOpen, otherAl, hk]
  rw [ixI_none hk]
  repeat (first | refine rS ?_ | refine Run.region ?_ | refine Ops.nil ?_ | refine rT rfl ?_ | refine Ops.not rfl (by decide) ?_ | refine Ops.lss rfl (by decide) rfl rfl ?_ | refine oP rfl ?_ | refine Ops.loadN 0 rfl (by decide) rfl rfl (T.aggOk rfl) (T.sizeOk rfl) rfl rfl ?_ | refine Ops.store 0 rfl rfl rfl rfl rfl (T.sizeOk rfl) rfl (lb rfl) rfl rfl ?_)
  refine Run.retCTT T 0 (by rw [hCf]; exact func50) results50 rfl rfl rfl rfl rfl rfl rfl rfl (hR _ _ _ ?_)
  rw [hd, ho]; exact ⟨rfl, rfl⟩
 | some k =>
  have hlt := ix_lt hk
  rw [ixI_eq hk]
  repeat (first | refine rS ?_ | refine Run.region ?_ | refine Ops.nil ?_ | refine Ops.lss rfl (by decide) rfl rfl ?_ | refine oP rfl ?_)
  rw [decide_eq_false (show ¬ (k : Int) < 0 by omega)]
  skip
  refine Ops.call ((spec_lastOf s 58 J1 hs)) rfl dc call61 rfl ?_
  rintro _ J2 l2 rfl
  repeat (first | refine Ops.nil ?_ | refine Ops.neq rfl (by decide) rfl rfl ?_ | refine oP rfl ?_)
  cases hl : decide ((k : Int) = lxI 58 s) with
  | false =>
   have hd : digGood s = false := by
    cases h : digGood s with
    | false => rfl
    | true =>
     have e := ix_dig h
     rw [hk] at e; cases e
     have : lx 58 s = some 6 := by
      obtain ⟨e, h1, h2⟩ := digGood_split h
      rw [e]; exact lx_app (x := [115, 104, 97, 50, 53, 54]) (allIn_not 58 h2 (by decide))
     rw [lxI, this] at hl
     cases hl
   have ho : hOpen s = false := by simp only [hOpen, ixI_eq hk, hl, Bool.false_and]
   repeat (first | refine rS ?_ | refine Run.region ?_ | refine Ops.nil ?_ | refine rT rfl ?_ | refine oP rfl ?_ | refine Ops.loadN 0 rfl (by decide) rfl rfl (T.aggOk rfl) (T.sizeOk rfl) rfl rfl ?_ | refine Ops.store 0 rfl rfl rfl rfl rfl (T.sizeOk rfl) rfl (lb rfl) rfl rfl ?_)
   refine Run.retCTT T 0 (by rw [hCf]; exact func50) results50 rfl rfl rfl rfl rfl rfl rfl rfl (hR _ _ _ ?_)
   rw [hd, ho]; exact ⟨rfl, rfl⟩
  | true =>
   repeat (first | refine rS ?_ | refine Run.region ?_ | refine rK ?_ | refine rF rfl ?_ | refine oP rfl ?_)
   refine Ops.call ((spec_digestGood J2 s hs)) rfl dc call62 rfl ?_
   rintro _ J3 l3 rfl
   have ho : hOpen s = (!digGood s && otherAl s) := by simp only [hOpen, ixI_eq hk, hl, Bool.true_and]
   cases hd : digGood s with
   | true =>
    have h7 : 7 <= s.length := by obtain ⟨e, h1, h2⟩ := digGood_split hd; simp at h1; omega
    repeat (first | refine rS ?_ | refine Run.region ?_ | refine Ops.nil ?_ | refine rT rfl ?_ | refine oP rfl ?_ | refine Ops.sliceStrLo rfl (by decide) (T.undOk rfl) rfl rfl (by first | omega | (simp only [List.length_cons, List.length_nil] ; omega) | (simp; omega)) (by first | omega | (simp only [List.length_cons, List.length_nil] ; omega) | (simp; omega)) ?_)
    refine Ops.buildL bd23 rfl dc rfl rfl ?_
    repeat (first | refine Ops.nil ?_ | refine oP rfl ?_ | refine Ops.store 0 rfl rfl rfl rfl rfl (T.sizeOk rfl) rfl (lb rfl) rfl rfl ?_)
    refine Run.retCTT T 0 (by rw [hCf]; exact func50) results50 rfl rfl rfl rfl rfl rfl rfl rfl (hR _ _ _ ?_)
    rw [ho, hd]; exact ⟨rfl, rfl⟩
   | false =>
    repeat (first | refine rS ?_ | refine Ops.nil ?_ | refine rK ?_ | refine rF rfl ?_)
    have ho2 : otherAl s = (decide (s.take k = [115, 104, 97, 53, 49, 50]) || decide (s.take k = [115, 104, 97, 51, 56, 52])) := by simp [otherAl, hk]
    refine Run.regionAny (fun _ => True) (bl 14 0) (by kernel_rfl) (by kernel_rfl) (RAny.tk 1 (bl 14 2) rfl (by kernel_rfl) dc (fun _ _ => trivial) (Yld.eval T rfl rfl) (RAny.tk 2 (bl 14 6) rfl (by kernel_rfl) dc (fun _ _ => trivial) (Yld.eval T rfl rfl) (RAny.tk 3 (bl 14 14) rfl (by kernel_rfl) dc (fun _ _ => trivial) (Yld.ev (Ev.cutSHi T rfl rfl rfl om om) rfl) (RAny.tk 4 (bl 14 30) rfl (by kernel_rfl) dc (fun _ _ => trivial) (Yld.ev (Ev.eqlS rfl rfl) rfl) (RAny.tk 5 (bl 14 62) rfl (by kernel_rfl) dc (fun _ _ => trivial) (Yld.eval T rfl rfl) ?_)))))
    rw [show ((k : Int)).toNat = k by omega]
    skip
    cases h1 : decide (s.take k = [115, 104, 97, 53, 49, 50]) with
    | true =>
     refine RAny.tk 6 (bl 14 126) rfl (by kernel_rfl) dc (fun _ _ => trivial) (Yld.off rfl) (RAny.tk 7 (bl 14 254) rfl (by kernel_rfl) dc (fun _ _ => trivial) (Yld.off rfl) (RAny.tk 8 (bl 14 510) rfl (by kernel_rfl) dc (fun _ _ => trivial) (Yld.off rfl) (RAny.tk 9 (bl 14 1022) rfl (by kernel_rfl) dc (fun _ _ => trivial) (Yld.off rfl) (RAny.tk 10 (bl 14 2046) rfl (by kernel_rfl) dc (fun _ _ => trivial) (Yld.eval T rfl rfl) (RAny.on 0 (bl 14 2047) rfl (by kernel_rfl) rfl dc (Eff.yv (Yv.loadN 0 T rfl rfl rfl rfl rfl rfl) ⟨fun _ _ => trivial, (RAny.os 11 (bl 14 4095) rfl (by kernel_rfl) rfl (Eff.store 0 rfl rfl rfl rfl (T.sizeOk rfl) rfl (lb rfl) rfl rfl ⟨fun _ _ => trivial, (RAny.tk 12 (bl 14 8191) rfl (by kernel_rfl) dc (fun _ _ => trivial) (Yld.eval T rfl rfl) (RAny.tk 13 (bl 14 16383) rfl (by kernel_rfl) dc (fun _ _ => trivial) (Yld.eval T rfl rfl) (RAny.done _ (by kernel_rfl) ?_)))⟩))⟩))))))
     skip
     refine Run.retCTT T 0 (by rw [hCf]; exact func50) results50 rfl rfl rfl rfl rfl rfl rfl rfl (hR _ _ _ ?_)
     rw [ho, hd, ho2, h1]; exact ⟨rfl, rfl⟩
    | false =>
     skip
     refine RAny.tk 6 (bl 14 126) rfl (by kernel_rfl) dc (fun _ _ => trivial) (Yld.eval T rfl rfl) (RAny.tk 7 (bl 14 254) rfl (by kernel_rfl) dc (fun _ _ => trivial) (Yld.eval T rfl rfl) (RAny.tk 8 (bl 14 510) rfl (by kernel_rfl) dc (fun _ _ => trivial) (Yld.ev (Ev.cutSHi T rfl rfl rfl om om) rfl) (RAny.tk 9 (bl 14 1022) rfl (by kernel_rfl) dc (fun _ _ => trivial) (Yld.ev (Ev.eqlS rfl rfl) rfl) (RAny.tk 10 (bl 14 2046) rfl (by kernel_rfl) dc (fun _ _ => trivial) (Yld.eval T rfl rfl) ?_))))
     rw [show ((k : Int)).toNat = k by omega]
     refine RAny.on 0 (bl 14 2047) rfl (by kernel_rfl) rfl dc (Eff.yv (Yv.loadN 0 T rfl rfl rfl rfl rfl rfl) ⟨fun _ _ => trivial, (RAny.os 11 (bl 14 4095) rfl (by kernel_rfl) rfl (Eff.store 0 rfl rfl rfl rfl (T.sizeOk rfl) rfl (lb rfl) rfl rfl ⟨fun _ _ => trivial, (RAny.tk 12 (bl 14 8191) rfl (by kernel_rfl) dc (fun _ _ => trivial) (Yld.eval T rfl rfl) (RAny.tk 13 (bl 14 16383) rfl (by kernel_rfl) dc (fun _ _ => trivial) (Yld.eval T rfl rfl) (RAny.done _ (by kernel_rfl) ?_)))⟩))⟩)
     skip
     refine Run.retCTT T 0 (by rw [hCf]; exact func50) results50 rfl rfl rfl rfl rfl rfl rfl rfl (hR _ _ _ ?_)
     rw [ho, hd, ho2, h1]; exact ⟨rfl, rfl⟩
end Go.V
