import Derived.Test.YtcegjgmmbbojdaaGreatDoorAW
import Derived.Test.YtcegjgmmbbojdaaGreatDoorAM6
set_option linter.unusedVariables false
set_option linter.unusedSimpArgs false
namespace Go.V
open Go.Proofs.Tryz
open Go.RowKit
set_option maxRecDepth 10000
attribute [local irreducible] Run Ops QD
theorem wpairs_len (val : Js -> Bool -> Bs -> Bs × Bs) (fixed : Bool) {R : Js -> Prop} : ∀ (n : Nat) (js : List Js) (w : Bs), js.length <= n -> FineM R js -> js.length = 2 * (wpairs val fixed js w).1.length
 | n, [], w, _, _ => rfl
 | n, [_], w, _, h => h.elim
 | 0, _ :: _ :: _, w, hn, _ => by simp at hn
 | n + 1, a :: b :: r, w, hn, h => by
  have := wpairs_len val fixed n r (wmem val fixed a b w).2 (by simp only [List.length_cons] at hn; omega) h.2.2
  simp only [wpairs, List.length_cons]; omega
def prI (d : Nat) (p b4 : Nat) (fixed : Bool) (cb : List Value) (kids : List Js) (ps : List Bs) (we : Bs) (B1 : Bs) (I : Imm) (m : Nat) (env : Env) (L : Own) (J : Imm) : Prop :=
 ∃ (done : List Bs) (pre rest : List Js) (w' : Bs) (o : Obj) (v : Value) (M : Own), m = rest.length /\ kids = pre ++ rest /\ pre.length = 2 * done.length /\ FineM (Fine d) rest /\ done ++ (wpairs (wval d) fixed rest w').1 = ps /\ (wpairs (wval d) fixed rest w').2 = we /\
  env = [(0, .pointer (some ⟨p, 0, none⟩)), (2, .bool fixed), (4, .pointer (some ⟨b4, 0, none⟩)), (7, str B1), (10, v), (11, .int .i64 ((2 * done.length : Nat) : Int))] /\
  L = (b4, blk cb 38) :: (p, o) :: M /\ Wy J w' o /\ Gr tStr J 9 v done M /\ Le I J
def jnI (p b4 : Nat) (cb : List Value) (A : Option Addr) (c : Nat) (l : List Bs) (X wq : Bs) (o : Obj) (I : Imm) (m : Nat) (env : Env) (L : Own) (J : Imm) : Prop :=
 ∃ i : Nat, m = l.length - i /\ i <= l.length /\ env = [(0, .pointer (some ⟨p, 0, none⟩)), (4, .pointer (some ⟨b4, 0, none⟩)), (7, str (X ++ joinC (l.take i))), (159, .slice A l.length c), (160, .int .i64 l.length), (161, .int .i64 i)] /\ L = [(b4, blk cb 38), (p, o)] /\ Wy J wq o /\ I = J
def shI (p b4 : Nat) (cb : List Value) (B1 : Bs) (tg : List Bs × Bs) (I : Imm) (m : Nat) (env : Env) (L : Own) (J : Imm) : Prop :=
 ∃ (i : Nat) (z : Int) (l : List Bs) (w2 : Bs) (o : Obj) (v : Value) (M : Own), m = i /\ (z = (i : Int) \/ (z = -1 /\ i = 0)) /\ (i < l.length \/ i = 0) /\ l.length <= 34359738371 /\ shuf i l w2 = tg /\
  env = [(0, .pointer (some ⟨p, 0, none⟩)), (4, .pointer (some ⟨b4, 0, none⟩)), (7, str B1), (10, v), (14, .int .i64 z)] /\
  L = (b4, blk cb 38) :: (p, o) :: M /\ Wy J w2 o /\ Gr tStr J 9 v l M /\ Le I J
set_option maxHeartbeats 4000000 in
theorem wv_obj (d : Nat) (hWS : WSpec d) (I : Imm) (cs : List Value) (j : Js) (fixed : Bool) (w : Bs) (p : Nat) (o : Obj) (hrel : (tJs (d + 1)).rel I cs j) (hF : Fine (d + 1) j) (hW : Wy I w o) (hl : (wval (d + 1) j fixed w).1.length <= 34359738368) (hs : j.kind = 111) :
  Spec prog 17 [.pointer (some ⟨p, 0, none⟩), .agg cs.toArray, .bool fixed] I [(p, o)] fun v J M => v = str (wval (d + 1) j fixed w).1 /\ ∃ o', M = [(p, o')] /\ Wy J (wval (d + 1) j fixed w).2 o' := by
 have hns : j.kind ≠ 115 := by rw [hs]; decide
 have hnl : j.kind ≠ 108 := by rw [hs]; decide
 unfold Fine at hF
 rw [if_neg hns, if_neg hnl, if_pos hs] at hF
 unfold wval at hl ⊢
 simp only [if_neg hns, if_neg hnl, if_pos hs] at hl ⊢
 simp only [List.length_append] at hl
 have hpl := wpairs_len (wval d) fixed _ j.kids (blk5 w).2 (Nat.le_refl _) hF
 obtain ⟨vk, rfl, hK⟩ := hrel
 refine Spec.enter 189 [(0, _), (1, _), (2, _)] func17 rfl ntmps17 (by simp) rfl ?_
 intro C hCf hR hCI
 refine rS ?_
 refine Run.region (Ops.box rfl dc rfl rfl (fun b4 => (oP rfl (Ops.nil (rS (rP 1 (fun Z hZ => (eE rfl (zN hZ ((Ops.callM (M := [_]) (N := _ :: _) ((way_blank I w p o hW)) (List.Perm.swap _ _ _) rfl dc call35 rfl ?_)))))))))))
 rintro v J1 M1 l1 ⟨rfl, o1, rfl, hW1⟩
 refine Ops.perm (List.Perm.swap _ _ _) (oP rfl (Ops.nil ?_))
 repeat refine rS ?_
 refine rO (fun Z hZ => (eE rfl (gY (Yv.load 0 T rfl rfl rfl rfl) (zN hZ ?_))))
 repeat (first | refine rS ?_ | refine rB ?_)
 obtain ⟨kk, hkk⟩ : ∃ kk : Nat, kk = j.kind.toNat := ⟨_, rfl⟩
 rw [<- hkk]
 have hk : kk = 111 := by rw [hkk, hs]; rfl
 obtain ⟨ps, hps⟩ : ∃ ps, ps = (wpairs (wval d) fixed j.kids (blk5 w).2).1 := ⟨_, rfl⟩
 obtain ⟨we, hwe⟩ : ∃ we, we = (wpairs (wval d) fixed j.kids (blk5 w).2).2 := ⟨_, rfl⟩
 rw [<- hps, <- hwe] at hl hR
 rw [<- hps] at hpl
 have hpsl : ps.length <= 34359738370 /\ ∀ x ∈ ps, x.length <= 34359738368 := by
  obtain ⟨m1, m2⟩ := wfix_mem fixed ps we
  have hjl := joinC_len (wfix fixed ps we).1
  exact ⟨by omega, fun x hx => by have := mem_joinC (m2 x hx); omega⟩
 obtain ⟨A, c, rfl⟩ := hK.isSl
 refine rO (fun Z hZ => (kF (Ev.eqlI rfl rfl) (by omega) (eE rfl (zN hZ ?_))))
 repeat (first | refine rS ?_ | refine rF rfl ?_)
 refine rO (fun Z hZ => (kF (Ev.eqlI rfl rfl) (by omega) (eE rfl (zN hZ ?_))))
 repeat (first | refine rS ?_ | refine rF rfl ?_)
 refine rO (fun Z hZ => (kT (Ev.eqlI rfl rfl) (by omega) (eE rfl (zN hZ ?_))))
 repeat (first | refine rS ?_ | refine rT rfl ?_)
 refine Run.region (Ops.eff rfl (dOk dc) (Eff.lit0 T rfl rfl rfl fun bp => (oP rfl (Ops.nil ?_))))
 repeat refine rS ?_
 refine rO (fun Z hZ => (eE rfl (zN hZ ((rB (Run.keep [0, 2, 4, 7, 10, 11] [_, _, _, _, _, _] rfl (Run.perm (L' := [(b4, _), (p, o1), (bp, _)]) (List.perm_append_comm (l₁ := [_]) (l₂ := [_, _])) ?_)))))))
 refine Run.rounds (prI d p b4 fixed [.int .u8 (kk : Int), str j.text, .slice A j.kids.length c] j.kids ps we (blk5 w).1 J1) j.kids.length ⟨[], [], j.kids, (blk5 w).2, o1, _, [(bp, _)], rfl, rfl, rfl, hF, by rw [hps]; rfl, by rw [hwe], rfl, rfl, hW1, Gr.lit0 tStr J1 9 bp, Le.refl _⟩ ?_
 rintro m env L J ⟨done, pre, rest, w', o, v10, M, rfl, hkids, hprl, hFr, hdone, hrem, rfl, rfl, hWy, hG, hle⟩ ih
 have hkl := congrArg List.length hkids
 rw [List.length_append] at hkl
 have hdl := congrArg List.length hdone
 rw [List.length_append] at hdl
 repeat refine rS ?_
 match rest, hFr, hkids, hdone, hrem, hkl, hdl with
 | [], hFr, hkids, hdone, hrem, hkl, hdl =>
  simp only [wpairs, List.append_nil] at hdone hrem
  simp only [List.length_nil] at hkl
  subst hdone
  subst hrem
  refine rO (fun Z hZ => (eE rfl (fE (Ev.addK (r := ((2 * done.length + 1 : Nat) : Int)) rfl rfl (by rw [wI (by omega) (by omega)]; omega)) (eE rfl (gY (Yv.load 0 T rfl rfl rfl rfl) (eE rfl (kF (Ev.lss rfl rfl) (by omega) (zN hZ ?_))))))))
  repeat (first | refine rS ?_ | refine Run.exit rfl ?_ | refine rF rfl ?_)
  refine rO (fun Z hZ => (eE rfl (zN hZ ?_)))
  refine Run.piece (fun env' L' I' => ∃ (v : Value) (M' : Own) (o' : Obj), env' = [(0, .pointer (some ⟨p, 0, none⟩)), (4, .pointer (some ⟨b4, 0, none⟩)), (7, str (blk5 w).1), (10, v)] /\ L' = (b4, blk [.int .u8 (kk : Int), str j.text, .slice A j.kids.length c] 38) :: (p, o') :: M' /\ Wy I' (wfix fixed done w').2 o' /\ Gr tStr I' 9 v (wfix fixed done w').1 M' /\ Le J1 I') (fun k' hk' => ?_) ?_
  ·cases fixed with
   | false =>
    repeat (first | refine rK ?_ | refine rF rfl ?_)
    refine Run.keep [0, 4, 7, 10] [_, _, _, _] rfl ?_
    exact hk' _ _ _ ⟨v10, M, o, rfl, rfl, hWy, hG, hle⟩
   | true =>
    repeat (first | refine rS ?_ | refine rT rfl ?_)
    refine rP 1 (fun Z hZ => (eE rfl (zN hZ ((Ops.callM (M := [_]) (N := _ :: _) ((way_take J w' p 4 o hWy dc dc)) (List.Perm.swap _ _ _) rfl dc call37 rfl ?_)))))
    rintro y J2 M2 l2 ⟨rfl, o2, rfl, hW2⟩
    refine Ops.perm (List.Perm.swap _ _ _) ?_
    by_cases h1 : (tk 4 w').1 = 1
    ·have hwf : wfix true done w' = shuf ((done ++ [unkT]).length - 1) (done ++ [unkT]) (tk 4 w').2 := by unfold wfix; simp only [if_true]; rw [if_pos h1]
     rw [hwf] at hk'
     refine Ops.ev ((Ev.eqlI rfl rfl).as (show _ = Value.bool true from congrArg Value.bool (decide_eq_true (by omega)))) rfl dc (Ops.nil (rT rfl (Run.region (oP rfl (Ops.lit T rfl rfl rfl dc rfl dc dc rfl rfl rfl rfl rfl (fun bq => (Ops.appOne (t := tStr) (y := unkT) (N := [_, _]) el24 (hG.mono l2) (show tStr.rel _ [str unkT] unkT from rfl) rfl dc rfl rfl rfl rfl (by omega) (by omega) fun v11 M11 hG11 => (oP rfl (Ops.nil (rS ?_))))))))))
     have hpl2 : (done ++ [unkT]).length <= 34359738371 := by rw [List.length_append, List.length_singleton]; omega
     obtain ⟨A11, z11, hv11⟩ := (hG11).isSl
     subst hv11
     refine rO (fun Z hZ => (eE rfl (eE rfl (fE (Ev.subK (r := (((done ++ [unkT]).length : Int) - 1)) rfl rfl (wI (by omega) (by omega))) (eE rfl (zN hZ ((rB (Run.keep [0, 4, 7, 10, 14] [_, _, _, _, _] rfl (Run.rounds (shI p b4 [.int .u8 (kk : Int), str j.text, .slice A j.kids.length c] (blk5 w).1 (shuf ((done ++ [unkT]).length - 1) (done ++ [unkT]) (tk 4 w').2) J2) ((done ++ [unkT]).length - 1) ⟨(done ++ [unkT]).length - 1, _, done ++ [unkT], (tk 4 w').2, o2, _, M11, rfl, by omega, by omega, hpl2, rfl, rfl, rfl, hW2, hG11, Le.refl _⟩ ?_))))))))))
     rintro m env L J3 ⟨i, z, l, w2, o3, v3, M3, rfl, hz, hil, hll, htg, rfl, rfl, hW3, hG3, hl3⟩ ih2
     repeat refine rS ?_
     cases m with
     | zero =>
      refine rO (fun Z hZ => (eE rfl (kF (Ev.gtr rfl rfl) (by omega) (zN hZ ?_))))
      repeat (first | refine Run.exit rfl ?_ | refine rF rfl ?_)
      refine Run.keep [0, 4, 7, 10] [_, _, _, _] rfl ?_
      rw [<- htg] at hk'
      exact hk' _ _ _ ⟨v3, M3, o3, rfl, rfl, hW3, hG3, (hle.trans l2).trans hl3⟩
     | succ i =>
      obtain rfl : z = ((i + 1 : Nat) : Int) := by omega
      have hil2 : i + 1 < l.length := by omega
      have hkk2 := tk_lt (n := i + 2) (by omega) w2
      refine rO (fun Z hZ => (eE rfl (kT (Ev.gtr rfl rfl) (by omega) (zN hZ ?_))))
      repeat (first | refine rS ?_ | refine rK ?_ | refine rB ?_ | refine rT rfl ?_)
      refine rP 3 (fun Z hZ => (eE rfl (eE rfl (fE (Ev.addK (r := ((i + 2 : Nat) : Int)) rfl rfl (by rw [wI (by omega) (by omega)]; omega)) (zN hZ ((Ops.callM (M := [_]) (N := _ :: _) ((way_take J3 w2 p (i + 2) o3 hW3 (by omega) (by omega))) (List.Perm.swap _ _ _) rfl dc call37 rfl ?_)))))))
      rintro y J4 M4 l4 ⟨rfl, o4, rfl, hW4⟩
      refine Ops.perm (List.Perm.swap _ _ _) (oP rfl (Ops.nil ?_))
      skip
      obtain ⟨kx, hkx⟩ : ∃ kx, kx = (tk (i + 2) w2).1 := ⟨_, rfl⟩
      rw [<- hkx] at hkk2 ⊢
      rcases hG3.strs with ⟨_, h0, _⟩ | ⟨bp2, cap, cur, rfl, rfl, hcap, hcur, htk⟩
      ·rw [h0] at hil2; simp at hil2
      refine Run.regionL [13, 15] (Holds J4 []) (Holds J4 [(bp2, blk cur 9)]) (bl 16 0) (by kernel_rfl) (by kernel_rfl) (fun W h => ⟨h.holds (Le.refl _) (by first | exact mp rfl | exact mq rfl | exact mr rfl), h.holds (Le.refl _) (by first | exact mp rfl | exact mq rfl | exact mr rfl)⟩) (RAnyL.tk 0 (bl 16 1) rfl (by kernel_rfl) dc rfl (T := fun _ => True) (.inl fun _ _ => trivial) (Yld.eval T rfl rfl) (RAnyL.tk 1 (bl 16 3) rfl (by kernel_rfl) dc rfl (T := fun _ => True) (.inl fun _ _ => trivial) (Yld.eval T rfl rfl) (RAnyL.tk 2 (bl 16 7) rfl (by kernel_rfl) dc rfl (T := fun _ => True) (.inl fun _ _ => trivial) (Yld.eval T rfl rfl) (RAnyL.tk 3 (bl 16 15) rfl (by kernel_rfl) dc rfl (T := fun _ => True) (.inl fun _ _ => trivial) (Yld.eval T rfl rfl) (RAnyL.tk 4 (bl 16 31) rfl (by kernel_rfl) dc rfl (T := fun _ => True) (.inl fun _ _ => trivial) (Yld.eval T rfl rfl) ?_)))))
      refine RAnyL.tk 5 (bl 16 63) rfl (by kernel_rfl) dc rfl (T := fun _ => True) (.inl fun _ _ => trivial) (Yld.eval T rfl rfl) (RAnyL.tk 6 (bl 16 127) rfl (by kernel_rfl) dc rfl (T := fun _ => True) (.inl fun _ _ => trivial) (Yld.as (v' := .pointer (some ⟨bp2, kx, none⟩)) (Yld.indexSl (t := tStr) T rfl rfl rfl rfl rfl rfl (by omega) (by omega)) (by simp [show tStr.size = 1 from rfl])) (RAnyL.tk 7 (bl 16 255) rfl (by kernel_rfl) dc rfl (.inr ⟨by kernel_rfl, fun _ h => h⟩) (Yld.load 0 T rfl rfl rfl rfl (cur_get (by omega) htk)) (RAnyL.tk 8 (bl 16 511) rfl (by kernel_rfl) dc rfl (T := fun _ => True) (.inl fun _ _ => trivial) (Yld.eval T rfl rfl) (RAnyL.tk 9 (bl 16 1023) rfl (by kernel_rfl) dc rfl (T := fun _ => True) (.inl fun _ _ => trivial) (Yld.eval T rfl rfl) ?_))))
      refine RAnyL.tk 10 (bl 16 2047) rfl (by kernel_rfl) dc rfl (T := fun _ => True) (.inl fun _ _ => trivial) (Yld.as (v' := .pointer (some ⟨bp2, i + 1, none⟩)) (Yld.indexSl (t := tStr) T rfl rfl rfl rfl rfl rfl (by omega) (by omega)) (by simp [show tStr.size = 1 from rfl])) (RAnyL.tk 11 (bl 16 4095) rfl (by kernel_rfl) dc rfl (.inr ⟨by kernel_rfl, fun _ h => h⟩) (Yld.load 0 T rfl rfl rfl rfl (cur_get (by omega) htk)) (RAnyL.tk 12 (bl 16 8191) rfl (by kernel_rfl) dc rfl (T := fun _ => True) (.inl fun _ _ => trivial) (Yld.as (v' := .pointer (some ⟨bp2, i + 1, none⟩)) (Yld.indexSl (t := tStr) T rfl rfl rfl rfl rfl rfl (by omega) (by omega)) (by simp [show tStr.size = 1 from rfl])) ?_))
      refine RAnyL.os 13 (bl 16 16383) rfl (by kernel_rfl) rfl (Eff.store 2 rfl rfl rfl rfl (T.sizeOk rfl) rfl (by show _ + 1 <= _; omega) rfl (setAt_one (by omega)) ⟨⟨fun W h => h.holds (Le.refl _) (fun _ h => by cases h), .inl rfl⟩, (RAnyL.tk 14 (bl 16 32767) rfl (by kernel_rfl) dc rfl (T := fun _ => True) (.inl fun _ _ => trivial) (Yld.as (v' := .pointer (some ⟨bp2, kx, none⟩)) (Yld.indexSl (t := tStr) T rfl rfl rfl rfl rfl rfl (by omega) (by omega)) (by simp [show tStr.size = 1 from rfl])) (RAnyL.os 15 (bl 16 65535) rfl (by kernel_rfl) rfl (Eff.store 2 rfl rfl rfl rfl (T.sizeOk rfl) rfl (by show _ + 1 <= _; rw [List.length_set]; omega) rfl (setAt_one (by rw [List.length_set]; omega)) ⟨⟨fun W h => h.holds (Le.refl _) (fun _ h => by cases h), .inl rfl⟩, (RAnyL.done _ (by kernel_rfl) ?_)⟩)))⟩)
      skip
      refine rI ?_
      refine rO (fun Z hZ => (eE rfl (fE (Ev.subK (r := (i : Int)) rfl rfl (by rw [wI (by omega) (by omega)]; omega)) (eE rfl (zN hZ ?_)))))
      skip
      refine Run.keep [0, 4, 7, 10, 14] [_, _, _, _, _] rfl ?_
      have hsl := swapL_len l (i + 1) kx
      have hGn := Gr.mkStrs (I := J4) (e := 9) (b := bp2) (xs := swapL l (i + 1) kx) (cap := cap) (by omega) (by rw [List.length_set, List.length_set]; exact hcur) (swap_take hil2 (by omega) htk)
      rw [hsl] at hGn
      exact ih2 i _ _ _ (by omega) ⟨i, (i : Int), swapL l (i + 1) kx, (tk (i + 2) w2).2, o4, _, _, rfl, .inl rfl, by omega, by omega, by rw [<- htg, hkx]; rfl, rfl, rfl, hW4, hGn, hl3.trans l4⟩
    ·have hwf : wfix true done w' = shuf (done.length - 1) done (tk 4 w').2 := by unfold wfix; simp only [if_true]; rw [if_neg h1]
     rw [hwf] at hk'
     refine Ops.ev ((Ev.eqlI rfl rfl).as (show _ = Value.bool false from congrArg Value.bool (decide_eq_false (by omega)))) rfl dc (Ops.nil ?_)
     repeat (first | refine rS ?_ | refine rK ?_ | refine rF rfl ?_)
     have hpl2 : done.length <= 34359738371 := by omega
     obtain ⟨A11, z11, hv11⟩ := (hG.mono l2).isSl
     subst hv11
     refine rO (fun Z hZ => (eE rfl (eE rfl (fE (Ev.subK (r := (((done).length : Int) - 1)) rfl rfl (wI (by omega) (by omega))) (eE rfl (zN hZ ((rB (Run.keep [0, 4, 7, 10, 14] [_, _, _, _, _] rfl (Run.rounds (shI p b4 [.int .u8 (kk : Int), str j.text, .slice A j.kids.length c] (blk5 w).1 (shuf ((done).length - 1) (done) (tk 4 w').2) J2) ((done).length - 1) ⟨(done).length - 1, _, done, (tk 4 w').2, o2, _, M, rfl, by omega, by omega, hpl2, rfl, rfl, rfl, hW2, hG.mono l2, Le.refl _⟩ ?_))))))))))
     rintro m env L J3 ⟨i, z, l, w2, o3, v3, M3, rfl, hz, hil, hll, htg, rfl, rfl, hW3, hG3, hl3⟩ ih2
     repeat refine rS ?_
     cases m with
     | zero =>
      refine rO (fun Z hZ => (eE rfl (kF (Ev.gtr rfl rfl) (by omega) (zN hZ ?_))))
      repeat (first | refine Run.exit rfl ?_ | refine rF rfl ?_)
      refine Run.keep [0, 4, 7, 10] [_, _, _, _] rfl ?_
      rw [<- htg] at hk'
      exact hk' _ _ _ ⟨v3, M3, o3, rfl, rfl, hW3, hG3, (hle.trans l2).trans hl3⟩
     | succ i =>
      obtain rfl : z = ((i + 1 : Nat) : Int) := by omega
      have hil2 : i + 1 < l.length := by omega
      have hkk2 := tk_lt (n := i + 2) (by omega) w2
      refine rO (fun Z hZ => (eE rfl (kT (Ev.gtr rfl rfl) (by omega) (zN hZ ?_))))
      repeat (first | refine rS ?_ | refine rK ?_ | refine rB ?_ | refine rT rfl ?_)
      refine rP 3 (fun Z hZ => (eE rfl (eE rfl (fE (Ev.addK (r := ((i + 2 : Nat) : Int)) rfl rfl (by rw [wI (by omega) (by omega)]; omega)) (zN hZ ((Ops.callM (M := [_]) (N := _ :: _) ((way_take J3 w2 p (i + 2) o3 hW3 (by omega) (by omega))) (List.Perm.swap _ _ _) rfl dc call37 rfl ?_)))))))
      rintro y J4 M4 l4 ⟨rfl, o4, rfl, hW4⟩
      refine Ops.perm (List.Perm.swap _ _ _) (oP rfl (Ops.nil ?_))
      skip
      obtain ⟨kx, hkx⟩ : ∃ kx, kx = (tk (i + 2) w2).1 := ⟨_, rfl⟩
      rw [<- hkx] at hkk2 ⊢
      rcases hG3.strs with ⟨_, h0, _⟩ | ⟨bp2, cap, cur, rfl, rfl, hcap, hcur, htk⟩
      ·rw [h0] at hil2; simp at hil2
      refine Run.regionL [13, 15] (Holds J4 []) (Holds J4 [(bp2, blk cur 9)]) (bl 16 0) (by kernel_rfl) (by kernel_rfl) (fun W h => ⟨h.holds (Le.refl _) (by first | exact mp rfl | exact mq rfl | exact mr rfl), h.holds (Le.refl _) (by first | exact mp rfl | exact mq rfl | exact mr rfl)⟩) (RAnyL.tk 0 (bl 16 1) rfl (by kernel_rfl) dc rfl (T := fun _ => True) (.inl fun _ _ => trivial) (Yld.eval T rfl rfl) (RAnyL.tk 1 (bl 16 3) rfl (by kernel_rfl) dc rfl (T := fun _ => True) (.inl fun _ _ => trivial) (Yld.eval T rfl rfl) (RAnyL.tk 2 (bl 16 7) rfl (by kernel_rfl) dc rfl (T := fun _ => True) (.inl fun _ _ => trivial) (Yld.eval T rfl rfl) (RAnyL.tk 3 (bl 16 15) rfl (by kernel_rfl) dc rfl (T := fun _ => True) (.inl fun _ _ => trivial) (Yld.eval T rfl rfl) (RAnyL.tk 4 (bl 16 31) rfl (by kernel_rfl) dc rfl (T := fun _ => True) (.inl fun _ _ => trivial) (Yld.eval T rfl rfl) ?_)))))
      refine RAnyL.tk 5 (bl 16 63) rfl (by kernel_rfl) dc rfl (T := fun _ => True) (.inl fun _ _ => trivial) (Yld.eval T rfl rfl) (RAnyL.tk 6 (bl 16 127) rfl (by kernel_rfl) dc rfl (T := fun _ => True) (.inl fun _ _ => trivial) (Yld.as (v' := .pointer (some ⟨bp2, kx, none⟩)) (Yld.indexSl (t := tStr) T rfl rfl rfl rfl rfl rfl (by omega) (by omega)) (by simp [show tStr.size = 1 from rfl])) (RAnyL.tk 7 (bl 16 255) rfl (by kernel_rfl) dc rfl (.inr ⟨by kernel_rfl, fun _ h => h⟩) (Yld.load 0 T rfl rfl rfl rfl (cur_get (by omega) htk)) (RAnyL.tk 8 (bl 16 511) rfl (by kernel_rfl) dc rfl (T := fun _ => True) (.inl fun _ _ => trivial) (Yld.eval T rfl rfl) (RAnyL.tk 9 (bl 16 1023) rfl (by kernel_rfl) dc rfl (T := fun _ => True) (.inl fun _ _ => trivial) (Yld.eval T rfl rfl) ?_))))
      refine RAnyL.tk 10 (bl 16 2047) rfl (by kernel_rfl) dc rfl (T := fun _ => True) (.inl fun _ _ => trivial) (Yld.as (v' := .pointer (some ⟨bp2, i + 1, none⟩)) (Yld.indexSl (t := tStr) T rfl rfl rfl rfl rfl rfl (by omega) (by omega)) (by simp [show tStr.size = 1 from rfl])) (RAnyL.tk 11 (bl 16 4095) rfl (by kernel_rfl) dc rfl (.inr ⟨by kernel_rfl, fun _ h => h⟩) (Yld.load 0 T rfl rfl rfl rfl (cur_get (by omega) htk)) (RAnyL.tk 12 (bl 16 8191) rfl (by kernel_rfl) dc rfl (T := fun _ => True) (.inl fun _ _ => trivial) (Yld.as (v' := .pointer (some ⟨bp2, i + 1, none⟩)) (Yld.indexSl (t := tStr) T rfl rfl rfl rfl rfl rfl (by omega) (by omega)) (by simp [show tStr.size = 1 from rfl])) ?_))
      refine RAnyL.os 13 (bl 16 16383) rfl (by kernel_rfl) rfl (Eff.store 2 rfl rfl rfl rfl (T.sizeOk rfl) rfl (by show _ + 1 <= _; omega) rfl (setAt_one (by omega)) ⟨⟨fun W h => h.holds (Le.refl _) (fun _ h => by cases h), .inl rfl⟩, (RAnyL.tk 14 (bl 16 32767) rfl (by kernel_rfl) dc rfl (T := fun _ => True) (.inl fun _ _ => trivial) (Yld.as (v' := .pointer (some ⟨bp2, kx, none⟩)) (Yld.indexSl (t := tStr) T rfl rfl rfl rfl rfl rfl (by omega) (by omega)) (by simp [show tStr.size = 1 from rfl])) (RAnyL.os 15 (bl 16 65535) rfl (by kernel_rfl) rfl (Eff.store 2 rfl rfl rfl rfl (T.sizeOk rfl) rfl (by show _ + 1 <= _; rw [List.length_set]; omega) rfl (setAt_one (by rw [List.length_set]; omega)) ⟨⟨fun W h => h.holds (Le.refl _) (fun _ h => by cases h), .inl rfl⟩, (RAnyL.done _ (by kernel_rfl) ?_)⟩)))⟩)
      skip
      refine rI ?_
      refine rO (fun Z hZ => (eE rfl (fE (Ev.subK (r := (i : Int)) rfl rfl (by rw [wI (by omega) (by omega)]; omega)) (eE rfl (zN hZ ?_)))))
      skip
      refine Run.keep [0, 4, 7, 10, 14] [_, _, _, _, _] rfl ?_
      have hsl := swapL_len l (i + 1) kx
      have hGn := Gr.mkStrs (I := J4) (e := 9) (b := bp2) (xs := swapL l (i + 1) kx) (cap := cap) (by omega) (by rw [List.length_set, List.length_set]; exact hcur) (swap_take hil2 (by omega) htk)
      rw [hsl] at hGn
      exact ih2 i _ _ _ (by omega) ⟨i, (i : Int), swapL l (i + 1) kx, (tk (i + 2) w2).2, o4, _, _, rfl, .inl rfl, by omega, by omega, by rw [<- htg, hkx]; rfl, rfl, rfl, hW4, hGn, hl3.trans l4⟩
  ·rintro env' L' I' ⟨v, M', o', rfl, rfl, hWf, hGf, hlf⟩
   generalize hq : (wfix fixed done w').1 = l at *
   generalize hwq : (wfix fixed done w').2 = wq at *
   have hjl := joinC_len l
   obtain ⟨X, hX⟩ : ∃ X, X = (blk5 w).1 ++ [123] := ⟨_, rfl⟩
   rw [<- hX] at hR
   have hXl := congrArg List.length hX
   rw [List.length_append, List.length_singleton] at hXl
   simp only [List.length_cons, List.length_nil] at hl
   refine rS ?_
   refine Run.region (Ops.keepGr hGf (List.perm_append_comm (l₁ := [_, _]) (l₂ := M')) fun J2 l2 hSl => ?_)
   obtain ⟨A9, z9, rfl⟩ := hSl.isSl
   refine oP rfl (Ops.ev ((Ev.catS rfl rfl (by simp only [List.length_cons, List.length_nil]; omega)).as (show _ = str (X ++ joinC (l.take 0)) from congrArg str (by rw [hX]; simp [joinC]))) rfl dc (oP rfl (Ops.nil ?_)))
   repeat refine rS ?_
   refine rO (fun Z hZ => (eE rfl (eE rfl (eE rfl (zN hZ ((rB (Run.keep [0, 4, 7, 159, 160, 161] [_, _, _, _, _, _] rfl (Run.rounds (jnI p b4 [.int .u8 (kk : Int), str j.text, .slice A j.kids.length c] A9 z9 l X wq o' J2) l.length ⟨0, by omega, by omega, rfl, rfl, hWf.mono l2, rfl⟩ ?_)))))))))
   rintro m env L J3 ⟨i, rfl, hi, rfl, rfl, hW3, rfl⟩ ih3
   refine rS ?_
   by_cases hil : i < l.length
   ·have htk : l.take (i + 1) = l.take i ++ [l[i]] := List.take_succ_eq_append_getElem hil
    have hms := joinC_mono (l.take (i + 1)) (l.drop (i + 1))
    rw [List.take_append_drop, htk, joinC_snoc] at hms
    refine rO (fun Z hZ => (kT (Ev.lss rfl rfl) (by omega) (zN hZ ?_)))
    repeat (first | refine rS ?_ | refine rK ?_ | refine rB ?_ | refine rT rfl ?_)
    refine Run.region (oP rfl (Ops.indexSl (j := (i : Int)) hSl rfl dc rfl rfl (T.undOk rfl) (T.sizeOk rfl) (by omega) (by omega) fun bb off q cq hq2 hr hA => ?_))
    obtain rfl : cq = [str q] := hr
    rw [Int.toNat_natCast, List.getElem?_eq_getElem hil] at hq2
    obtain rfl : l[i] = q := Option.some.inj hq2
    refine Ops.loadI rfl dc rfl hA (T.aggOk rfl) (oP rfl (oP rfl (Ops.nil ?_)))
    repeat refine rS ?_
    by_cases h0 : i = 0
    ·subst h0
     have ht0 : l.take 0 = [] := rfl
     rw [if_pos ht0] at hms
     refine rO (fun Z hZ => (eE rfl (fE ((Ev.gtr rfl rfl).as (show _ = Value.bool false from rfl)) (zN hZ ?_))))
     repeat (first | refine rK ?_ | refine rF rfl ?_)
     refine rO (fun Z hZ => (eE rfl (eE rfl (fE ((Ev.catS rfl rfl (by rw [ht0]; simp only [List.length_append, joinC, List.length_nil]; omega)).as (show _ = str (X ++ joinC (l.take (0 + 1))) from congrArg str (by rw [htk, joinC_snoc, if_pos ht0, ht0]; simp [joinC]))) (eE rfl (zN hZ ((rI (rO (fun Z hZ => (fE (Ev.addK (r := ((0 + 1 : Nat) : Int)) rfl rfl (by rw [wI (by omega) (by omega)]; omega)) (eE rfl (zN hZ ?_)))))))))))))
     skip
     refine Run.keep [0, 4, 7, 159, 160, 161] [_, _, _, _, _, _] rfl ?_
     exact ih3 (l.length - (0 + 1)) _ _ _ (by omega) ⟨0 + 1, rfl, by omega, rfl, rfl, hW3, rfl⟩
    ·have htn : l.take i ≠ [] := fun e => by have := congrArg List.length e; rw [List.length_take, List.length_nil] at this; omega
     rw [if_neg htn, List.length_append, List.length_cons] at hms
     refine rO (fun Z hZ => (eE rfl (kT (Ev.gtr rfl rfl) (by omega) (zN hZ ((rT rfl (rO (fun Z hZ => (eE rfl (fE (Ev.catS rfl rfl (by simp only [List.length_append, List.length_cons, List.length_nil]; omega)) (eE rfl (zN hZ ?_))))))))))))
     skip
     refine rO (fun Z hZ => (eE rfl (eE rfl (fE ((Ev.catS rfl rfl (by simp only [List.length_append, List.length_cons, List.length_nil]; omega)).as (show _ = str (X ++ joinC (l.take (i + 1))) from congrArg str (by rw [htk, joinC_snoc, if_neg htn]; simp))) (eE rfl (zN hZ ((rI (rO (fun Z hZ => (fE (Ev.addK (r := ((i + 1 : Nat) : Int)) rfl rfl (by rw [wI (by omega) (by omega)]; omega)) (eE rfl (zN hZ ?_)))))))))))))
     skip
     refine Run.keep [0, 4, 7, 159, 160, 161] [_, _, _, _, _, _] rfl ?_
     exact ih3 (l.length - (i + 1)) _ _ _ (by omega) ⟨i + 1, rfl, by omega, rfl, rfl, hW3, rfl⟩
   ·skip
    refine rO (fun Z hZ => (kF (Ev.lss rfl rfl) (by omega) (zN hZ ?_)))
    repeat (first | refine rS ?_ | refine Run.exit rfl ?_ | refine rF rfl ?_)
    rw [List.take_of_length_le (by omega)]
    refine rP 2 (fun Z hZ => (eE rfl (eE rfl (zN hZ ((Ops.callM (M := [_]) (N := _ :: _) ((way_blank _ wq p o' hW3)) (List.Perm.swap _ _ _) rfl dc call35 rfl ?_))))))
    rintro y J4 M4 l4 ⟨rfl, o4, rfl, hW4⟩
    refine Ops.perm (List.Perm.swap _ _ _) (Ops.ev (Ev.catS rfl rfl (by rw [List.length_append]; omega)) rfl dc (Ops.ev (Ev.catS rfl rfl (by simp only [List.length_append, List.length_cons, List.length_nil]; omega)) rfl dc (oP rfl (Ops.callM (M := [_]) (N := _ :: _) ((way_blank J4 _ p o4 hW4)) (List.Perm.swap _ _ _) rfl dc call35 rfl ?_))))
    rintro y J5 M5 l5 ⟨rfl, o5, rfl, hW5⟩
    refine Ops.perm (List.Perm.swap _ _ _) (Ops.ev (Ev.catS rfl rfl (by simp only [List.length_append, List.length_cons, List.length_nil]; omega)) rfl dc (oP rfl (Ops.nil ?_)))
    skip
    refine Run.dropL (L' := [(p, o5)]) (List.sublist_cons_self _ _) ?_
    refine Run.ret1 (by rw [hCf]; exact func17) results17 rfl (hR _ _ _ ?_)
    exact ⟨rfl, o5, rfl, hW5⟩
 | [_], hFr, hkids, hdone, hrem, hkl, hdl => exact hFr.elim
 | name :: x :: rest, hFr, hkids, hdone, hrem, hkl, hdl =>
  obtain ⟨f1, f2, f3⟩ := hFr
  simp only [List.length_cons] at hkl
  simp only [wpairs, List.length_cons] at hdl hdone hrem
  have hKJ := hK.mono (l1.trans hle)
  refine rO (fun Z hZ => (eE rfl (fE (Ev.addK (r := ((2 * done.length + 1 : Nat) : Int)) rfl rfl (by rw [wI (by omega) (by omega)]; omega)) (eE rfl (gY (Yv.load 0 T rfl rfl rfl rfl) (eE rfl (kT (Ev.lss rfl rfl) (by omega) (zN hZ ?_))))))))
  repeat (first | refine rS ?_ | refine rK ?_ | refine rB ?_ | refine rT rfl ?_)
  refine Run.region (oP rfl (Ops.load 0 rfl dc rfl rfl (T.aggOk rfl) rfl (oP rfl (Ops.indexSl (j := ((2 * done.length : Nat) : Int)) hKJ rfl dc rfl rfl (T.undOk rfl) (by rw [tJs_size]; exact T.sizeOk rfl) (by omega) (by omega) fun bb off q cq hq hr hA => ?_))))
  rw [Int.toNat_natCast] at hq
  obtain rfl : name = q := by
   rw [hkids, <- hprl, List.getElem?_append_right (Nat.le_refl _)] at hq
   simpa using hq
  obtain ⟨A2, n2, c2, rfl⟩ := tJs_shape hr
  refine oP rfl (Ops.loadI rfl dc rfl (hA.cellAt 1 rfl) (T.aggOk rfl) (oP rfl (Ops.nil (rS (Run.keep [0, 2, 4, 7, 10, 11, 12] [_, _, _, _, _, _, _] rfl ?_)))))
  refine Run.pieceV [0, 2, 4, 7, 10, 11, 12] [_, _, _, _, _, _, _] 13 (.bool (fixed && freeN name.text)) rfl (fun k' hk' => ?_) ?_
  ·have hfr : freeN name.text = (name.text == [97, 110, 110, 111, 116, 97, 116, 105, 111, 110, 115] || name.text == [76, 97, 98, 101, 108, 115] || name.text == [86, 111, 108, 117, 109, 101, 115] || name.text == [69, 120, 112, 111, 115, 101, 100, 80, 111, 114, 116, 115]) := rfl
   cases fixed with
   | false =>
    refine rO (fun Z hZ => (eE rfl (eE rfl ?_)))
    iterate 14 refine oF ?_
    iterate 2 refine eE rfl ?_
    refine zN hZ ((Run.keep [13, 0, 2, 4, 7, 10, 11, 12] [_, _, _, _, _, _, _, _] rfl ?_))
    exact hk'
   | true =>
    by_cases n1 : name.text = [97, 110, 110, 111, 116, 97, 116, 105, 111, 110, 115]
    ·have e : freeN name.text = true := by rw [hfr, n1]; rfl
     rw [e] at hk'
     refine rO (fun Z hZ => (eE rfl (eE rfl (eE rfl (kT (Ev.eqlS rfl rfl) n1 (eE rfl (oF (oF (eE rfl (eE rfl (oF (oF (eE rfl (eE rfl (oF (oF (eE rfl (eE rfl (eE rfl (zN hZ ((Run.keep [13, 0, 2, 4, 7, 10, 11, 12] [_, _, _, _, _, _, _, _] rfl ?_))))))))))))))))))))))
     exact hk'
    by_cases n2 : name.text = [76, 97, 98, 101, 108, 115]
    ·have e : freeN name.text = true := by rw [hfr, n2]; rfl
     rw [e] at hk'
     refine rO (fun Z hZ => (eE rfl (eE rfl (eE rfl (kF (Ev.eqlS rfl rfl) n1 (eE rfl (eE rfl (kT (Ev.eqlS rfl rfl) n2 (eE rfl (eE rfl (oF (oF (eE rfl (eE rfl (oF (oF (eE rfl (eE rfl (eE rfl (zN hZ ((Run.keep [13, 0, 2, 4, 7, 10, 11, 12] [_, _, _, _, _, _, _, _] rfl ?_))))))))))))))))))))))
     exact hk'
    by_cases n3 : name.text = [86, 111, 108, 117, 109, 101, 115]
    ·have e : freeN name.text = true := by rw [hfr, n3]; rfl
     rw [e] at hk'
     refine rO (fun Z hZ => (eE rfl (eE rfl (eE rfl (kF (Ev.eqlS rfl rfl) n1 (eE rfl (eE rfl (kF (Ev.eqlS rfl rfl) n2 (eE rfl (eE rfl (eE rfl (kT (Ev.eqlS rfl rfl) n3 (eE rfl (eE rfl (oF (oF (eE rfl (eE rfl (eE rfl (zN hZ ((Run.keep [13, 0, 2, 4, 7, 10, 11, 12] [_, _, _, _, _, _, _, _] rfl ?_))))))))))))))))))))))
     exact hk'
    by_cases n4 : name.text = [69, 120, 112, 111, 115, 101, 100, 80, 111, 114, 116, 115]
    ·have e : freeN name.text = true := by rw [hfr, n4]; rfl
     rw [e] at hk'
     refine rO (fun Z hZ => (eE rfl (eE rfl (eE rfl (kF (Ev.eqlS rfl rfl) n1 (eE rfl (eE rfl (kF (Ev.eqlS rfl rfl) n2 (eE rfl (eE rfl (eE rfl (kF (Ev.eqlS rfl rfl) n3 (eE rfl (eE rfl (eE rfl (kT (Ev.eqlS rfl rfl) n4 (eE rfl (eE rfl (eE rfl (zN hZ ((Run.keep [13, 0, 2, 4, 7, 10, 11, 12] [_, _, _, _, _, _, _, _] rfl ?_))))))))))))))))))))))
     exact hk'
    ·have e : freeN name.text = false := by
      rw [hfr, beq_false_of_ne n1, beq_false_of_ne n2, beq_false_of_ne n3, beq_false_of_ne n4]; rfl
     rw [e] at hk'
     refine rO (fun Z hZ => (eE rfl (eE rfl (eE rfl (kF (Ev.eqlS rfl rfl) n1 (eE rfl (eE rfl (kF (Ev.eqlS rfl rfl) n2 (eE rfl (eE rfl (eE rfl (kF (Ev.eqlS rfl rfl) n3 (eE rfl (eE rfl (eE rfl (kF (Ev.eqlS rfl rfl) n4 (eE rfl (eE rfl (eE rfl (zN hZ ((Run.keep [13, 0, 2, 4, 7, 10, 11, 12] [_, _, _, _, _, _, _, _] rfl ?_))))))))))))))))))))))
     exact hk'
  ·obtain ⟨fr, hfr⟩ : ∃ fr, fr = freeN name.text := ⟨_, rfl⟩
   rw [<- hfr]
   have hTl : (wmem (wval d) fixed name x w').1.length <= 34359738368 := hpsl.2 _ (by rw [<- hdone]; simp)
   unfold wmem at hTl
   simp only [List.length_append, List.length_singleton] at hTl
   obtain ⟨rs, hrs, hg, hrl⟩ := wquo_runes f1 (blk5 w').2
   have hTx := fun J o h => way_text J rs hg (blk5 w').2 p o h (by omega)
   rw [<- hrs] at hTx
   obtain ⟨A0, c0, hA0, hc0, hrow⟩ := hKJ
   cases hA0
   rcases hrow with hnil | ⟨kb, ko, rfl, hrow⟩
   ·rw [hnil] at hkl; simp at hkl
   obtain ⟨cx, hrx, hAx⟩ := hrow (2 * done.length + 1) x (by rw [hkids, <- hprl, List.getElem?_append_right (by omega)]; simp)
   obtain ⟨A3, n3, c3, rfl⟩ := tJs_shape hrx
   refine Run.regionAny (Holds J [(b4, blk [.int .u8 (kk : Int), str j.text, .slice (some ⟨kb, ko, none⟩) j.kids.length c] 38)]) (bl 28 0) (by kernel_rfl) (by kernel_rfl) (RAny.tk 0 (bl 28 1) rfl (by kernel_rfl) dc (fun W h => h.holds (Le.refl _) (by first | exact mp rfl | exact mq rfl)) (Yld.eval T rfl rfl) (RAny.tk 1 (bl 28 3) rfl (by kernel_rfl) dc (fun W h => h.holds (Le.refl _) (by first | exact mp rfl | exact mq rfl)) (Yld.eval T rfl rfl) (RAny.tk 3 (bl 28 11) rfl (by kernel_rfl) dc (fun W h => h.holds (Le.refl _) (by first | exact mp rfl | exact mq rfl)) (Yld.eval T rfl rfl) (RAny.tk 4 (bl 28 27) rfl (by kernel_rfl) dc (fun W h => h.holds (Le.refl _) (by first | exact mp rfl | exact mq rfl)) (Yld.eval T rfl rfl) (RAny.tk 7 (bl 28 155) rfl (by kernel_rfl) dc (fun W h => h.holds (Le.refl _) (by first | exact mp rfl | exact mq rfl)) (Yld.eval T rfl rfl) ?_)))))
   refine RAny.tk 11 (bl 28 2203) rfl (by kernel_rfl) dc (fun W h => h.holds (Le.refl _) (by first | exact mp rfl | exact mq rfl)) (Yld.eval T rfl rfl) (RAny.tk 12 (bl 28 6299) rfl (by kernel_rfl) dc (fun W h => h.holds (Le.refl _) (by first | exact mp rfl | exact mq rfl)) (Yld.eval T rfl rfl) (RAny.tk 13 (bl 28 14491) rfl (by kernel_rfl) dc (fun W h => h.holds (Le.refl _) (by first | exact mp rfl | exact mq rfl)) (Yld.load 0 T rfl rfl rfl rfl rfl) (RAny.tk 14 (bl 28 30875) rfl (by kernel_rfl) dc (fun W h => h.holds (Le.refl _) (by first | exact mp rfl | exact mq rfl)) (Yld.eval T rfl rfl) (RAny.tk 15 (bl 28 63643) rfl (by kernel_rfl) dc (fun W h => h.holds (Le.refl _) (by first | exact mp rfl | exact mq rfl)) (Yld.ev (Ev.addK (r := ((2 * done.length + 1 : Nat) : Int)) rfl rfl (by rw [wI (by omega) (by omega)]; omega)) rfl) ?_))))
   refine RAny.tk 16 (bl 28 129179) rfl (by kernel_rfl) dc (fun W h => h.holds (Le.refl _) (by first | exact mp rfl | exact mq rfl)) (Yld.indexSl (t := tJs d) T rfl rfl rfl rfl rfl (by rw [tJs_size]; rfl) (by omega) (by omega)) (RAny.tk 17 (bl 28 260251) rfl (by kernel_rfl) dc (fun W h => h.holds (Le.refl _) (by first | exact mp rfl | exact mq rfl)) (Yld.loadIN T hAx rfl rfl rfl rfl rfl) (RAny.tk 18 (bl 28 522395) rfl (by kernel_rfl) dc (fun W h => h.holds (Le.refl _) (by first | exact mp rfl | exact mq rfl)) (Yld.eval T rfl rfl) (RAny.on 2 (bl 28 522399) rfl (by kernel_rfl) rfl dc (Eff.callM (M := [_]) (N := _ :: _) (way_blank J w' p o hWy) (List.Perm.swap _ _ _) call35 rfl fun y J2 M2 l2 hv => ⟨fun W h => h.holds l2 (by intro x hx; rcases List.mem_singleton.1 hx with rfl; simp), ?_⟩))))
   obtain ⟨rfl, o2, rfl, hW2⟩ := hv
   skip
   refine RAny.perm (List.Perm.swap _ _ _) (RAny.on 5 (bl 28 522431) rfl (by kernel_rfl) rfl dc (Eff.callM (M := [_]) (N := _ :: _) (hTx J2 o2 hW2) (List.Perm.swap _ _ _) call36 rfl fun y J3 M3 l3 hv => ⟨fun W h => h.holds (l2.trans l3) (by intro x hx; rcases List.mem_singleton.1 hx with rfl; simp), ?_⟩))
   obtain ⟨rfl, o3, rfl, hW3⟩ := hv
   skip
   refine RAny.perm (List.Perm.swap _ _ _) (RAny.tk 6 (bl 28 522495) rfl (by kernel_rfl) dc (fun W h => h.holds (l2.trans l3) (by first | exact mp rfl | exact mq rfl)) (Yld.ev (Ev.catS rfl rfl (by omega)) rfl) (RAny.on 8 (bl 28 522751) rfl (by kernel_rfl) rfl dc (Eff.callM (M := [_]) (N := _ :: _) (way_blank J3 _ p o3 hW3) (List.Perm.swap _ _ _) call35 rfl fun y J4 M4 l4 hv => ⟨fun W h => h.holds ((l2.trans l3).trans l4) (by intro x hx; rcases List.mem_singleton.1 hx with rfl; simp), ?_⟩)))
   obtain ⟨rfl, o4, rfl, hW4⟩ := hv
   skip
   refine RAny.perm (List.Perm.swap _ _ _) (RAny.tk 9 (bl 28 523263) rfl (by kernel_rfl) dc (fun W h => h.holds ((l2.trans l3).trans l4) (by first | exact mp rfl | exact mq rfl)) (Yld.ev (Ev.catS rfl rfl (by simp only [List.length_append]; omega)) rfl) (RAny.tk 10 (bl 28 524287) rfl (by kernel_rfl) dc (fun W h => h.holds ((l2.trans l3).trans l4) (by first | exact mp rfl | exact mq rfl)) (Yld.ev (Ev.catS rfl rfl (by simp only [List.length_append, List.length_cons, List.length_nil]; omega)) rfl) ?_))
   skip
   cases fixed with
   | false =>
    refine RAny.tk 19 (bl 28 1048575) rfl (by kernel_rfl) dc (fun W h => h.holds ((l2.trans l3).trans l4) (by first | exact mp rfl | exact mq rfl)) (Yld.eval T rfl rfl) (RAny.tk 20 (bl 28 2097151) rfl (by kernel_rfl) dc (fun W h => h.holds ((l2.trans l3).trans l4) (by first | exact mp rfl | exact mq rfl)) (Yld.off rfl) (RAny.tk 21 (bl 28 4194303) rfl (by kernel_rfl) dc (fun W h => h.holds ((l2.trans l3).trans l4) (by first | exact mp rfl | exact mq rfl)) (Yld.off rfl) (RAny.tk 22 (bl 28 8388607) rfl (by kernel_rfl) dc (fun W h => h.holds ((l2.trans l3).trans l4) (by first | exact mp rfl | exact mq rfl)) (Yld.eval T rfl rfl) ?_)))
    refine RAny.on 23 (bl 28 16777215) rfl (by kernel_rfl) rfl dc (Eff.callM (M := [_]) (N := _ :: _) (hWS J4 _ x (false && !(false && freeN name.text)) (blk5 (wquo name.text (blk5 w').2).2).2 p o4 ((tJs d).mono hrx ((l2.trans l3).trans l4)) f2 hW4 (by omega)) (List.Perm.swap _ _ _) call17 (by rw [hfr]; rfl) fun y J5 M5 l5 hv => ⟨fun W h => h.holds (((l2.trans l3).trans l4).trans l5) (by intro x hx; rcases List.mem_singleton.1 hx with rfl; simp), ?_⟩)
    obtain ⟨rfl, o5, rfl, hW5⟩ := hv
    skip
    refine RAny.perm (List.Perm.swap _ _ _) (RAny.tk 24 (bl 28 33554431) rfl (by kernel_rfl) dc (fun W h => h.holds (((l2.trans l3).trans l4).trans l5) (by first | exact mp rfl | exact mq rfl)) (Yld.ev ((Ev.catS rfl rfl (by simp only [List.length_append, List.length_cons, List.length_nil]; omega)).as (show _ = str (wmem (wval d) false name x w').1 from rfl)) rfl) (RAny.on 25 (bl 28 67108863) rfl (by kernel_rfl) rfl dc (Eff.lit T rfl rfl rfl dc dc rfl rfl rfl rfl rfl fun bq => ⟨fun W h => h.holds (((l2.trans l3).trans l4).trans l5) (by intro x hx; rcases List.mem_singleton.1 hx with rfl; simp), ?_⟩)))
    refine RAny.on 26 (bl 28 134217727) rfl (by kernel_rfl) rfl dc (Eff.appOneP (t := tStr) (b := bq) (M := M) (N := [_, _, _]) el24 (hG.mono (((l2.trans l3).trans l4).trans l5)) (show tStr.rel _ [str (wmem (wval d) false name x w').1] _ from rfl) rfl rfl (List.perm_append_comm (l₁ := [_, _, _]) (l₂ := M)) List.mem_cons_self rfl (by omega) (by omega) fun v2 M2 hG2 => ⟨fun W h => h.holds (((l2.trans l3).trans l4).trans l5) (by intro x hx; rcases List.mem_singleton.1 hx with rfl; simp), ?_⟩)
    obtain ⟨A6, z6, rfl⟩ := hG2.isSl
    refine RAny.perm (List.perm_append_comm (l₁ := M2) (l₂ := [_, _, _])) (RAny.tk 27 (bl 28 268435455) rfl (by kernel_rfl) dc (fun W h => h.holds (((l2.trans l3).trans l4).trans l5) (by first | exact mp rfl | exact mq rfl)) (Yld.eval T rfl rfl) (RAny.done _ (by kernel_rfl) (rI (rO (fun Z hZ => (eE rfl (fE (Ev.addK (r := ((2 * (done ++ [(wmem (wval d) false name x w').1]).length : Nat) : Int)) rfl rfl (by rw [wI (by omega) (by omega)]; simp; omega)) (eE rfl (zN hZ ?_)))))))))
    skip
    refine Run.dropL (L' := (b4, _) :: (p, o5) :: M2) (List.sublist_cons_self _ _) ?_
    refine Run.keep [0, 2, 4, 7, 10, 11] [_, _, _, _, _, _] rfl ?_
    exact ih rest.length _ _ _ (by simp only [List.length_cons]; omega) ⟨done ++ [(wmem (wval d) false name x w').1], pre ++ [name, x], rest, (wmem (wval d) false name x w').2, o5, _, M2, rfl, by rw [hkids]; simp, by simp [hprl]; omega, f3, by rw [<- hdone]; simp, hrem, rfl, rfl, hW5, hG2, hle.trans (((l2.trans l3).trans l4).trans l5)⟩
   | true =>
    skip
    refine RAny.tk 19 (bl 28 1048575) rfl (by kernel_rfl) dc (fun W h => h.holds ((l2.trans l3).trans l4) (by first | exact mp rfl | exact mq rfl)) (Yld.eval T rfl rfl) (RAny.tk 20 (bl 28 2097151) rfl (by kernel_rfl) dc (fun W h => h.holds ((l2.trans l3).trans l4) (by first | exact mp rfl | exact mq rfl)) (Yld.eval T rfl rfl) (RAny.tk 21 (bl 28 4194303) rfl (by kernel_rfl) dc (fun W h => h.holds ((l2.trans l3).trans l4) (by first | exact mp rfl | exact mq rfl)) (Yld.eval T rfl rfl) (RAny.tk 22 (bl 28 8388607) rfl (by kernel_rfl) dc (fun W h => h.holds ((l2.trans l3).trans l4) (by first | exact mp rfl | exact mq rfl)) (Yld.eval T rfl rfl) ?_)))
    refine RAny.on 23 (bl 28 16777215) rfl (by kernel_rfl) rfl dc (Eff.callM (M := [_]) (N := _ :: _) (hWS J4 _ x (true && !(true && freeN name.text)) (blk5 (wquo name.text (blk5 w').2).2).2 p o4 ((tJs d).mono hrx ((l2.trans l3).trans l4)) f2 hW4 (by omega)) (List.Perm.swap _ _ _) call17 (by rw [hfr]; rfl) fun y J5 M5 l5 hv => ⟨fun W h => h.holds (((l2.trans l3).trans l4).trans l5) (by intro x hx; rcases List.mem_singleton.1 hx with rfl; simp), ?_⟩)
    obtain ⟨rfl, o5, rfl, hW5⟩ := hv
    skip
    refine RAny.perm (List.Perm.swap _ _ _) (RAny.tk 24 (bl 28 33554431) rfl (by kernel_rfl) dc (fun W h => h.holds (((l2.trans l3).trans l4).trans l5) (by first | exact mp rfl | exact mq rfl)) (Yld.ev ((Ev.catS rfl rfl (by simp only [List.length_append, List.length_cons, List.length_nil]; omega)).as (show _ = str (wmem (wval d) true name x w').1 from rfl)) rfl) (RAny.on 25 (bl 28 67108863) rfl (by kernel_rfl) rfl dc (Eff.lit T rfl rfl rfl dc dc rfl rfl rfl rfl rfl fun bq => ⟨fun W h => h.holds (((l2.trans l3).trans l4).trans l5) (by intro x hx; rcases List.mem_singleton.1 hx with rfl; simp), ?_⟩)))
    refine RAny.on 26 (bl 28 134217727) rfl (by kernel_rfl) rfl dc (Eff.appOneP (t := tStr) (b := bq) (M := M) (N := [_, _, _]) el24 (hG.mono (((l2.trans l3).trans l4).trans l5)) (show tStr.rel _ [str (wmem (wval d) true name x w').1] _ from rfl) rfl rfl (List.perm_append_comm (l₁ := [_, _, _]) (l₂ := M)) List.mem_cons_self rfl (by omega) (by omega) fun v2 M2 hG2 => ⟨fun W h => h.holds (((l2.trans l3).trans l4).trans l5) (by intro x hx; rcases List.mem_singleton.1 hx with rfl; simp), ?_⟩)
    obtain ⟨A6, z6, rfl⟩ := hG2.isSl
    refine RAny.perm (List.perm_append_comm (l₁ := M2) (l₂ := [_, _, _])) (RAny.tk 27 (bl 28 268435455) rfl (by kernel_rfl) dc (fun W h => h.holds (((l2.trans l3).trans l4).trans l5) (by first | exact mp rfl | exact mq rfl)) (Yld.eval T rfl rfl) (RAny.done _ (by kernel_rfl) (rI (rO (fun Z hZ => (eE rfl (fE (Ev.addK (r := ((2 * (done ++ [(wmem (wval d) true name x w').1]).length : Nat) : Int)) rfl rfl (by rw [wI (by omega) (by omega)]; simp; omega)) (eE rfl (zN hZ ?_)))))))))
    skip
    refine Run.dropL (L' := (b4, _) :: (p, o5) :: M2) (List.sublist_cons_self _ _) ?_
    refine Run.keep [0, 2, 4, 7, 10, 11] [_, _, _, _, _, _] rfl ?_
    exact ih rest.length _ _ _ (by simp only [List.length_cons]; omega) ⟨done ++ [(wmem (wval d) true name x w').1], pre ++ [name, x], rest, (wmem (wval d) true name x w').2, o5, _, M2, rfl, by rw [hkids]; simp, by simp [hprl]; omega, f3, by rw [<- hdone]; simp, hrem, rfl, rfl, hW5, hG2, hle.trans (((l2.trans l3).trans l4).trans l5)⟩
end Go.V
namespace Go.V
open Go.Proofs.Tryz
open Go.RowKit
set_option maxRecDepth 10000
attribute [local irreducible] Run Ops QD
theorem way_value : ∀ d, WSpec d
 | 0 => fun I cs j fixed w p o hrel hF hW hl => hF.elim
 | d + 1 => fun I cs j fixed w p o hrel hF hW hl => by
  by_cases h1 : j.kind = 115
  ·exact wv_str d I cs j fixed w p o hrel hF hW hl h1
  by_cases h2 : j.kind = 108
  ·exact wv_list d (way_value d) I cs j fixed w p o hrel hF hW hl h2
  by_cases h3 : j.kind = 111
  ·exact wv_obj d (way_value d) I cs j fixed w p o hrel hF hW hl h3
  ·exact wv_lit d I cs j fixed w p o hrel hW hl h1 h2 h3
theorem spec_Wayward (d : Nat) (I : Imm) (cs : List Value) (j : Js) (v : Value) (ws : Bs) (hrel : (tJs d).rel I cs j) (hF : Fine d j) (hS : Sl tU8 I v ws) (hw : ws.length <= 2147483647) (hl : (wval d j true ws).1.length <= 34359738368) :
  Pure prog 7 [.agg cs.toArray, v] I fun w J => w = str (wval d j true ws).1 := by
 obtain ⟨A2, n2, c2, rfl⟩ := tJs_shape hrel
 have hS0 := hS
 obtain ⟨A0, c0, rfl⟩ := hS.isSl
 refine Spec.enter 12 [(0, _), (1, _)] func7 rfl ntmps7 (by simp) rfl ?_
 intro C hCf hR hCI
 refine rS ?_
 refine Run.region (Ops.box rfl dc rfl rfl (fun b2 => (oP rfl (Ops.nil (rS (rP 2 (fun Z hZ => (eE rfl (fE (Ev.buildS bd52 rfl rfl) (zN hZ ((Ops.box rfl dc rfl rfl (fun b7 => (oP rfl (Ops.nil (rS (rP 2 (fun Z hZ => (eE rfl (gY (Yv.loadN 1 T rfl rfl rfl rfl rfl rfl) (zN hZ ((Ops.callM (M := [_]) ((way_value d I _ j true ws b7 _ hrel hF ⟨_, ws, 0, rfl, hS0, by omega, rfl, hw⟩ hl)) (.refl _) rfl dc call17 rfl ?_)))))))))))))))))))))))
 rintro y J1 M1 l1 ⟨rfl, o1, rfl, hW1⟩
 refine oP rfl (Ops.nil ?_)
 skip
 refine Run.fin (Run.ret1 (by rw [hCf]; exact func7) results7 rfl (hR _ _ _ ?_))
 exact ⟨rfl, rfl⟩
theorem spec_jText (I : Imm) (s : Bs) : Pure prog 38 [str s] I fun w J => w = .agg [.int .u8 115, str s, .slice none 0 0].toArray := by
 refine Spec.enter 5 [(0, _)] func38 rfl ntmps38 (by simp) rfl ?_
 intro C hCf hR hCI
 refine rS ?_
 refine Run.region (Ops.alloc rfl dc (T.zeroOk rfl) rfl (fun b2 => (Ops.nil (rS (rP 1 (fun Z hZ => (eE rfl (zN hZ ((Ops.buildL bd38 rfl dc rfl rfl (Ops.store 0 rfl rfl rfl rfl rfl (T.sizeOk rfl) rfl (lb rfl) rfl rfl (Ops.nil ?_))))))))))))
 skip
 refine Run.retC T 0 (by rw [hCf]; exact func38) results38 rfl rfl rfl rfl rfl rfl (hR _ _ _ ?_)
 exact ⟨rfl, rfl⟩
end Go.V
namespace Go.V
open Go.Proofs.Tryz
open Go.RowKit
set_option maxRecDepth 10000
attribute [local irreducible] Run Ops QD
section
variable {P : Program} {n : Nat} {C : Cx} {k : List Item} {env : Env} {L : Own} {I : Imm} {ops : Array Oper} {late : List Nat} {S1 S : World → Prop}
variable {ty : TypeId} {ps : String} {af : Array Edge} {g : Option (Nat × Bool)} {d : Nat}
theorem RAnyL.twoS {listed : List Bool} {fuel : Nat} (i j : Nat) {op1 op2 : Op} {ty1 ty2 : TypeId} {ps1 ps2 : String} {af1 af2 : Array Edge} {g1 g2 : Option (Nat × Bool)} (l1 l2 : List Bool)
  (h1 : ops[i]? = some ⟨none, op1, ty1, ps1, af1, g1⟩) (h2 : ops[j]? = some ⟨none, op2, ty2, ps2, af2, g2⟩) (ok : twoOk ops listed i j l1 l2 = true) (w1 : want env ops g1 = some true) (w2 : want env ops g2 = some true)
  (e1 : Eff P n C env L I ⟨none, op1, ty1, ps1, af1, g1⟩ fun v L1 I1 => ((∀ W, Inv C.w0 C.I0 C.L0 I1 L1 W -> S1 W) /\ (late.contains i = true \/ ∀ W, Inv C.w0 C.I0 C.L0 I1 L1 W -> S W)) /\ RAnyL P n C ops late S1 S k fuel l1 env L1 I1)
  (e2 : Eff P n C env L I ⟨none, op2, ty2, ps2, af2, g2⟩ fun v L1 I1 => ((∀ W, Inv C.w0 C.I0 C.L0 I1 L1 W -> S1 W) /\ (late.contains j = true \/ ∀ W, Inv C.w0 C.I0 C.L0 I1 L1 W -> S W)) /\ RAnyL P n C ops late S1 S k fuel l2 env L1 I1) : RAnyL P n C ops late S1 S k (fuel + 1) listed env L I := by
 simp only [twoOk, Bool.and_eq_true, beq_iff_eq] at ok
 obtain ⟨⟨hr, hs1⟩, hs2⟩ := ok
 refine RAnyL.all [i, j] hr (by simp) fun q hq => ?_
 have hq' : q = i \/ q = j := by simpa using hq
 rcases hq' with rfl | rfl
 ·refine ⟨_, h1, w1, dNo, fun a W he hin => ?_⟩
  rcases e1 a W he hin with ⟨v, W1, L1, I1, q1, q2, q3, q4⟩ | ⟨f, args, q1, q2⟩
  ·exact .inl ⟨v, W1, L1, I1, q1, q2, q3, l1, by rw [<- hs1]; simp, q4⟩
  ·exact .inr ⟨f, args, q1, q2.mono fun e W' ⟨v, L1, I1, p1, p2, p3, p4⟩ => ⟨v, L1, I1, p1, p2, p3, l1, by rw [<- hs1]; simp, p4⟩⟩
 ·refine ⟨_, h2, w2, dNo, fun a W he hin => ?_⟩
  rcases e2 a W he hin with ⟨v, W1, L1, I1, q1, q2, q3, q4⟩ | ⟨f, args, q1, q2⟩
  ·exact .inl ⟨v, W1, L1, I1, q1, q2, q3, l2, by rw [<- hs2]; simp, q4⟩
  ·exact .inr ⟨f, args, q1, q2.mono fun e W' ⟨v, L1, I1, p1, p2, p3, p4⟩ => ⟨v, L1, I1, p1, p2, p3, l2, by rw [<- hs2]; simp, p4⟩⟩
end
theorem setAt_mid (a o r n : List Value) (h : o.length = n.length) : setAt (a ++ (o ++ r)) a.length n = a ++ (n ++ r) := by
 unfold setAt
 rw [List.take_left, <- h, <- List.append_assoc a o r, <- List.length_append, List.drop_left, List.append_assoc]
theorem fill2 {cur xs n1 n2 c1 c2 : List Value} {p q tot : Nat} (hp : xs.length = p) (h1 : n1.length = c1.length) (h2 : n2.length = c2.length) (hq : p + c1.length = q) (ht : q + c2.length = tot) (hc : cur.take tot = xs ++ (n1 ++ n2)) (hl : tot <= cur.length) :
  (setAt (setAt cur p c1) q c2).take tot = xs ++ (c1 ++ c2) /\ (setAt (setAt cur p c1) q c2).length = cur.length /\ (setAt cur p c1).length = cur.length := by
 have e : cur = xs ++ (n1 ++ (n2 ++ cur.drop tot)) := by
  have := List.take_append_drop tot cur
  rw [hc] at this
  simpa using this.symm
 generalize cur.drop tot = r at e
 subst hp
 have e1 : setAt cur xs.length c1 = xs ++ (c1 ++ (n2 ++ r)) := by rw [e]; exact setAt_mid xs n1 _ c1 h1
 have e2 : setAt (xs ++ (c1 ++ (n2 ++ r))) q c2 = xs ++ (c1 ++ (c2 ++ r)) := by
  have := setAt_mid (xs ++ c1) n2 r c2 h2
  rw [List.length_append, hq] at this
  simpa using this
 rw [e1, e2]
 refine ⟨?_, ?_, ?_⟩
 ·rw [<- ht, <- hq, show xs ++ (c1 ++ (c2 ++ r)) = (xs ++ (c1 ++ c2)) ++ r by simp, show xs.length + c1.length + c2.length = (xs ++ (c1 ++ c2)).length by simp; omega, List.take_left]
 ·rw [e]; simp only [List.length_append]; omega
 ·rw [e]; simp only [List.length_append]; omega
def zJ : List Value := [.int .u8 0, str [], .slice none 0 0]
def obj (vk : Value) : Obj := blk [.int .u8 111, str [], vk] 56
theorem sl_nil {α : Type} (t : Ty α) (I : Imm) : Sl t I (.slice none 0 0) [] := ⟨none, 0, rfl, Nat.le_refl _, .inl rfl⟩
set_option maxHeartbeats 2000000 in
theorem object_put (d : Nat) (I : Imm) (b : Nat) (name : Bs) (cv : List Value) (v : Js) (kids : List Js) (vk : Value) (M : Own) (hG : Gr (tJs (d + 1)) I 38 vk kids M) (hv : (tJs (d + 1)).rel I cv v) (hkl : kids.length <= 1000000) :
  Spec prog 18 [.pointer (some ⟨b, 0, none⟩), str name, .agg cv.toArray] I ((b, obj vk) :: M) fun _ J N => ∃ vk' M', N = (b, obj vk') :: M' /\ Gr (tJs (d + 1)) J 38 vk' (kids ++ [.mk 115 name [], v]) M' := by
 obtain ⟨A2, n2, c2, rfl⟩ := tJs_shape hv
 obtain ⟨A1, c1, rfl⟩ := hG.isSl
 obtain ⟨cs, hGr, hC⟩ := hG
 have hcsl : cs.length = kids.length * 3 := hGr.1
 refine Spec.enter 23 [(0, _), (1, _), (2, _)] func18 rfl ntmps18 (by simp) rfl ?_
 intro C hCf hR hCI
 refine rS ?_
 refine Run.region (Ops.box rfl dc rfl rfl (fun b5 => (Ops.nil ?_)))
 skip
 refine Run.regionL [12, 15, 19] (Holds I []) (Holds I [(b5, blk [.int .u8 (v.kind.toNat : Int), str v.text, .slice A2 n2 c2] 38), (b, obj (.slice A1 kids.length c1))]) (bl 20 0) (by kernel_rfl) (by kernel_rfl) (fun W h => ⟨h.holds (Le.refl _) (by first | exact mp rfl | exact mq rfl | exact mr rfl), h.holds (Le.refl _) (by first | exact mp rfl | exact mq rfl | exact mr rfl)⟩) (RAnyL.tk 0 (bl 20 1) rfl (by kernel_rfl) dc rfl (T := fun _ => True) (.inl fun _ _ => trivial) (Yld.eval T rfl rfl) (RAnyL.tk 1 (bl 20 3) rfl (by kernel_rfl) dc rfl (T := fun _ => True) (.inl fun _ _ => trivial) (Yld.eval T rfl rfl) (RAnyL.tk 2 (bl 20 7) rfl (by kernel_rfl) dc rfl (T := fun _ => True) (.inl fun _ _ => trivial) (Yld.eval T rfl rfl) (RAnyL.tk 3 (bl 20 15) rfl (by kernel_rfl) dc rfl (T := fun _ => True) (.inl fun _ _ => trivial) (Yld.eval T rfl rfl) ?_))))
 refine RAnyL.tk 4 (bl 20 31) rfl (by kernel_rfl) dc rfl (.inr ⟨by kernel_rfl, fun _ h => h⟩) (Yld.load 1 T rfl rfl rfl rfl rfl) (RAnyL.tk 5 (bl 20 63) rfl (by kernel_rfl) dc rfl (T := fun _ => True) (.inl fun _ _ => trivial) (Yld.eval T rfl rfl) (RAnyL.tk 7 (bl 20 191) rfl (by kernel_rfl) dc rfl (.inr ⟨by kernel_rfl, fun _ h => h⟩) (Yld.loadN 0 T rfl rfl rfl rfl rfl rfl rfl) (RAnyL.tk 8 (bl 20 447) rfl (by kernel_rfl) dc rfl (T := fun _ => True) (.inl fun _ _ => trivial) (Yld.lenV T rfl rfl rfl) (RAnyL.tk 13 (bl 20 8639) rfl (by kernel_rfl) dc rfl (T := fun _ => True) (.inl fun _ _ => trivial) (Yld.ev (Ev.addK (r := ((kids.length + 1 : Nat) : Int)) rfl rfl (by rw [wI (by omega) (by omega)]; omega)) rfl) ?_))))
 refine RAnyL.two 6 9 (bl 20 8703) (bl 20 9151) rfl rfl (by kernel_rfl) rfl rfl dc dc (Eff.call (spec_jText I name) call38 rfl fun y J2 l2 hy => ⟨⟨fun W h => h.holds l2 (fun _ h => by cases h), .inr fun W h => h.holds l2 (by intro x hx; simp only [List.mem_cons, List.not_mem_nil, or_false] at hx; rcases hx with rfl | rfl <;> first | (simp; done) | exact .tail _ (.tail _ (.head _)) | exact .tail _ (.tail _ (.tail _ (.head _))))⟩, ?_⟩) (Eff.lit T rfl rfl rfl dc dc rfl rfl rfl rfl rfl fun bq => ⟨⟨fun W h => h.holds (Le.refl _) (fun _ h => by cases h), .inr fun W h => h.holds (Le.refl _) (by intro x hx; simp only [List.mem_cons, List.not_mem_nil, or_false] at hx; rcases hx with rfl | rfl <;> first | (simp; done) | exact .tail _ (.tail _ (.head _)) | exact .tail _ (.tail _ (.tail _ (.head _))))⟩, ?_⟩)
 skip
 ·skip
  skip
  obtain rfl := hy
  refine RAnyL.on 9 (bl 20 9215) rfl (by kernel_rfl) rfl dc (Eff.lit T rfl rfl rfl dc dc rfl rfl rfl rfl rfl fun bq => ⟨⟨fun W h => h.holds l2 (fun _ h => by cases h), .inr fun W h => h.holds l2 (by intro x hx; simp only [List.mem_cons, List.not_mem_nil, or_false] at hx; rcases hx with rfl | rfl <;> first | (simp; done) | exact .tail _ (.tail _ (.head _)) | exact .tail _ (.tail _ (.tail _ (.head _))))⟩, ?_⟩)
  refine RAnyL.on 10 (bl 20 10239) rfl (by kernel_rfl) rfl dc (Eff.append (M := M) (N := [_, _, _]) (news := zJ ++ zJ) (q := 2) el36 rfl rfl (List.perm_append_comm (l₁ := [_, _, _]) (l₂ := M)) hGr (fun W hi => Src.ofSlice W el36.under ⟨bq, 0, none⟩ 2 2 (zJ ++ zJ) rfl (fun j u hu => by rw [add_off, cell_blk (hi.fits.own bq _ List.mem_cons_self)]; simp only [Nat.zero_add, List.getElem?_toArray]; exact hu) (one_spec rfl)) (by omega) (by omega) fun v3 M3 hG3 => ⟨⟨fun W h => h.holds l2 (fun _ h => by cases h), .inr fun W h => h.holds l2 (by intro x hx; simp only [List.mem_cons, List.not_mem_nil, or_false] at hx; rcases hx with rfl | rfl <;> first | (simp; done) | exact .tail _ (.tail _ (.head _)) | exact .tail _ (.tail _ (.tail _ (.head _))))⟩, ?_⟩)
  obtain ⟨hlen3, hG3⟩ := hG3
  rcases hG3 with ⟨_, h0, _⟩ | ⟨b3, cap, cur, rfl, rfl, hcap, hsz, htake⟩
  ·omega
  have hcl : cur.toList.length = cap * 3 := by simpa using hsz
  obtain ⟨f1, f2, f3⟩ := fill2 (cur := cur.toList) (xs := cs) (n1 := zJ) (n2 := zJ) (c1 := [.int .u8 115, str name, .slice none 0 0]) (c2 := [.int .u8 (v.kind.toNat : Int), str v.text, .slice A2 n2 c2]) (p := kids.length * 3) (q := (kids.length + 1) * 3) (tot := (kids.length + 2) * 3) hcsl rfl rfl (by simp only [List.length_cons, List.length_nil]; omega) (by simp only [List.length_cons, List.length_nil]; omega) htake (by omega)
  refine RAnyL.perm (L' := (b3, blk cur.toList 38) :: [_, _, _]) (.refl _) (RAnyL.tk 11 (bl 20 12287) rfl (by kernel_rfl) dc rfl (T := fun _ => True) (.inl fun _ _ => trivial) (Yld.as (v' := .pointer (some ⟨b3, kids.length * 3, none⟩)) (Yld.indexSl (t := tJss (tJs d)) T rfl rfl rfl rfl rfl rfl (by omega) (by omega)) (by simp [show (tJss (tJs d)).size = 3 from rfl])) (RAnyL.tk 16 (bl 20 77823) rfl (by kernel_rfl) dc rfl (T := fun _ => True) (.inl fun _ _ => trivial) (Yld.eval T rfl rfl) (RAnyL.tk 17 (bl 20 208895) rfl (by kernel_rfl) dc rfl (T := fun _ => True) (.inl fun _ _ => trivial) (Yld.eval T rfl rfl) (RAnyL.tk 18 (bl 20 471039) rfl (by kernel_rfl) dc rfl (T := fun _ => True) (.inl fun _ _ => trivial) (Yld.eval T rfl rfl) ?_))))
  refine RAnyL.twoS 12 19 (bl 20 475135) (bl 20 995327) rfl rfl (by kernel_rfl) rfl rfl (Eff.store 0 rfl rfl rfl rfl (T.sizeOk rfl) rfl (by show _ + 3 <= _; omega) rfl rfl ⟨⟨fun W h => h.holds l2 (fun _ h => by cases h), .inl rfl⟩, ?_⟩) (Eff.store 3 rfl rfl rfl rfl (T.sizeOk rfl) rfl (lb rfl) rfl rfl ⟨⟨fun W h => h.holds l2 (fun _ h => by cases h), .inl rfl⟩, ?_⟩)
  skip
  ·skip
   skip
   refine RAnyL.tk 14 (bl 20 491519) rfl (by kernel_rfl) dc rfl (T := fun _ => True) (.inl fun _ _ => trivial) (Yld.as (v' := .pointer (some ⟨b3, (kids.length + 1) * 3, none⟩)) (Yld.indexSl (t := tJss (tJs d)) T rfl rfl rfl rfl rfl rfl (by omega) (by omega)) (by simp [show (tJss (tJs d)).size = 3 from rfl])) ?_
   refine RAnyL.twoS 15 19 (bl 20 524287) (bl 20 1015807) rfl rfl (by kernel_rfl) rfl rfl (Eff.store 0 rfl rfl rfl rfl (T.sizeOk rfl) rfl (by show _ + 3 <= _; rw [f3]; omega) rfl rfl ⟨⟨fun W h => h.holds l2 (fun _ h => by cases h), .inl rfl⟩, ?_⟩) (Eff.store 3 rfl rfl rfl rfl (T.sizeOk rfl) rfl (lb rfl) rfl rfl ⟨⟨fun W h => h.holds l2 (fun _ h => by cases h), .inl rfl⟩, ?_⟩)
   skip
   ·skip
    skip
    refine RAnyL.os 19 (bl 20 1048575) rfl (by kernel_rfl) rfl (Eff.store 3 rfl rfl rfl rfl (T.sizeOk rfl) rfl (lb rfl) rfl rfl ⟨⟨fun W h => h.holds l2 (fun _ h => by cases h), .inl rfl⟩, (RAnyL.done _ (by kernel_rfl) ?_)⟩)
    skip
    have hGn : Gr (tJs (d + 1)) J2 38 (.slice (some ⟨b3, 0, none⟩) (kids.length + 2) cap) (kids ++ [.mk 115 name [], v]) [(b3, blk (setAt (setAt cur.toList (kids.length * 3) [.int .u8 115, str name, .slice none 0 0]) ((kids.length + 1) * 3) [.int .u8 (v.kind.toNat : Int), str v.text, .slice A2 n2 c2]) 38)] := by
     refine ⟨cs ++ ([.int .u8 115, str name, .slice none 0 0] ++ [.int .u8 (v.kind.toNat : Int), str v.text, .slice A2 n2 c2]), ⟨by simp [hcsl, tJs_size]; omega, .inr ⟨b3, cap, (setAt (setAt cur.toList (kids.length * 3) [.int .u8 115, str name, .slice none 0 0]) ((kids.length + 1) * 3) [.int .u8 (v.kind.toNat : Int), str v.text, .slice A2 n2 c2]).toArray, by simp, rfl, by simp; omega, by simpa [f2, tJs_size] using hcl, by simpa [tJs_size] using f1⟩⟩, ?_⟩
     exact (hC.mono l2).append ((Cells.one (t := tJs (d + 1)) (x := .mk 115 name []) ⟨.slice none 0 0, rfl, sl_nil _ _⟩).append (Cells.one ((tJs (d + 1)).mono hv l2)))
    refine Run.dropL (L' := [(b3, _), (b, _)]) (List.Sublist.cons_cons _ (List.Sublist.cons _ (List.Sublist.cons _ (List.Sublist.refl _)))) ?_
    refine Run.perm (L' := [(b, _), (b3, _)]) (List.Perm.swap _ _ _) ?_
    refine Run.end0 (by rw [hCf]; exact func18) results18 (hR _ _ _ ?_)
    exact ⟨_, _, rfl, hGn⟩
   ·skip
    skip
    skip
    refine RAnyL.os 15 (bl 20 1048575) rfl (by kernel_rfl) rfl (Eff.store 0 rfl rfl rfl rfl (T.sizeOk rfl) rfl (by show _ + 3 <= _; rw [f3]; omega) rfl rfl ⟨⟨fun W h => h.holds l2 (fun _ h => by cases h), .inl rfl⟩, (RAnyL.done _ (by kernel_rfl) ?_)⟩)
    skip
    have hGn : Gr (tJs (d + 1)) J2 38 (.slice (some ⟨b3, 0, none⟩) (kids.length + 2) cap) (kids ++ [.mk 115 name [], v]) [(b3, blk (setAt (setAt cur.toList (kids.length * 3) [.int .u8 115, str name, .slice none 0 0]) ((kids.length + 1) * 3) [.int .u8 (v.kind.toNat : Int), str v.text, .slice A2 n2 c2]) 38)] := by
     refine ⟨cs ++ ([.int .u8 115, str name, .slice none 0 0] ++ [.int .u8 (v.kind.toNat : Int), str v.text, .slice A2 n2 c2]), ⟨by simp [hcsl, tJs_size]; omega, .inr ⟨b3, cap, (setAt (setAt cur.toList (kids.length * 3) [.int .u8 115, str name, .slice none 0 0]) ((kids.length + 1) * 3) [.int .u8 (v.kind.toNat : Int), str v.text, .slice A2 n2 c2]).toArray, by simp, rfl, by simp; omega, by simpa [f2, tJs_size] using hcl, by simpa [tJs_size] using f1⟩⟩, ?_⟩
     exact (hC.mono l2).append ((Cells.one (t := tJs (d + 1)) (x := .mk 115 name []) ⟨.slice none 0 0, rfl, sl_nil _ _⟩).append (Cells.one ((tJs (d + 1)).mono hv l2)))
    refine Run.dropL (L' := [(b3, _), (b, _)]) (List.Sublist.cons_cons _ (List.Sublist.cons _ (List.Sublist.cons _ (List.Sublist.refl _)))) ?_
    refine Run.perm (L' := [(b, _), (b3, _)]) (List.Perm.swap _ _ _) ?_
    refine Run.end0 (by rw [hCf]; exact func18) results18 (hR _ _ _ ?_)
    exact ⟨_, _, rfl, hGn⟩
  ·skip
   skip
   skip
   refine RAnyL.os 12 (bl 20 999423) rfl (by kernel_rfl) rfl (Eff.store 0 rfl rfl rfl rfl (T.sizeOk rfl) rfl (by show _ + 3 <= _; omega) rfl rfl ⟨⟨fun W h => h.holds l2 (fun _ h => by cases h), .inl rfl⟩, (RAnyL.tk 14 (bl 20 1015807) rfl (by kernel_rfl) dc rfl (T := fun _ => True) (.inl fun _ _ => trivial) (Yld.as (v' := .pointer (some ⟨b3, (kids.length + 1) * 3, none⟩)) (Yld.indexSl (t := tJss (tJs d)) T rfl rfl rfl rfl rfl rfl (by omega) (by omega)) (by simp [show (tJss (tJs d)).size = 3 from rfl])) (RAnyL.os 15 (bl 20 1048575) rfl (by kernel_rfl) rfl (Eff.store 0 rfl rfl rfl rfl (T.sizeOk rfl) rfl (by show _ + 3 <= _; rw [f3]; omega) rfl rfl ⟨⟨fun W h => h.holds l2 (fun _ h => by cases h), .inl rfl⟩, (RAnyL.done _ (by kernel_rfl) ?_)⟩)))⟩)
   skip
   have hGn : Gr (tJs (d + 1)) J2 38 (.slice (some ⟨b3, 0, none⟩) (kids.length + 2) cap) (kids ++ [.mk 115 name [], v]) [(b3, blk (setAt (setAt cur.toList (kids.length * 3) [.int .u8 115, str name, .slice none 0 0]) ((kids.length + 1) * 3) [.int .u8 (v.kind.toNat : Int), str v.text, .slice A2 n2 c2]) 38)] := by
    refine ⟨cs ++ ([.int .u8 115, str name, .slice none 0 0] ++ [.int .u8 (v.kind.toNat : Int), str v.text, .slice A2 n2 c2]), ⟨by simp [hcsl, tJs_size]; omega, .inr ⟨b3, cap, (setAt (setAt cur.toList (kids.length * 3) [.int .u8 115, str name, .slice none 0 0]) ((kids.length + 1) * 3) [.int .u8 (v.kind.toNat : Int), str v.text, .slice A2 n2 c2]).toArray, by simp, rfl, by simp; omega, by simpa [f2, tJs_size] using hcl, by simpa [tJs_size] using f1⟩⟩, ?_⟩
    exact (hC.mono l2).append ((Cells.one (t := tJs (d + 1)) (x := .mk 115 name []) ⟨.slice none 0 0, rfl, sl_nil _ _⟩).append (Cells.one ((tJs (d + 1)).mono hv l2)))
   refine Run.dropL (L' := [(b3, _), (b, _)]) (List.Sublist.cons_cons _ (List.Sublist.cons _ (List.Sublist.cons _ (List.Sublist.refl _)))) ?_
   refine Run.perm (L' := [(b, _), (b3, _)]) (List.Perm.swap _ _ _) ?_
   refine Run.end0 (by rw [hCf]; exact func18) results18 (hR _ _ _ ?_)
   exact ⟨_, _, rfl, hGn⟩
 ·skip
  skip
  skip
  refine RAnyL.on 6 (bl 20 9215) rfl (by kernel_rfl) rfl dc (Eff.call (spec_jText I name) call38 rfl fun y J2 l2 hy => ⟨⟨fun W h => h.holds l2 (fun _ h => by cases h), .inr fun W h => h.holds l2 (by intro x hx; simp only [List.mem_cons, List.not_mem_nil, or_false] at hx; rcases hx with rfl | rfl <;> first | (simp; done) | exact .tail _ (.tail _ (.head _)) | exact .tail _ (.tail _ (.tail _ (.head _))))⟩, ?_⟩)
  obtain rfl := hy
  refine RAnyL.on 10 (bl 20 10239) rfl (by kernel_rfl) rfl dc (Eff.append (M := M) (N := [_, _, _]) (news := zJ ++ zJ) (q := 2) el36 rfl rfl (List.perm_append_comm (l₁ := [_, _, _]) (l₂ := M)) hGr (fun W hi => Src.ofSlice W el36.under ⟨bq, 0, none⟩ 2 2 (zJ ++ zJ) rfl (fun j u hu => by rw [add_off, cell_blk (hi.fits.own bq _ List.mem_cons_self)]; simp only [Nat.zero_add, List.getElem?_toArray]; exact hu) (one_spec rfl)) (by omega) (by omega) fun v3 M3 hG3 => ⟨⟨fun W h => h.holds l2 (fun _ h => by cases h), .inr fun W h => h.holds l2 (by intro x hx; simp only [List.mem_cons, List.not_mem_nil, or_false] at hx; rcases hx with rfl | rfl <;> first | (simp; done) | exact .tail _ (.tail _ (.head _)) | exact .tail _ (.tail _ (.tail _ (.head _))))⟩, ?_⟩)
  obtain ⟨hlen3, hG3⟩ := hG3
  rcases hG3 with ⟨_, h0, _⟩ | ⟨b3, cap, cur, rfl, rfl, hcap, hsz, htake⟩
  ·omega
  have hcl : cur.toList.length = cap * 3 := by simpa using hsz
  obtain ⟨f1, f2, f3⟩ := fill2 (cur := cur.toList) (xs := cs) (n1 := zJ) (n2 := zJ) (c1 := [.int .u8 115, str name, .slice none 0 0]) (c2 := [.int .u8 (v.kind.toNat : Int), str v.text, .slice A2 n2 c2]) (p := kids.length * 3) (q := (kids.length + 1) * 3) (tot := (kids.length + 2) * 3) hcsl rfl rfl (by simp only [List.length_cons, List.length_nil]; omega) (by simp only [List.length_cons, List.length_nil]; omega) htake (by omega)
  refine RAnyL.perm (L' := (b3, blk cur.toList 38) :: [_, _, _]) (.refl _) (RAnyL.tk 11 (bl 20 12287) rfl (by kernel_rfl) dc rfl (T := fun _ => True) (.inl fun _ _ => trivial) (Yld.as (v' := .pointer (some ⟨b3, kids.length * 3, none⟩)) (Yld.indexSl (t := tJss (tJs d)) T rfl rfl rfl rfl rfl rfl (by omega) (by omega)) (by simp [show (tJss (tJs d)).size = 3 from rfl])) (RAnyL.tk 16 (bl 20 77823) rfl (by kernel_rfl) dc rfl (T := fun _ => True) (.inl fun _ _ => trivial) (Yld.eval T rfl rfl) (RAnyL.tk 17 (bl 20 208895) rfl (by kernel_rfl) dc rfl (T := fun _ => True) (.inl fun _ _ => trivial) (Yld.eval T rfl rfl) (RAnyL.tk 18 (bl 20 471039) rfl (by kernel_rfl) dc rfl (T := fun _ => True) (.inl fun _ _ => trivial) (Yld.eval T rfl rfl) ?_))))
  refine RAnyL.twoS 12 19 (bl 20 475135) (bl 20 995327) rfl rfl (by kernel_rfl) rfl rfl (Eff.store 0 rfl rfl rfl rfl (T.sizeOk rfl) rfl (by show _ + 3 <= _; omega) rfl rfl ⟨⟨fun W h => h.holds l2 (fun _ h => by cases h), .inl rfl⟩, ?_⟩) (Eff.store 3 rfl rfl rfl rfl (T.sizeOk rfl) rfl (lb rfl) rfl rfl ⟨⟨fun W h => h.holds l2 (fun _ h => by cases h), .inl rfl⟩, ?_⟩)
  skip
  ·skip
   skip
   refine RAnyL.tk 14 (bl 20 491519) rfl (by kernel_rfl) dc rfl (T := fun _ => True) (.inl fun _ _ => trivial) (Yld.as (v' := .pointer (some ⟨b3, (kids.length + 1) * 3, none⟩)) (Yld.indexSl (t := tJss (tJs d)) T rfl rfl rfl rfl rfl rfl (by omega) (by omega)) (by simp [show (tJss (tJs d)).size = 3 from rfl])) ?_
   refine RAnyL.twoS 15 19 (bl 20 524287) (bl 20 1015807) rfl rfl (by kernel_rfl) rfl rfl (Eff.store 0 rfl rfl rfl rfl (T.sizeOk rfl) rfl (by show _ + 3 <= _; rw [f3]; omega) rfl rfl ⟨⟨fun W h => h.holds l2 (fun _ h => by cases h), .inl rfl⟩, ?_⟩) (Eff.store 3 rfl rfl rfl rfl (T.sizeOk rfl) rfl (lb rfl) rfl rfl ⟨⟨fun W h => h.holds l2 (fun _ h => by cases h), .inl rfl⟩, ?_⟩)
   skip
   ·skip
    skip
    refine RAnyL.os 19 (bl 20 1048575) rfl (by kernel_rfl) rfl (Eff.store 3 rfl rfl rfl rfl (T.sizeOk rfl) rfl (lb rfl) rfl rfl ⟨⟨fun W h => h.holds l2 (fun _ h => by cases h), .inl rfl⟩, (RAnyL.done _ (by kernel_rfl) ?_)⟩)
    skip
    have hGn : Gr (tJs (d + 1)) J2 38 (.slice (some ⟨b3, 0, none⟩) (kids.length + 2) cap) (kids ++ [.mk 115 name [], v]) [(b3, blk (setAt (setAt cur.toList (kids.length * 3) [.int .u8 115, str name, .slice none 0 0]) ((kids.length + 1) * 3) [.int .u8 (v.kind.toNat : Int), str v.text, .slice A2 n2 c2]) 38)] := by
     refine ⟨cs ++ ([.int .u8 115, str name, .slice none 0 0] ++ [.int .u8 (v.kind.toNat : Int), str v.text, .slice A2 n2 c2]), ⟨by simp [hcsl, tJs_size]; omega, .inr ⟨b3, cap, (setAt (setAt cur.toList (kids.length * 3) [.int .u8 115, str name, .slice none 0 0]) ((kids.length + 1) * 3) [.int .u8 (v.kind.toNat : Int), str v.text, .slice A2 n2 c2]).toArray, by simp, rfl, by simp; omega, by simpa [f2, tJs_size] using hcl, by simpa [tJs_size] using f1⟩⟩, ?_⟩
     exact (hC.mono l2).append ((Cells.one (t := tJs (d + 1)) (x := .mk 115 name []) ⟨.slice none 0 0, rfl, sl_nil _ _⟩).append (Cells.one ((tJs (d + 1)).mono hv l2)))
    refine Run.dropL (L' := [(b3, _), (b, _)]) (List.Sublist.cons_cons _ (List.Sublist.cons _ (List.Sublist.cons _ (List.Sublist.refl _)))) ?_
    refine Run.perm (L' := [(b, _), (b3, _)]) (List.Perm.swap _ _ _) ?_
    refine Run.end0 (by rw [hCf]; exact func18) results18 (hR _ _ _ ?_)
    exact ⟨_, _, rfl, hGn⟩
   ·skip
    skip
    skip
    refine RAnyL.os 15 (bl 20 1048575) rfl (by kernel_rfl) rfl (Eff.store 0 rfl rfl rfl rfl (T.sizeOk rfl) rfl (by show _ + 3 <= _; rw [f3]; omega) rfl rfl ⟨⟨fun W h => h.holds l2 (fun _ h => by cases h), .inl rfl⟩, (RAnyL.done _ (by kernel_rfl) ?_)⟩)
    skip
    have hGn : Gr (tJs (d + 1)) J2 38 (.slice (some ⟨b3, 0, none⟩) (kids.length + 2) cap) (kids ++ [.mk 115 name [], v]) [(b3, blk (setAt (setAt cur.toList (kids.length * 3) [.int .u8 115, str name, .slice none 0 0]) ((kids.length + 1) * 3) [.int .u8 (v.kind.toNat : Int), str v.text, .slice A2 n2 c2]) 38)] := by
     refine ⟨cs ++ ([.int .u8 115, str name, .slice none 0 0] ++ [.int .u8 (v.kind.toNat : Int), str v.text, .slice A2 n2 c2]), ⟨by simp [hcsl, tJs_size]; omega, .inr ⟨b3, cap, (setAt (setAt cur.toList (kids.length * 3) [.int .u8 115, str name, .slice none 0 0]) ((kids.length + 1) * 3) [.int .u8 (v.kind.toNat : Int), str v.text, .slice A2 n2 c2]).toArray, by simp, rfl, by simp; omega, by simpa [f2, tJs_size] using hcl, by simpa [tJs_size] using f1⟩⟩, ?_⟩
     exact (hC.mono l2).append ((Cells.one (t := tJs (d + 1)) (x := .mk 115 name []) ⟨.slice none 0 0, rfl, sl_nil _ _⟩).append (Cells.one ((tJs (d + 1)).mono hv l2)))
    refine Run.dropL (L' := [(b3, _), (b, _)]) (List.Sublist.cons_cons _ (List.Sublist.cons _ (List.Sublist.cons _ (List.Sublist.refl _)))) ?_
    refine Run.perm (L' := [(b, _), (b3, _)]) (List.Perm.swap _ _ _) ?_
    refine Run.end0 (by rw [hCf]; exact func18) results18 (hR _ _ _ ?_)
    exact ⟨_, _, rfl, hGn⟩
  ·skip
   skip
   skip
   refine RAnyL.os 12 (bl 20 999423) rfl (by kernel_rfl) rfl (Eff.store 0 rfl rfl rfl rfl (T.sizeOk rfl) rfl (by show _ + 3 <= _; omega) rfl rfl ⟨⟨fun W h => h.holds l2 (fun _ h => by cases h), .inl rfl⟩, (RAnyL.tk 14 (bl 20 1015807) rfl (by kernel_rfl) dc rfl (T := fun _ => True) (.inl fun _ _ => trivial) (Yld.as (v' := .pointer (some ⟨b3, (kids.length + 1) * 3, none⟩)) (Yld.indexSl (t := tJss (tJs d)) T rfl rfl rfl rfl rfl rfl (by omega) (by omega)) (by simp [show (tJss (tJs d)).size = 3 from rfl])) (RAnyL.os 15 (bl 20 1048575) rfl (by kernel_rfl) rfl (Eff.store 0 rfl rfl rfl rfl (T.sizeOk rfl) rfl (by show _ + 3 <= _; rw [f3]; omega) rfl rfl ⟨⟨fun W h => h.holds l2 (fun _ h => by cases h), .inl rfl⟩, (RAnyL.done _ (by kernel_rfl) ?_)⟩)))⟩)
   skip
   have hGn : Gr (tJs (d + 1)) J2 38 (.slice (some ⟨b3, 0, none⟩) (kids.length + 2) cap) (kids ++ [.mk 115 name [], v]) [(b3, blk (setAt (setAt cur.toList (kids.length * 3) [.int .u8 115, str name, .slice none 0 0]) ((kids.length + 1) * 3) [.int .u8 (v.kind.toNat : Int), str v.text, .slice A2 n2 c2]) 38)] := by
    refine ⟨cs ++ ([.int .u8 115, str name, .slice none 0 0] ++ [.int .u8 (v.kind.toNat : Int), str v.text, .slice A2 n2 c2]), ⟨by simp [hcsl, tJs_size]; omega, .inr ⟨b3, cap, (setAt (setAt cur.toList (kids.length * 3) [.int .u8 115, str name, .slice none 0 0]) ((kids.length + 1) * 3) [.int .u8 (v.kind.toNat : Int), str v.text, .slice A2 n2 c2]).toArray, by simp, rfl, by simp; omega, by simpa [f2, tJs_size] using hcl, by simpa [tJs_size] using f1⟩⟩, ?_⟩
    exact (hC.mono l2).append ((Cells.one (t := tJs (d + 1)) (x := .mk 115 name []) ⟨.slice none 0 0, rfl, sl_nil _ _⟩).append (Cells.one ((tJs (d + 1)).mono hv l2)))
   refine Run.dropL (L' := [(b3, _), (b, _)]) (List.Sublist.cons_cons _ (List.Sublist.cons _ (List.Sublist.cons _ (List.Sublist.refl _)))) ?_
   refine Run.perm (L' := [(b, _), (b3, _)]) (List.Perm.swap _ _ _) ?_
   refine Run.end0 (by rw [hCf]; exact func18) results18 (hR _ _ _ ?_)
   exact ⟨_, _, rfl, hGn⟩
end Go.V
