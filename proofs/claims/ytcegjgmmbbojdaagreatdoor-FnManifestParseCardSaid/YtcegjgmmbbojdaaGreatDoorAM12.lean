import Derived.Test.YtcegjgmmbbojdaaGreatDoorAW
import Derived.Test.YtcegjgmmbbojdaaGreatDoorAM11
import Derived.Test.YtcegjgmmbbojdaaGreatDoorAM5
set_option linter.unusedVariables false
set_option linter.unusedSimpArgs false
namespace Go.V
open Go.Proofs.Tryz
open Go.RowKit
set_option maxRecDepth 10000
attribute [local irreducible] Run Ops QD
theorem permK {α : Type} (A M V : List α) : (A ++ (M ++ V)).Perm (M ++ (A ++ V)) := List.perm_append_comm_assoc _ _ _
theorem permV {α : Type} (A M V : List α) : (A ++ (M ++ V)).Perm (V ++ (A ++ M)) := by rw [<- List.append_assoc]; exact List.perm_append_comm
set_option maxHeartbeats 4000000 in
theorem reader_members (f : Nat) (hV : ∀ g, f = g + 1 -> ValSpec g) (sub : Option (Bs -> Option (JV × Bs))) (hsub : (f = 0 /\ sub = none) \/ ∃ g, f = g + 1 /\ sub = some (rdV g)) (q : UInt8) (t : Bs) (I : Imm) (xs : Bs) (w : Value) (db off c r d : Nat) (hU : UT I) (hR0 : Rd I w xs db off c) (ht : Sfx (q :: t) xs)
  (hl : xs.length <= 137438953472) (hd : d + f = 10000) :
  Spec prog 63 [.pointer (some ⟨r, 0, none⟩)] I [(r, rdr w (posR xs (q :: t)) d)] (RdPost r w xs d f (sub.bind fun v => objR v t)) := by
 have hBl : ∀ (J : Imm) (d : Nat) (s : Bs), Le I J -> Sfx s xs -> _ := fun J d s hle hs => blank_at s J xs w db off c r d (hR0.mono hle) hs (by omega)
 have hWd : ∀ (b : UInt8) (J : Imm) (d : Nat) (s : Bs), Le I J -> Sfx s xs -> _ := fun b J d s hle hs => word_at [b] s J xs w db off c r d (hR0.mono hle) hs (by omega) (by simp) (by simp)
 have hTx : ∀ (e : UInt8) (J : Imm) (d : Nat) (s : Bs), Le I J -> Sfx (e :: s) xs -> _ := fun e J d s hle hs => reader_text e s J (hU.mono hle) xs w db off c r d (hR0.mono hle) hs hl
 have hVa : ∀ g (J : Imm) (s : Bs), f = g + 1 -> Le I J -> Sfx s xs -> _ := fun g J s e hle hs => hV g e s J xs w db off c r (d + 1) (hU.mono hle) (hR0.mono hle) hs hl (by omega)
 obtain rfl := hR0.eq
 have hcap := hR0.cap
 obtain ⟨q1, q2, q3⟩ := sfx_getD ht
 have ht1 : Sfx t xs := (Sfx.cons q t).trans ht
 have pl : ∀ s : Bs, posR xs s <= xs.length := fun s => by unfold posR; omega
 refine Spec.enter 116 [(0, _)] func63 rfl ntmps63 (by simp) rfl ?_
 intro C hCf hR hCI
 refine rS ?_
 refine Run.region (Ops.alloc rfl (by decide) (T.zeroOk rfl) rfl (fun b2 => (oP rfl (Ops.nil (rS (Run.region (oP rfl (Ops.store 0 rfl rfl rfl rfl rfl (T.sizeOk rfl) rfl (lb rfl) rfl rfl (Ops.nil (rS (rP 7 (fun Z hZ => (eE rfl (eE rfl (eE rfl (gY (Yv.load 1 T rfl rfl rfl rfl) (fE (Ev.addK (r := (posR xs t : Int)) rfl rfl (by rw [wI (by omega) (by omega), q3]; omega)) (eE rfl (eE rfl (zN hZ ((Ops.store 1 rfl rfl rfl rfl rfl (T.sizeOk rfl) rfl (lb rfl) rfl rfl (Ops.nil ?_)))))))))))))))))))))))
 repeat refine rS ?_
 refine rP 7 (fun Z hZ => (eE rfl (eE rfl (eE rfl (gY (Yv.load 1 T rfl rfl rfl rfl) (fE (Ev.addK (r := ((d + 1 : Nat) : Int)) rfl rfl (by rw [wI (by omega) (by omega)]; omega)) (eE rfl (eE rfl (zN hZ ((Ops.store 1 rfl rfl rfl rfl rfl (T.sizeOk rfl) rfl (lb rfl) rfl rfl (Ops.nil (rS ?_)))))))))))))
 rcases hsub with ⟨rfl, rfl⟩ | ⟨g, rfl, rfl⟩
 ·skip
  refine rO (fun Z hZ => (eE rfl (eE rfl (eE rfl (gY (Yv.load 1 T rfl rfl rfl rfl) (fE ((Ev.gtr rfl rfl).as (show _ = Value.bool true from congrArg Value.bool (decide_eq_true (by omega)))) (zN hZ ?_)))))))
  repeat (first | refine rS ?_ | refine rT rfl ?_)
  refine Run.dropL (L' := [(b2, _), (r, _)]) (List.Sublist.cons_cons _ (List.Sublist.cons_cons _ (List.nil_sublist _))) ?_
  refine Run.region (Ops.loadN 0 rfl (by decide) rfl rfl (T.aggOk rfl) (T.sizeOk rfl) rfl rfl (Ops.store 0 rfl rfl rfl rfl rfl (T.sizeOk rfl) rfl (lb rfl) rfl rfl (oP rfl (Ops.nil ?_))))
  skip
  refine Run.retCTK T 0 (by rw [hCf]; exact func63) results63 rfl rfl rfl rfl rfl rfl rfl (List.Sublist.cons _ (List.Sublist.cons_cons _ (List.nil_sublist _))) (hR _ _ _ ?_)
  show RdPost _ _ _ _ _ (none) _ _ _
  rw [(rfl : (none : Option (JV × Bs)) = none)]
  exact ⟨_, _, _, rfl, rfl, rfl, pl _, rfl⟩
 refine rO (fun Z hZ => (eE rfl (eE rfl (eE rfl (gY (Yv.load 1 T rfl rfl rfl rfl) (fE ((Ev.gtr rfl rfl).as (show _ = Value.bool false from congrArg Value.bool (decide_eq_false (by omega)))) (zN hZ ?_)))))))
 repeat (first | refine rS ?_ | refine rK ?_ | refine rF rfl ?_)
 refine rP 1 (fun Z hZ => (eE rfl (zN hZ ((Ops.callP (N := [_]) ((hBl _ _ _ (Le.refl _) ht1)) (.refl _) rfl (by decide) call56 rfl ?_)))))
 rintro x J1 M1 l1 ⟨rfl, rfl⟩
 refine Ops.nil ?_
 have hs1 : Sfx (skipB t) xs := (skip_sfx t).trans ht1
 repeat refine rS ?_
 refine rP 1 (fun Z hZ => (eE rfl (zN hZ ?_)))
 cases hw : wordR [125] (skipB t) with
 | some s2 =>
  have hW1 := hWd 125 J1 (d + 1) (skipB t) (Le.refl _) hs1
  rw [hw] at hW1
  refine Ops.callP (N := [_]) (hW1) (.refl _) rfl (by decide) call66 rfl ?_
  rintro x J2 M2 l2 ⟨rfl, rfl, rfl⟩
  refine Ops.nil ?_
  repeat (first | refine rS ?_ | refine rT rfl ?_)
  refine rP 7 (fun Z hZ => (eE rfl (eE rfl (eE rfl (gY (Yv.load 1 T rfl rfl rfl rfl) (fE (Ev.subK (r := (d : Int)) rfl rfl (by rw [wI (by omega) (by omega)]; omega)) (eE rfl (eE rfl (zN hZ ((Ops.store 1 rfl rfl rfl rfl rfl (T.sizeOk rfl) rfl (lb rfl) rfl rfl (Ops.nil (rS (Run.region (Ops.loadN 0 rfl (by decide) rfl rfl (T.aggOk rfl) (T.sizeOk rfl) rfl rfl (Ops.store 0 rfl rfl rfl rfl rfl (T.sizeOk rfl) rfl (lb rfl) rfl rfl (oP rfl (Ops.nil ?_))))))))))))))))))
  skip
  refine Run.retCTK T 0 (by rw [hCf]; exact func63) results63 rfl rfl rfl rfl rfl rfl rfl (List.Sublist.cons _ (List.Sublist.cons_cons _ (List.nil_sublist _))) (hR _ _ _ ?_)
  show RdPost _ _ _ _ _ (objR (rdV g) t) _ _ _
  have e : objR (rdV g) t = some (.mk 123 false [] [] [], s2) := by unfold objR; rw [hw]
  rw [e]
  exact ⟨_, rfl, ⟨_, _, rfl, Sl.nil _ _, Sl.nil _ _⟩, rfl⟩
 | none =>
  have hW1 := hWd 125 J1 (d + 1) (skipB t) (Le.refl _) hs1
  rw [hw] at hW1
  refine Ops.callP (N := [_]) (hW1) (.refl _) rfl (by decide) call66 rfl ?_
  rintro x J2 M2 l2 ⟨rfl, rfl, rfl⟩
  refine Ops.nil ?_
  have hL : objR (rdV g) t = (membsR (rdV g) (t.length + 1) (skipB t) [] []).map fun p => (.mk 123 false [] p.2.1 p.1, p.2.2) := by unfold objR; rw [hw]
  generalize hR' : membsR (rdV g) (t.length + 1) (skipB t) [] [] = res at hL
  have hskl := (skip_sfx t).len
  repeat (first | refine rK ?_ | refine rB ?_ | refine rF rfl ?_)
  refine Run.keep [0, 2] [_, _] rfl ?_
  refine Run.rounds (fun m env L J => ∃ (n : Nat) (s : Bs) (ks : List Bs) (acc : List JV) (vk vv : Value) (Mk Mv : Own), m = s.length /\ Sfx s t /\ membsR (rdV g) n s ks acc = res /\ s.length < n /\ ks.length = acc.length /\ acc.length + s.length <= t.length /\ Gr tStr J 9 vk ks Mk /\ Gr (tJV (g + 1)) J 129 vv acc Mv /\
   env = [(0, .pointer (some ⟨r, 0, none⟩)), (2, .pointer (some ⟨b2, 0, none⟩))] /\ L = (b2, blk [.int .u8 123, .bool false, str [], vv, vk] 129) :: (r, rdr (.slice (some ⟨db, off, none⟩) xs.length c) (posR xs s) (d + 1)) :: (Mk ++ Mv) /\ Le J2 J) (skipB t).length
   ⟨t.length + 1, skipB t, [], [], _, _, [], [], rfl, skip_sfx t, hR', by omega, rfl, by simp only [List.length_nil]; omega, Gr.nil _ _ _, Gr.nil _ _ _, rfl, rfl, Le.refl _⟩ ?_
  rintro m env L J ⟨n, s, ks, acc, vk, vv, Mk, Mv, rfl, hs, hE, hn, hka, hal, hGk, hGv, rfl, rfl, hle⟩ ih
  obtain ⟨n, rfl⟩ : ∃ n', n = n' + 1 := ⟨n - 1, by omega⟩
  have hsx := hs.trans ht1
  have htl := ht1.len
  obtain ⟨A1, z1, rfl⟩ := hGk.isSl
  obtain ⟨A2, z2, rfl⟩ := hGv.isSl
  rw [membsR] at hE
  repeat (first | refine rS ?_ | refine rB ?_)
  refine rP 1 (fun Z hZ => (eE rfl (zN hZ ((Ops.callM (M := [_]) (N := _ :: _) ((hBl J (d + 1) s hle hsx)) (List.Perm.swap _ _ _) rfl (by decide) call56 rfl ?_)))))
  rintro x J3 M3 l3 ⟨rfl, rfl⟩
  refine Ops.perm (List.Perm.swap _ _ _) (Ops.nil ?_)
  have ks0 := skip_sfx s
  have hsk := ks0.trans hsx
  have hle3 : Le J2 J3 := by assumption
  repeat refine rS ?_
  cases hk : skipB s with
  | nil =>
   refine rQ (fun Z hZ => (eE rfl (eE rfl (eE rfl (gY (Yv.load 1 T rfl rfl rfl rfl) (eE rfl (eE rfl (eE rfl (gY (Yv.load 1 T rfl rfl rfl rfl) (eE rfl (fE ((Ev.geq rfl rfl).as (show _ = Value.bool true from congrArg Value.bool (decide_eq_true (by simp [posR])))) (eE rfl ?_))))))))))))
   iterate 11 refine oF ?_
   refine eE rfl (zN hZ ?_)
   have hk0 : keyR s = none := by unfold keyR; rw [hk]
   rw [hk0] at hE
   have hE2 : none = res := hE
   repeat (first | refine rS ?_ | refine rT rfl ?_)
   refine Run.dropL (L' := [(b2, _), (r, _)]) (List.Sublist.cons_cons _ (List.Sublist.cons_cons _ (List.nil_sublist _))) ?_
   refine Run.region (Ops.loadN 0 rfl (by decide) rfl rfl (T.aggOk rfl) (T.sizeOk rfl) rfl rfl (Ops.store 0 rfl rfl rfl rfl rfl (T.sizeOk rfl) rfl (lb rfl) rfl rfl (oP rfl (Ops.nil ?_))))
   skip
   refine Run.retCTK T 0 (by rw [hCf]; exact func63) results63 rfl rfl rfl rfl rfl rfl rfl (List.Sublist.cons _ (List.Sublist.cons_cons _ (List.nil_sublist _))) (hR _ _ _ ?_)
   show RdPost _ _ _ _ _ (objR (rdV g) t) _ _ _
   rw [hL, <- hE2]
   exact ⟨_, _, _, rfl, rfl, rfl, pl _, rfl⟩
  | cons e s1 =>
   rw [hk] at hsk
   obtain ⟨g1, g2, g3⟩ := sfx_getD hsk
   have hA := (hR0.mono hle3).at' _ g1
   rw [g2] at hA
   by_cases he : e = 34
   ·subst he
    refine rQ (fun Z hZ => (eE rfl (eE rfl (eE rfl (gY (Yv.load 1 T rfl rfl rfl rfl) (eE rfl (eE rfl (eE rfl (gY (Yv.load 1 T rfl rfl rfl rfl) (eE rfl (fE ((Ev.geq rfl rfl).as (show _ = Value.bool false from congrArg Value.bool (decide_eq_false (by omega)))) ?_)))))))))))
    iterate 4 refine eE rfl ?_
    refine gY (Yv.load 1 T rfl rfl rfl rfl) (eE rfl (eE rfl (eE rfl (gY (Yv.load 1 T rfl rfl rfl rfl) (fE (Ev.indexS T rfl rfl rfl rfl (by first | omega | (simp only [List.length_cons, List.length_nil] ; omega) | (simp; omega)) (by first | omega | (simp only [List.length_cons, List.length_nil] ; omega) | (simp; omega))) (gY (Yv.loadI T hA rfl rfl) (fE (Ev.neqI rfl rfl) (eE rfl (zN hZ ?_)))))))))
    repeat (first | refine rS ?_ | refine rK ?_ | refine rF rfl ?_)
    refine rP 1 (fun Z hZ => (eE rfl (zN hZ ?_)))
    cases hq : strR s1 with
    | none =>
     have hT1 := hTx 34 J3 (d + 1) s1 hle3 hsk
     rw [hq] at hT1
     refine Ops.callM (M := [_]) (N := _ :: _) (hT1) (List.Perm.swap _ _ _) rfl (by decide) call65 rfl ?_
     rintro x J4 M4 l4 ⟨rfl, p, hp1, hp2, rfl, rfl⟩
     refine Ops.perm (List.Perm.swap _ _ _) ?_
     iterate 5 refine oP rfl ?_
     refine Ops.nil ?_
     repeat refine rS ?_
     refine rO (fun Z hZ => (eE rfl (eE rfl (zN hZ ?_))))
     have hk0 : keyR s = none := by unfold keyR; rw [hk]; simp only [if_true]; rw [hq]
     rw [hk0] at hE
     have hE2 : none = res := hE
     repeat (first | refine rS ?_ | refine rT rfl ?_)
     refine Run.dropL (L' := [(b2, _), (r, _)]) (List.Sublist.cons_cons _ (List.Sublist.cons_cons _ (List.nil_sublist _))) ?_
     refine Run.region (Ops.loadN 0 rfl (by decide) rfl rfl (T.aggOk rfl) (T.sizeOk rfl) rfl rfl (Ops.store 0 rfl rfl rfl rfl rfl (T.sizeOk rfl) rfl (lb rfl) rfl rfl (oP rfl (Ops.nil ?_))))
     skip
     refine Run.retCTK T 0 (by rw [hCf]; exact func63) results63 rfl rfl rfl rfl rfl rfl rfl (List.Sublist.cons _ (List.Sublist.cons_cons _ (List.nil_sublist _))) (hR _ _ _ ?_)
     show RdPost _ _ _ _ _ (objR (rdV g) t) _ _ _
     rw [hL, <- hE2]
     exact ⟨_, _, _, rfl, rfl, rfl, hp2, rfl⟩
    | some pr =>
     obtain ⟨key, s2⟩ := pr
     have hT1 := hTx 34 J3 (d + 1) s1 hle3 hsk
     rw [hq] at hT1
     refine Ops.callM (M := [_]) (N := _ :: _) (hT1) (List.Perm.swap _ _ _) rfl (by decide) call65 rfl ?_
     rintro x J4 M4 l4 ⟨rfl, rfl, rfl⟩
     refine Ops.perm (List.Perm.swap _ _ _) ?_
     skip
     iterate 5 refine oP rfl ?_
     refine Ops.nil ?_
     obtain ⟨k1, k1'⟩ := str_sfx hq
     have hs2x : Sfx s2 xs := k1.trans ((Sfx.cons _ _).trans hsk)
     repeat refine rS ?_
     refine rO (fun Z hZ => (eE rfl (eE rfl (zN hZ ?_))))
     repeat (first | refine rS ?_ | refine rK ?_ | refine rF rfl ?_)
     refine rP 1 (fun Z hZ => (eE rfl (zN hZ ((Ops.callM (M := [_]) (N := _ :: _) ((hBl J4 (d + 1) s2 (by assumption) hs2x)) (List.Perm.swap _ _ _) rfl (by decide) call56 rfl ?_)))))
     rintro x J5 M5 l5 ⟨rfl, rfl⟩
     refine Ops.perm (List.Perm.swap _ _ _) (Ops.nil ?_)
     have k2 := skip_sfx s2
     have hs2y := k2.trans hs2x
     repeat refine rS ?_
     refine rP 1 (fun Z hZ => (eE rfl (zN hZ ?_)))
     cases hw2 : wordR [58] (skipB s2) with
     | none =>
      have hW2 := hWd 58 J5 (d + 1) (skipB s2) (by assumption) hs2y
      rw [hw2] at hW2
      refine Ops.callM (M := [_]) (N := _ :: _) (hW2) (List.Perm.swap _ _ _) rfl (by decide) call66 rfl ?_
      rintro x J6 M6 l6 ⟨rfl, rfl, rfl⟩
      refine Ops.perm (List.Perm.swap _ _ _) (oP rfl (Ops.nil ?_))
      have hk0 : keyR s = none := by
       unfold keyR
       rw [hk]
       simp only [if_true]
       rw [hq]
       simp only
       cases hsk1 : skipB s2 with
       | nil => rfl
       | cons e u =>
        have n1 : e ≠ 58 := fun h => by rw [hsk1, h, word1] at hw2; cases hw2
        simp only [if_neg n1]
      rw [hk0] at hE
      have hE2 : none = res := hE
      repeat (first | refine rS ?_ | refine rT rfl ?_)
      refine Run.dropL (L' := [(b2, _), (r, _)]) (List.Sublist.cons_cons _ (List.Sublist.cons_cons _ (List.nil_sublist _))) ?_
      refine Run.region (Ops.loadN 0 rfl (by decide) rfl rfl (T.aggOk rfl) (T.sizeOk rfl) rfl rfl (Ops.store 0 rfl rfl rfl rfl rfl (T.sizeOk rfl) rfl (lb rfl) rfl rfl (oP rfl (Ops.nil ?_))))
      skip
      refine Run.retCTK T 0 (by rw [hCf]; exact func63) results63 rfl rfl rfl rfl rfl rfl rfl (List.Sublist.cons _ (List.Sublist.cons_cons _ (List.nil_sublist _))) (hR _ _ _ ?_)
      show RdPost _ _ _ _ _ (objR (rdV g) t) _ _ _
      rw [hL, <- hE2]
      exact ⟨_, _, _, rfl, rfl, rfl, pl _, rfl⟩
     | some s3 =>
      obtain ⟨k3, hw3⟩ := word_sfx hw2
      have hW2 := hWd 58 J5 (d + 1) (skipB s2) (by assumption) hs2y
      rw [hw2] at hW2
      refine Ops.callM (M := [_]) (N := _ :: _) (hW2) (List.Perm.swap _ _ _) rfl (by decide) call66 rfl ?_
      rintro x J6 M6 l6 ⟨rfl, rfl, rfl⟩
      refine Ops.perm (List.Perm.swap _ _ _) ?_
      skip
      refine oP rfl (Ops.nil ?_)
      have hk0 : keyR s = some (key, s3) := by
       unfold keyR
       rw [hk]
       simp only [if_true]
       rw [hq]
       simp only
       rw [hw3]
       rfl
      have hs3x := k3.trans hs2y
      have hs3l : s3.length < s.length := (key_sfx hk0).2
      have hs3s : Sfx s3 s := (key_sfx hk0).1
      simp only [hk0] at hE
      repeat (first | refine rS ?_ | refine rK ?_ | refine rF rfl ?_)
      refine rP 1 (fun Z hZ => (eE rfl (zN hZ ?_)))
      cases hv : rdV g s3 with
      | none =>
       have hV1 := hVa g J6 s3 rfl (by assumption) hs3x
       rw [hv] at hV1
       simp only [hv] at hE
       refine Ops.callM (M := [_]) (N := _ :: _) (hV1) (List.Perm.swap _ _ _) rfl (by decide) call55 rfl ?_
       rintro x J7 M7 l7 ⟨cs, p, d', rfl, h5, h6, hp, rfl⟩
       refine Ops.perm (List.Perm.swap _ _ _) ?_
       obtain ⟨c1, c2, c3, c4, c5, rfl⟩ := list5 h5
       iterate 3 refine oP rfl ?_
       refine Ops.alloc rfl (by decide) (T.zeroOk rfl) rfl (fun b6 => (Ops.store 0 rfl rfl rfl rfl rfl (T.sizeOk rfl) rfl (lb rfl) h6 rfl (oP rfl (Ops.nil ?_))))
       repeat refine rS ?_
       refine rO (fun Z hZ => (eE rfl (eE rfl (zN hZ ?_))))
       repeat (first | refine rS ?_ | refine rT rfl ?_)
       refine Run.dropL (List.sublist_cons_self _ _) ?_
       skip
       refine Run.dropL (L' := [(b2, _), (r, _)]) (List.Sublist.cons_cons _ (List.Sublist.cons_cons _ (List.nil_sublist _))) ?_
       refine Run.region (Ops.loadN 0 rfl (by decide) rfl rfl (T.aggOk rfl) (T.sizeOk rfl) rfl rfl (Ops.store 0 rfl rfl rfl rfl rfl (T.sizeOk rfl) rfl (lb rfl) rfl rfl (oP rfl (Ops.nil ?_))))
       skip
       refine Run.retCTK T 0 (by rw [hCf]; exact func63) results63 rfl rfl rfl rfl rfl rfl rfl (List.Sublist.cons _ (List.Sublist.cons_cons _ (List.nil_sublist _))) (hR _ _ _ ?_)
       show RdPost _ _ _ _ _ (objR (rdV g) t) _ _ _
       rw [hL, <- hE]
       exact ⟨_, _, _, rfl, rfl, rfl, hp, rfl⟩
      | some pr2 =>
       obtain ⟨v1, s4⟩ := pr2
       obtain ⟨k4, k4'⟩ := rdV_fwd g hv
       have hV1 := hVa g J6 s3 rfl (by assumption) hs3x
       rw [hv] at hV1
       simp only [hv] at hE
       refine Ops.callM (M := [_]) (N := _ :: _) (hV1) (List.Perm.swap _ _ _) rfl (by decide) call55 rfl ?_
       rintro x J7 M7 l7 ⟨cs, rfl, hrel, rfl⟩
       refine Ops.perm (List.Perm.swap _ _ _) ?_
       obtain ⟨wk, wn, rfl, hwk, hwn⟩ := id hrel
       obtain ⟨A3, z3, rfl⟩ := hwk.isSl
       obtain ⟨A4, z4, rfl⟩ := hwn.isSl
       skip
       iterate 3 refine oP rfl ?_
       refine Ops.alloc rfl (by decide) (T.zeroOk rfl) rfl (fun b6 => (Ops.store 0 rfl rfl rfl rfl rfl (T.sizeOk rfl) rfl (lb rfl) rfl rfl (oP rfl (Ops.nil ?_))))
       repeat refine rS ?_
       refine rO (fun Z hZ => (eE rfl (eE rfl (zN hZ ?_))))
       repeat (first | refine rS ?_ | refine rK ?_ | refine rF rfl ?_)
       have hle7 : Le J2 J7 := Le.trans (by assumption) l7
       have hGk := hGk.mono l7
       have hGv := hGv.mono l7
       refine Run.perm (L' := (b6, blk [.int .u8 (v1.kind.toNat : Int), .bool v1.plain, str v1.text, .slice A3 v1.kids.length z3, .slice A4 v1.keys.length z4] 129) :: (b2, blk [.int .u8 123, .bool false, str [], .slice A2 acc.length z2, .slice A1 ks.length z1] 129) :: (r, rdr (.slice (some ⟨db, off, none⟩) xs.length c) (posR xs s4) (d + 1)) :: (Mk ++ Mv)) (List.Perm.refl _) ?_
       have hs4x := k4.trans hs3x
       refine Run.piece (fun env' L' I' => ∃ vk2 vv2 Mk2 Mv2, env' = [(0, .pointer (some ⟨r, 0, none⟩)), (2, .pointer (some ⟨b2, 0, none⟩))] /\ L' = (b2, blk [.int .u8 123, .bool false, str [], vv2, vk2] 129) :: (r, rdr (.slice (some ⟨db, off, none⟩) xs.length c) (posR xs s4) (d + 1)) :: (Mk2 ++ Mv2) /\ J7 = I' /\
        Gr tStr J7 9 vk2 (ks ++ [key]) Mk2 /\ Gr (tJV (g + 1)) J7 129 vv2 (acc ++ [v1]) Mv2) (fun k' hk' => ?_) ?_
       ·skip
        refine Run.regionL [11, 13] (Holds J7 [(b6, _)]) (Holds J7 [(b2, _)]) (bl 14 0) (by kernel_rfl) (by kernel_rfl) (fun W h => ⟨h.holds (Le.refl _) (by first | exact mp rfl | exact mq rfl | exact mr rfl), h.holds (Le.refl _) (by first | exact mp rfl | exact mq rfl | exact mr rfl)⟩) (RAnyL.tk 0 (bl 14 1) rfl (by kernel_rfl) (by decide) rfl (T := fun _ => True) (.inl fun _ _ => trivial) (Yld.eval T rfl rfl) (RAnyL.tk 1 (bl 14 3) rfl (by kernel_rfl) (by decide) rfl (.inr ⟨by kernel_rfl, fun _ h => h⟩) (Yld.load 0 T rfl rfl rfl rfl rfl) (RAnyL.tk 2 (bl 14 7) rfl (by kernel_rfl) (by decide) rfl (T := fun _ => True) (.inl fun _ _ => trivial) (Yld.eval T rfl rfl) (RAnyL.tk 5 (bl 14 39) rfl (by kernel_rfl) (by decide) rfl (T := fun _ => True) (.inl fun _ _ => trivial) (Yld.eval T rfl rfl) ?_))))
        refine RAnyL.tk 6 (bl 14 103) rfl (by kernel_rfl) (by decide) rfl (.inr ⟨by kernel_rfl, fun _ h => h⟩) (Yld.load 0 T rfl rfl rfl rfl rfl) (RAnyL.tk 7 (bl 14 231) rfl (by kernel_rfl) (by decide) rfl (.inl fun _ h => h) (Yld.loadN 0 T rfl rfl rfl rfl rfl rfl rfl) ?_)
        refine RAnyL.two 3 8 (bl 14 239) (bl 14 487) rfl rfl (by kernel_rfl) rfl rfl (by decide) (by decide) (Eff.lit T rfl rfl rfl (by decide) (by decide) rfl rfl rfl rfl rfl fun bk => ⟨⟨fun W h => h.holds (Le.refl _) (by intro x hx; rcases List.mem_singleton.1 hx with rfl; simp), .inr fun W h => h.holds (Le.refl _) (by intro x hx; rcases List.mem_singleton.1 hx with rfl; simp)⟩, ?_⟩) (Eff.lit T rfl rfl rfl (by decide) (by decide) rfl rfl rfl rfl rfl fun bv => ⟨⟨fun W h => h.holds (Le.refl _) (by intro x hx; rcases List.mem_singleton.1 hx with rfl; simp), .inr fun W h => h.holds (Le.refl _) (by intro x hx; rcases List.mem_singleton.1 hx with rfl; simp)⟩, ?_⟩)
        skip
        ·skip
         skip
         refine RAnyL.two 4 8 (bl 14 255) (bl 14 495) rfl rfl (by kernel_rfl) rfl rfl (by decide) (by decide) (Eff.appOneP (t := tStr) (b := bk) (M := Mk) (N := [_, _, _, _] ++ Mv) el24 hGk (show tStr.rel _ [str key] key from rfl) rfl rfl (permK [_, _, _, _] Mk Mv) List.mem_cons_self rfl (by omega) (by omega) fun vk2 Mk2 hGk2 => ⟨⟨fun W h => h.holds (Le.refl _) (by intro x hx; rcases List.mem_singleton.1 hx with rfl; simp), .inr fun W h => h.holds (Le.refl _) (by intro x hx; rcases List.mem_singleton.1 hx with rfl; simp)⟩, ?_⟩) (Eff.lit T rfl rfl rfl (by decide) (by decide) rfl rfl rfl rfl rfl fun bv => ⟨⟨fun W h => h.holds (Le.refl _) (by intro x hx; rcases List.mem_singleton.1 hx with rfl; simp), .inr fun W h => h.holds (Le.refl _) (by intro x hx; rcases List.mem_singleton.1 hx with rfl; simp)⟩, ?_⟩)
         skip
         ·skip
          skip
          refine RAnyL.perm (permK [_, _, _, _] Mk2 Mv).symm ?_
          obtain ⟨A5, z5, rfl⟩ := hGk2.isSl
          refine RAnyL.tk 10 (bl 14 1279) rfl (by kernel_rfl) (by decide) rfl (T := fun _ => True) (.inl fun _ _ => trivial) (Yld.eval T rfl rfl) (RAnyL.on 8 (bl 14 1535) rfl (by kernel_rfl) rfl (by decide) (Eff.lit T rfl rfl rfl (by decide) (by decide) rfl rfl rfl rfl rfl fun bv => ⟨⟨fun W h => h.holds (Le.refl _) (by intro x hx; rcases List.mem_singleton.1 hx with rfl; simp), .inr fun W h => h.holds (Le.refl _) (by intro x hx; rcases List.mem_singleton.1 hx with rfl; simp)⟩, ?_⟩))
          refine RAnyL.on 9 (bl 14 2047) rfl (by kernel_rfl) rfl (by decide) (Eff.appOneP (t := tJV (g + 1)) (b := bv) (M := Mv) (N := [_, _, _, _, _] ++ Mk2) el127 hGv hrel rfl rfl (permV [_, _, _, _, _] Mk2 Mv) List.mem_cons_self rfl (by omega) (by omega) fun vv2 Mv2 hGv2 => ⟨⟨fun W h => h.holds (Le.refl _) (by intro x hx; rcases List.mem_singleton.1 hx with rfl; simp), .inr fun W h => h.holds (Le.refl _) (by intro x hx; rcases List.mem_singleton.1 hx with rfl; simp)⟩, (RAnyL.perm (permV [_, _, _, _, _] Mk2 Mv2).symm ?_)⟩)
          obtain ⟨A6, z6, rfl⟩ := hGv2.isSl
          refine RAnyL.os 11 (bl 14 4095) rfl (by kernel_rfl) rfl (Eff.store 3 rfl rfl rfl rfl (T.sizeOk rfl) rfl (lb rfl) rfl rfl ⟨⟨fun W h => h.holds (Le.refl _) (by intro x hx; rcases List.mem_singleton.1 hx with rfl; exact List.mem_cons_of_mem _ (List.mem_cons_of_mem _ List.mem_cons_self)), .inl rfl⟩, (RAnyL.tk 12 (bl 14 8191) rfl (by kernel_rfl) (by decide) rfl (T := fun _ => True) (.inl fun _ _ => trivial) (Yld.eval T rfl rfl) (RAnyL.os 13 (bl 14 16383) rfl (by kernel_rfl) rfl (Eff.store 3 rfl rfl rfl rfl (T.sizeOk rfl) rfl (lb rfl) rfl rfl ⟨⟨fun W h => h.holds (Le.refl _) (by intro x hx; rcases List.mem_singleton.1 hx with rfl; exact List.mem_cons_of_mem _ (List.mem_cons_of_mem _ List.mem_cons_self)), .inl rfl⟩, (RAnyL.done _ (by kernel_rfl) (Run.dropL (List.Sublist.cons _ (List.Sublist.cons _ (List.Sublist.cons _ (List.Sublist.refl _)))) (Run.keep [0, 2] [_, _] rfl ?_)))⟩)))⟩)
          exact hk' _ _ _ ⟨_, _, Mk2, Mv2, rfl, rfl, rfl, hGk2, hGv2⟩
         ·skip
          skip
          skip
          refine RAnyL.on 4 (bl 14 511) rfl (by kernel_rfl) rfl (by decide) (Eff.appOneP (t := tStr) (b := bk) (M := Mk) (N := [_, _, _, _, _] ++ Mv) el24 hGk (show tStr.rel _ [str key] key from rfl) rfl rfl (permK [_, _, _, _, _] Mk Mv) (List.mem_cons_of_mem _ List.mem_cons_self) rfl (by omega) (by omega) fun vk2 Mk2 hGk2 => ⟨⟨fun W h => h.holds (Le.refl _) (by intro x hx; rcases List.mem_singleton.1 hx with rfl; simp), .inr fun W h => h.holds (Le.refl _) (by intro x hx; rcases List.mem_singleton.1 hx with rfl; simp)⟩, (RAnyL.perm (permK [_, _, _, _, _] Mk2 Mv).symm ?_)⟩)
          obtain ⟨A5, z5, rfl⟩ := hGk2.isSl
          refine RAnyL.tk 10 (bl 14 1535) rfl (by kernel_rfl) (by decide) rfl (T := fun _ => True) (.inl fun _ _ => trivial) (Yld.eval T rfl rfl) (RAnyL.on 9 (bl 14 2047) rfl (by kernel_rfl) rfl (by decide) (Eff.appOneP (t := tJV (g + 1)) (b := bv) (M := Mv) (N := [_, _, _, _, _] ++ Mk2) el127 hGv hrel rfl rfl (permV [_, _, _, _, _] Mk2 Mv) List.mem_cons_self rfl (by omega) (by omega) fun vv2 Mv2 hGv2 => ⟨⟨fun W h => h.holds (Le.refl _) (by intro x hx; rcases List.mem_singleton.1 hx with rfl; simp), .inr fun W h => h.holds (Le.refl _) (by intro x hx; rcases List.mem_singleton.1 hx with rfl; simp)⟩, (RAnyL.perm (permV [_, _, _, _, _] Mk2 Mv2).symm ?_)⟩))
          obtain ⟨A6, z6, rfl⟩ := hGv2.isSl
          refine RAnyL.os 11 (bl 14 4095) rfl (by kernel_rfl) rfl (Eff.store 3 rfl rfl rfl rfl (T.sizeOk rfl) rfl (lb rfl) rfl rfl ⟨⟨fun W h => h.holds (Le.refl _) (by intro x hx; rcases List.mem_singleton.1 hx with rfl; exact List.mem_cons_of_mem _ (List.mem_cons_of_mem _ List.mem_cons_self)), .inl rfl⟩, (RAnyL.tk 12 (bl 14 8191) rfl (by kernel_rfl) (by decide) rfl (T := fun _ => True) (.inl fun _ _ => trivial) (Yld.eval T rfl rfl) (RAnyL.os 13 (bl 14 16383) rfl (by kernel_rfl) rfl (Eff.store 3 rfl rfl rfl rfl (T.sizeOk rfl) rfl (lb rfl) rfl rfl ⟨⟨fun W h => h.holds (Le.refl _) (by intro x hx; rcases List.mem_singleton.1 hx with rfl; exact List.mem_cons_of_mem _ (List.mem_cons_of_mem _ List.mem_cons_self)), .inl rfl⟩, (RAnyL.done _ (by kernel_rfl) (Run.dropL (List.Sublist.cons _ (List.Sublist.cons _ (List.Sublist.cons _ (List.Sublist.refl _)))) (Run.keep [0, 2] [_, _] rfl ?_)))⟩)))⟩)
          exact hk' _ _ _ ⟨_, _, Mk2, Mv2, rfl, rfl, rfl, hGk2, hGv2⟩
        ·skip
         skip
         skip
         refine RAnyL.on 3 (bl 14 495) rfl (by kernel_rfl) rfl (by decide) (Eff.lit T rfl rfl rfl (by decide) (by decide) rfl rfl rfl rfl rfl fun bk => ⟨⟨fun W h => h.holds (Le.refl _) (by intro x hx; rcases List.mem_singleton.1 hx with rfl; simp), .inr fun W h => h.holds (Le.refl _) (by intro x hx; rcases List.mem_singleton.1 hx with rfl; simp)⟩, (RAnyL.on 4 (bl 14 511) rfl (by kernel_rfl) rfl (by decide) (Eff.appOneP (t := tStr) (b := bk) (M := Mk) (N := [_, _, _, _, _] ++ Mv) el24 hGk (show tStr.rel _ [str key] key from rfl) rfl rfl (permK [_, _, _, _, _] Mk Mv) List.mem_cons_self rfl (by omega) (by omega) fun vk2 Mk2 hGk2 => ⟨⟨fun W h => h.holds (Le.refl _) (by intro x hx; rcases List.mem_singleton.1 hx with rfl; simp), .inr fun W h => h.holds (Le.refl _) (by intro x hx; rcases List.mem_singleton.1 hx with rfl; simp)⟩, (RAnyL.perm (permK [_, _, _, _, _] Mk2 Mv).symm ?_)⟩))⟩)
         obtain ⟨A5, z5, rfl⟩ := hGk2.isSl
         refine RAnyL.tk 10 (bl 14 1535) rfl (by kernel_rfl) (by decide) rfl (T := fun _ => True) (.inl fun _ _ => trivial) (Yld.eval T rfl rfl) (RAnyL.on 9 (bl 14 2047) rfl (by kernel_rfl) rfl (by decide) (Eff.appOneP (t := tJV (g + 1)) (b := bv) (M := Mv) (N := [_, _, _, _, _] ++ Mk2) el127 hGv hrel rfl rfl (permV [_, _, _, _, _] Mk2 Mv) (List.mem_cons_of_mem _ List.mem_cons_self) rfl (by omega) (by omega) fun vv2 Mv2 hGv2 => ⟨⟨fun W h => h.holds (Le.refl _) (by intro x hx; rcases List.mem_singleton.1 hx with rfl; simp), .inr fun W h => h.holds (Le.refl _) (by intro x hx; rcases List.mem_singleton.1 hx with rfl; simp)⟩, (RAnyL.perm (permV [_, _, _, _, _] Mk2 Mv2).symm ?_)⟩))
         obtain ⟨A6, z6, rfl⟩ := hGv2.isSl
         refine RAnyL.os 11 (bl 14 4095) rfl (by kernel_rfl) rfl (Eff.store 3 rfl rfl rfl rfl (T.sizeOk rfl) rfl (lb rfl) rfl rfl ⟨⟨fun W h => h.holds (Le.refl _) (by intro x hx; rcases List.mem_singleton.1 hx with rfl; exact List.mem_cons_of_mem _ (List.mem_cons_of_mem _ List.mem_cons_self)), .inl rfl⟩, (RAnyL.tk 12 (bl 14 8191) rfl (by kernel_rfl) (by decide) rfl (T := fun _ => True) (.inl fun _ _ => trivial) (Yld.eval T rfl rfl) (RAnyL.os 13 (bl 14 16383) rfl (by kernel_rfl) rfl (Eff.store 3 rfl rfl rfl rfl (T.sizeOk rfl) rfl (lb rfl) rfl rfl ⟨⟨fun W h => h.holds (Le.refl _) (by intro x hx; rcases List.mem_singleton.1 hx with rfl; exact List.mem_cons_of_mem _ (List.mem_cons_of_mem _ List.mem_cons_self)), .inl rfl⟩, (RAnyL.done _ (by kernel_rfl) (Run.dropL (List.Sublist.cons _ (List.Sublist.cons _ (List.Sublist.cons _ (List.Sublist.refl _)))) (Run.keep [0, 2] [_, _] rfl ?_)))⟩)))⟩)
         exact hk' _ _ _ ⟨_, _, Mk2, Mv2, rfl, rfl, rfl, hGk2, hGv2⟩
       skip
       rintro env' L' I' ⟨vk2, vv2, Mk2, Mv2, rfl, rfl, rfl, hGk2, hGv2⟩
       obtain ⟨A5, z5, rfl⟩ := hGk2.isSl
       obtain ⟨A6, z6, rfl⟩ := hGv2.isSl
       refine rS ?_
       refine rP 1 (fun Z hZ => (eE rfl (zN hZ ((Ops.callM (M := [_]) (N := _ :: _) ((hBl J7 (d + 1) s4 hle7 hs4x)) (List.Perm.swap _ _ _) rfl (by decide) call56 rfl ?_)))))
       rintro x J8 M8 l8 ⟨rfl, rfl⟩
       refine Ops.perm (List.Perm.swap _ _ _) (Ops.nil ?_)
       have ks4 := skip_sfx s4
       have hsk4 := ks4.trans hs4x
       repeat refine rS ?_
       refine rP 1 (fun Z hZ => (eE rfl (zN hZ ?_)))
       cases hw4 : wordR [125] (skipB s4) with
       | some s5 =>
        obtain ⟨_, hw5⟩ := word_sfx hw4
        have hW4 := hWd 125 J8 (d + 1) (skipB s4) (by assumption) hsk4
        rw [hw4] at hW4
        refine Ops.callM (M := [_]) (N := _ :: _) (hW4) (List.Perm.swap _ _ _) rfl (by decide) call66 rfl ?_
        rintro x J9 M9 l9 ⟨rfl, rfl, rfl⟩
        refine Ops.perm (List.Perm.swap _ _ _) (Ops.nil ?_)
        rw [hw5] at hE
        simp only [List.cons_append, List.nil_append, if_true] at hE
        repeat (first | refine rS ?_ | refine rT rfl ?_)
        refine rP 7 (fun Z hZ => (eE rfl (eE rfl (eE rfl (gY (Yv.load 1 T rfl rfl rfl rfl) (fE (Ev.subK (r := (d : Int)) rfl rfl (by rw [wI (by omega) (by omega)]; omega)) (eE rfl (eE rfl (zN hZ ((Ops.store 1 rfl rfl rfl rfl rfl (T.sizeOk rfl) rfl (lb rfl) rfl rfl (Ops.nil (rS (Run.region (Ops.loadN 0 rfl (by decide) rfl rfl (T.aggOk rfl) (T.sizeOk rfl) rfl rfl (Ops.store 0 rfl rfl rfl rfl rfl (T.sizeOk rfl) rfl (lb rfl) rfl rfl (oP rfl (Ops.nil ?_))))))))))))))))))
        skip
        refine Run.keepGr (M := Mk2) (N := [(b2, _), (r, _)] ++ Mv2) hGk2 (permK [_, _] Mk2 Mv2) fun J10 l10 hS1 => ?_
        refine Run.keepGr (M := Mv2) (N := [(b2, _), (r, _)]) (hGv2.mono l10) (List.perm_append_comm (l₁ := [_, _]) (l₂ := Mv2)) fun J11 l11 hS2 => ?_
        refine Run.retCTK T 0 (by rw [hCf]; exact func63) results63 rfl rfl rfl rfl rfl rfl rfl (List.Sublist.cons _ (List.Sublist.cons_cons _ (List.nil_sublist _))) (hR _ _ _ ?_)
        show RdPost _ _ _ _ _ (objR (rdV g) t) _ _ _
        rw [hL, <- hE]
        exact ⟨_, rfl, ⟨_, _, rfl, hS2, hS1.mono l11⟩, rfl⟩
       | none =>
        have hW4 := hWd 125 J8 (d + 1) (skipB s4) (by assumption) hsk4
        rw [hw4] at hW4
        refine Ops.callM (M := [_]) (N := _ :: _) (hW4) (List.Perm.swap _ _ _) rfl (by decide) call66 rfl ?_
        rintro x J9 M9 l9 ⟨rfl, rfl, rfl⟩
        refine Ops.perm (List.Perm.swap _ _ _) (Ops.nil ?_)
        repeat (first | refine rS ?_ | refine rK ?_ | refine rF rfl ?_)
        refine rP 1 (fun Z hZ => (eE rfl (zN hZ ?_)))
        cases hw5 : wordR [44] (skipB s4) with
        | some s5 =>
         obtain ⟨hq1, hq2⟩ := word_sfx hw5
         have hW5 := hWd 44 J9 (d + 1) (skipB s4) (by assumption) hsk4
         rw [hw5] at hW5
         refine Ops.callM (M := [_]) (N := _ :: _) (hW5) (List.Perm.swap _ _ _) rfl (by decide) call66 rfl ?_
         rintro x J10 M10 l10 ⟨rfl, rfl, rfl⟩
         refine Ops.perm (List.Perm.swap _ _ _) (oP rfl (Ops.nil ?_))
         rw [hq2] at hE
         simp only [List.cons_append, List.nil_append, if_true, show ¬ ((44 : UInt8) = 125) by decide, if_false] at hE
         repeat (first | refine rK ?_ | refine rI ?_ | refine rF rfl ?_)
         refine Run.keep [0, 2] [_, _] rfl ?_
         have hll := congrArg List.length hq2
         have hkl := ks4.len
         simp only [List.cons_append, List.nil_append, List.length_cons] at hll
         exact ih s5.length _ _ _ (by omega) ⟨n, s5, ks ++ [key], acc ++ [v1], _, _, Mk2, Mv2, rfl, (((hq1.trans ks4).trans k4).trans hs3s).trans hs, hE, by omega, by simp only [List.length_append, List.length_cons, List.length_nil, hka], by simp only [List.length_append, List.length_cons, List.length_nil]; omega, hGk2, hGv2, rfl, rfl, by assumption⟩
        | none =>
         have hW5 := hWd 44 J9 (d + 1) (skipB s4) (by assumption) hsk4
         rw [hw5] at hW5
         refine Ops.callM (M := [_]) (N := _ :: _) (hW5) (List.Perm.swap _ _ _) rfl (by decide) call66 rfl ?_
         rintro x J10 M10 l10 ⟨rfl, rfl, rfl⟩
         refine Ops.perm (List.Perm.swap _ _ _) ?_
         skip
         refine oP rfl (Ops.nil ?_)
         have hE2 : none = res := by
          rw [<- hE]
          cases hsk1 : skipB s4 with
          | nil => rfl
          | cons e u =>
           rw [hsk1] at hw4 hw5
           have n1 : e ≠ 125 := fun h => by rw [h, word1] at hw4; cases hw4
           have n2 : e ≠ 44 := fun h => by rw [h, word1] at hw5; cases hw5
           simp only [if_neg n1, if_neg n2]
         repeat (first | refine rS ?_ | refine rT rfl ?_)
         refine Run.dropL (L' := [(b2, _), (r, _)]) (List.Sublist.cons_cons _ (List.Sublist.cons_cons _ (List.nil_sublist _))) ?_
         refine Run.region (Ops.loadN 0 rfl (by decide) rfl rfl (T.aggOk rfl) (T.sizeOk rfl) rfl rfl (Ops.store 0 rfl rfl rfl rfl rfl (T.sizeOk rfl) rfl (lb rfl) rfl rfl (oP rfl (Ops.nil ?_))))
         skip
         refine Run.retCTK T 0 (by rw [hCf]; exact func63) results63 rfl rfl rfl rfl rfl rfl rfl (List.Sublist.cons _ (List.Sublist.cons_cons _ (List.nil_sublist _))) (hR _ _ _ ?_)
         show RdPost _ _ _ _ _ (objR (rdV g) t) _ _ _
         rw [hL, <- hE2]
         exact ⟨_, _, _, rfl, rfl, rfl, pl _, rfl⟩
   ·have ne : e.toNat ≠ 34 := fun h => he (UInt8.toNat_inj.1 h)
    refine rQ (fun Z hZ => (eE rfl (eE rfl (eE rfl (gY (Yv.load 1 T rfl rfl rfl rfl) (eE rfl (eE rfl (eE rfl (gY (Yv.load 1 T rfl rfl rfl rfl) (eE rfl (fE ((Ev.geq rfl rfl).as (show _ = Value.bool false from congrArg Value.bool (decide_eq_false (by omega)))) ?_)))))))))))
    iterate 4 refine eE rfl ?_
    refine gY (Yv.load 1 T rfl rfl rfl rfl) (eE rfl (eE rfl (eE rfl (gY (Yv.load 1 T rfl rfl rfl rfl) (fE (Ev.indexS T rfl rfl rfl rfl (by first | omega | (simp only [List.length_cons, List.length_nil] ; omega) | (simp; omega)) (by first | omega | (simp only [List.length_cons, List.length_nil] ; omega) | (simp; omega))) (gY (Yv.loadI T hA rfl rfl) (fE ((Ev.neqI rfl rfl).as (show _ = Value.bool true from congrArg Value.bool (by rw [decide_eq_false (by omega)]; rfl))) (eE rfl (zN hZ ?_)))))))))
    have hk0 : keyR s = none := by unfold keyR; rw [hk]; simp only [if_neg he]
    rw [hk0] at hE
    have hE2 : none = res := hE
    repeat (first | refine rS ?_ | refine rT rfl ?_)
    refine Run.dropL (L' := [(b2, _), (r, _)]) (List.Sublist.cons_cons _ (List.Sublist.cons_cons _ (List.nil_sublist _))) ?_
    refine Run.region (Ops.loadN 0 rfl (by decide) rfl rfl (T.aggOk rfl) (T.sizeOk rfl) rfl rfl (Ops.store 0 rfl rfl rfl rfl rfl (T.sizeOk rfl) rfl (lb rfl) rfl rfl (oP rfl (Ops.nil ?_))))
    skip
    refine Run.retCTK T 0 (by rw [hCf]; exact func63) results63 rfl rfl rfl rfl rfl rfl rfl (List.Sublist.cons _ (List.Sublist.cons_cons _ (List.nil_sublist _))) (hR _ _ _ ?_)
    show RdPost _ _ _ _ _ (objR (rdV g) t) _ _ _
    rw [hL, <- hE2]
    exact ⟨_, _, _, rfl, rfl, rfl, pl _, rfl⟩
end Go.V
