import Derived.Test.YtcegjgmmbbojdaaGreatDoorAW
import Derived.Test.YtcegjgmmbbojdaaGreatDoorAM12
set_option linter.unusedVariables false
set_option linter.unusedSimpArgs false
namespace Go.V
open Go.Proofs.Tryz
open Go.RowKit
set_option maxRecDepth 10000
attribute [local irreducible] Run Ops QD
def subR : Nat -> Option (Bs -> Option (JV × Bs))
 | 0 => none
 | f + 1 => some (rdV f)
theorem rdV_sub (f : Nat) (t : Bs) : rdV f t = stepR (subR f) t := by cases f <;> rfl
theorem subR_or (f : Nat) : (f = 0 /\ subR f = none) \/ ∃ g, f = g + 1 /\ subR f = some (rdV g) := by
 cases f with
 | zero => exact .inl ⟨rfl, rfl⟩
 | succ f => exact .inr ⟨f, rfl, rfl⟩
theorem cut_eaten {xs t s : Bs} (h : Sfx t xs) (k : Sfx s t) : (xs.take (posR xs s)).drop (posR xs t) = eaten t s := by
 obtain ⟨u, hu⟩ := h
 subst hu
 unfold eaten posR
 have hk := k.len
 rw [List.length_append, Nat.add_sub_cancel, List.drop_take, List.drop_left]
 congr 1; omega
theorem all_next {ys : Bs} {i : Nat} (h : i < ys.length) (p : UInt8 -> Bool) : (ys.take (i + 1)).all p = ((ys.take i).all p && p (ys.getD i 0)) := by
 rw [List.take_succ_eq_append_getElem h, List.all_append]
 simp [List.getD_eq_getElem?_getD, h]
set_option maxHeartbeats 4000000 in
theorem value_of (f : Nat) (hV : ∀ g, f = g + 1 -> ValSpec g) : ValSpec f := by
 intro t I xs w db off c r d hU hR0 ht hl hd
 have hst : rdV f t = stepR (subR f) t := rdV_sub f t
 have hBl : ∀ (J : Imm) (s : Bs), Le I J -> Sfx s xs -> _ := fun J s hle hs => blank_at s J xs w db off c r d (hR0.mono hle) hs (by omega)
 have hWd : ∀ (b : Bs) (J : Imm) (s : Bs), Le I J -> Sfx s xs -> b ≠ [] -> b.length <= 1000 -> _ := fun b J s hle hs h1 h2 => word_at b s J xs w db off c r d (hR0.mono hle) hs (by omega) h1 h2
 have hTx : ∀ (J : Imm) (s : Bs), Le I J -> Sfx (34 :: s) xs -> _ := fun J s hle hs => reader_text 34 s J (hU.mono hle) xs w db off c r d (hR0.mono hle) hs hl
 have hNu : ∀ (J : Imm) (s : Bs), Le I J -> Sfx s xs -> _ := fun J s hle hs => reader_number s J xs w db off c r d (hR0.mono hle) hs (by omega)
 have hMe : ∀ (J : Imm) (s : Bs), Le I J -> Sfx (123 :: s) xs -> _ := fun J s hle hs => reader_members f hV (subR f) (subR_or f) 123 s J xs w db off c r d (hU.mono hle) (hR0.mono hle) hs hl hd
 have hEl : ∀ (J : Imm) (s : Bs), Le I J -> Sfx (91 :: s) xs -> _ := fun J s hle hs => reader_elements f hV (subR f) (subR_or f) 91 s J xs w db off c r d (hU.mono hle) (hR0.mono hle) hs hl hd
 obtain rfl := hR0.eq
 have hcap := hR0.cap
 have pl : ∀ s : Bs, posR xs s <= xs.length := fun s => by unfold posR; omega
 refine Spec.enter 107 [(0, _)] func55 rfl ntmps55 (by simp) rfl ?_
 intro C hCf hR hCI
 refine rS ?_
 refine Run.region (Ops.alloc rfl dc (T.zeroOk rfl) rfl (fun b2 => (oP rfl (Ops.nil (rS (rP 1 (fun Z hZ => (eE rfl (zN hZ ((Ops.callP (N := [_]) ((hBl _ _ (Le.refl _) ht)) (.refl _) rfl dc call56 rfl ?_)))))))))))
 rintro x J1 M1 l1 ⟨rfl, rfl⟩
 refine Ops.nil ?_
 have hs1 : Sfx (skipB t) xs := (skip_sfx t).trans ht
 repeat refine rS ?_
 cases hk : skipB t with
 | nil =>
  refine rQ (fun Z hZ => (eE rfl (eE rfl (eE rfl (gY (Yv.load 1 T rfl rfl rfl rfl) (eE rfl (eE rfl (eE rfl (gY (Yv.load 1 T rfl rfl rfl rfl) (eE rfl (kT (Ev.geq rfl rfl) (by simp [posR]) (zN hZ ?_))))))))))))
  repeat (first | refine rS ?_ | refine rT rfl ?_)
  refine Run.region (Ops.loadN 0 rfl dc rfl rfl (T.aggOk rfl) (T.sizeOk rfl) rfl rfl (Ops.store 0 rfl rfl rfl rfl rfl (T.sizeOk rfl) rfl (lb rfl) rfl rfl (oP rfl (Ops.nil ?_))))
  skip
  refine Run.retCTK T 0 (by rw [hCf]; exact func55) results55 rfl rfl rfl rfl rfl rfl rfl (List.sublist_cons_self _ _) (hR _ _ _ ?_)
  show RdPost _ _ _ _ _ (rdV f t) _ _ _
  rw [hst]
  rw [show stepR (subR f) t = none from by unfold stepR; rw [hk]]
  exact ⟨_, _, _, rfl, rfl, rfl, pl _, rfl⟩
 | cons e s =>
  rw [hk] at hs1
  obtain ⟨g1, g2, g3⟩ := sfx_getD hs1
  have hA := hR0.at' _ g1
  rw [g2] at hA
  have hsl := hs1.len
  simp only [List.length_cons] at hsl
  refine rQ (fun Z hZ => (eE rfl (eE rfl (eE rfl (gY (Yv.load 1 T rfl rfl rfl rfl) (eE rfl (eE rfl (eE rfl (gY (Yv.load 1 T rfl rfl rfl rfl) (eE rfl (kF (Ev.geq rfl rfl) (by omega) (zN hZ ?_))))))))))))
  repeat (first | refine rS ?_ | refine rK ?_ | refine rF rfl ?_)
  refine rQ (fun Z hZ => (eE rfl (eE rfl (eE rfl (gY (Yv.load 1 T rfl rfl rfl rfl) (eE rfl (eE rfl (eE rfl (gY (Yv.load 1 T rfl rfl rfl rfl) (fE (Ev.indexS T rfl rfl rfl rfl om om) (gY (Yv.loadI T hA rfl rfl) (eE rfl (zN hZ ((rS (rO (fun Z hZ => (eE rfl (zN hZ ?_)))))))))))))))))))
  repeat (first | refine rS ?_ | refine rB ?_)
  have nn : ∀ (k : UInt8) (m : Int), (k.toNat : Int) = m -> e ≠ k -> decide ((e.toNat : Int) = m) = false := fun k m hm h => decide_eq_false fun x => h (UInt8.toNat_inj.1 (by omega))
  by_cases k1 : e = 123
  ·subst k1
   refine rO (fun Z hZ => (fE (Ev.eqlI rfl rfl) (eE rfl (zN hZ ?_))))
   have hMe2 := fun (J : Imm) s h => hMe J1 s (Le.refl _) h
   repeat (first | refine rS ?_ | refine rT rfl ?_)
   refine rP 1 (fun Z hZ => (eE rfl (zN hZ ?_)))
   have hM := hMe2 J1 s hs1
   cases hm : (subR f).bind (fun v => objR v s) with
   | none =>
    rw [hm] at hM
    refine Ops.callP (N := [_]) (hM) (.refl _) rfl dc call63 rfl ?_
    rintro x J2 M2 l2 ⟨cs, p, d', rfl, h5, h6, hp, rfl⟩
    obtain ⟨c1, c2, c3, c4, c5, rfl⟩ := list5 h5
    iterate 2 refine oP rfl ?_
    refine Ops.store 0 rfl rfl rfl rfl rfl (T.sizeOk rfl) rfl (lb rfl) h6 rfl (oP rfl (Ops.nil ?_))
    skip
    refine Run.retCTK T 0 (by rw [hCf]; exact func55) results55 rfl rfl rfl rfl rfl rfl rfl (List.sublist_cons_self _ _) (hR _ _ _ ?_)
    show RdPost _ _ _ _ _ (rdV f t) _ _ _
    rw [hst]
    rw [show stepR (subR f) t = (subR f).bind (fun v => objR v s) from by unfold stepR; rw [hk]; rfl, hm]
    exact ⟨_, _, _, rfl, rfl, h6, hp, rfl⟩
   | some pr =>
    obtain ⟨v1, s1⟩ := pr
    rw [hm] at hM
    refine Ops.callP (N := [_]) (hM) (.refl _) rfl dc call63 rfl ?_
    rintro x J2 M2 l2 ⟨cs, rfl, hrel, rfl⟩
    obtain ⟨wk, wn, rfl, hwk, hwn⟩ := id hrel
    obtain ⟨A3, z3, rfl⟩ := hwk.isSl
    obtain ⟨A4, z4, rfl⟩ := hwn.isSl
    skip
    iterate 2 refine oP rfl ?_
    refine Ops.store 0 rfl rfl rfl rfl rfl (T.sizeOk rfl) rfl (lb rfl) rfl rfl (oP rfl (Ops.nil ?_))
    skip
    refine Run.retCTK T 0 (by rw [hCf]; exact func55) results55 rfl rfl rfl rfl rfl rfl rfl (List.sublist_cons_self _ _) (hR _ _ _ ?_)
    show RdPost _ _ _ _ _ (rdV f t) _ _ _
    rw [hst]
    rw [show stepR (subR f) t = (subR f).bind (fun v => objR v s) from by unfold stepR; rw [hk]; rfl, hm]
    exact ⟨_, rfl, hrel, rfl⟩
  by_cases k2 : e = 91
  ·subst k2
   refine rO (fun Z hZ => (fE (Ev.eqlI rfl rfl) (eE rfl (zN hZ ?_))))
   repeat (first | refine rS ?_ | refine rF rfl ?_)
   refine rO (fun Z hZ => (fE (Ev.eqlI rfl rfl) (eE rfl (zN hZ ?_))))
   have hMe2 := fun (J : Imm) s h => hEl J1 s (Le.refl _) h
   repeat (first | refine rS ?_ | refine rT rfl ?_)
   refine rP 1 (fun Z hZ => (eE rfl (zN hZ ?_)))
   have hM := hMe2 J1 s hs1
   cases hm : (subR f).bind (fun v => listR v s) with
   | none =>
    rw [hm] at hM
    refine Ops.callP (N := [_]) (hM) (.refl _) rfl dc call64 rfl ?_
    rintro x J2 M2 l2 ⟨cs, p, d', rfl, h5, h6, hp, rfl⟩
    obtain ⟨c1, c2, c3, c4, c5, rfl⟩ := list5 h5
    iterate 2 refine oP rfl ?_
    refine Ops.store 0 rfl rfl rfl rfl rfl (T.sizeOk rfl) rfl (lb rfl) h6 rfl (oP rfl (Ops.nil ?_))
    skip
    refine Run.retCTK T 0 (by rw [hCf]; exact func55) results55 rfl rfl rfl rfl rfl rfl rfl (List.sublist_cons_self _ _) (hR _ _ _ ?_)
    show RdPost _ _ _ _ _ (rdV f t) _ _ _
    rw [hst]
    rw [show stepR (subR f) t = (subR f).bind (fun v => listR v s) from by unfold stepR; rw [hk]; rfl, hm]
    exact ⟨_, _, _, rfl, rfl, h6, hp, rfl⟩
   | some pr =>
    obtain ⟨v1, s1⟩ := pr
    rw [hm] at hM
    refine Ops.callP (N := [_]) (hM) (.refl _) rfl dc call64 rfl ?_
    rintro x J2 M2 l2 ⟨cs, rfl, hrel, rfl⟩
    obtain ⟨wk, wn, rfl, hwk, hwn⟩ := id hrel
    obtain ⟨A3, z3, rfl⟩ := hwk.isSl
    obtain ⟨A4, z4, rfl⟩ := hwn.isSl
    skip
    iterate 2 refine oP rfl ?_
    refine Ops.store 0 rfl rfl rfl rfl rfl (T.sizeOk rfl) rfl (lb rfl) rfl rfl (oP rfl (Ops.nil ?_))
    skip
    refine Run.retCTK T 0 (by rw [hCf]; exact func55) results55 rfl rfl rfl rfl rfl rfl rfl (List.sublist_cons_self _ _) (hR _ _ _ ?_)
    show RdPost _ _ _ _ _ (rdV f t) _ _ _
    rw [hst]
    rw [show stepR (subR f) t = (subR f).bind (fun v => listR v s) from by unfold stepR; rw [hk]; rfl, hm]
    exact ⟨_, rfl, hrel, rfl⟩
  by_cases k3 : e = 34
  ·subst k3
   refine rO (fun Z hZ => (fE (Ev.eqlI rfl rfl) (eE rfl (zN hZ ?_))))
   repeat (first | refine rS ?_ | refine rF rfl ?_)
   refine rO (fun Z hZ => (fE (Ev.eqlI rfl rfl) (eE rfl (zN hZ ?_))))
   repeat (first | refine rS ?_ | refine rF rfl ?_)
   refine rO (fun Z hZ => (fE (Ev.eqlI rfl rfl) (eE rfl (zN hZ ?_))))
   repeat (first | refine rS ?_ | refine rT rfl ?_)
   refine Run.region (oP rfl (Ops.store 0 rfl rfl rfl rfl rfl (T.sizeOk rfl) rfl (lb rfl) rfl rfl (oP rfl (Ops.store 0 rfl rfl rfl rfl rfl (T.sizeOk rfl) rfl (lb rfl) rfl rfl (Ops.nil (rS (rO (fun Z hZ => (eE rfl (eE rfl (eE rfl (gY (Yv.load 1 T rfl rfl rfl rfl) (eE rfl (zN hZ ((rS (rP 1 (fun Z hZ => (eE rfl (zN hZ ((Ops.callP (N := [_]) ((hTx J1 s (Le.refl _) hs1)) (.refl _) rfl dc call65 rfl ?_))))))))))))))))))))))
   rintro x J2 M2 l2 ⟨rfl, hm⟩
   obtain ⟨tx, b, p, rfl, rfl, hp1, hp2, hm2⟩ : ∃ (tx : Bs) (b : Bool) (p : Nat), x = .tuple #[str tx, .bool b] /\ M2 = [(r, rdr (.slice (some ⟨db, off, none⟩) xs.length c) p d)] /\ posR xs (34 :: s) <= p /\ p <= xs.length /\
     (match strR s with | some (q, s') => tx = q /\ b = true /\ p = posR xs s' /\ Sfx s' (34 :: s) | none => b = false) := by
    cases hq : strR s with
    | none =>
     rw [hq] at hm
     obtain ⟨p, h1, h2, rfl, rfl⟩ := hm
     exact ⟨[], false, p, rfl, rfl, h1, h2, rfl⟩
    | some pr =>
     obtain ⟨q, s'⟩ := pr
     rw [hq] at hm
     obtain ⟨rfl, rfl⟩ := hm
     obtain ⟨k, k'⟩ := str_sfx hq
     exact ⟨q, true, _, rfl, rfl, by unfold posR; simp only [List.length_cons]; omega, pl _, rfl, rfl, rfl, k.trans (Sfx.cons _ _)⟩
   iterate 4 refine oP rfl ?_
   refine Ops.store 0 rfl rfl rfl rfl rfl (T.sizeOk rfl) rfl (lb rfl) rfl rfl (oP rfl (Ops.nil ?_))
   repeat refine rS ?_
   have hcut := hR0.cut (p := posR xs (34 :: s)) (q := p) hp1 hp2 (by omega)
   generalize hys : (xs.take p).drop (posR xs (34 :: s)) = ys at hcut
   have hyl : ys.length = p - posR xs (34 :: s) := by rw [<- hys]; simp; omega
   have hycap := hcut.cap
   refine rQ (fun Z hZ => (eE rfl (eE rfl (eE rfl (gY (Yv.load 1 T rfl rfl rfl rfl) ?_)))))
   iterate 4 refine eE rfl ?_
   refine gY (Yv.load 1 T rfl rfl rfl rfl) (fE ((Ev.sliceLH (p := posR xs (34 :: s)) (q := p) T rfl rfl rfl rfl rfl hp1 (by omega)).as hcut.eq) (eE rfl (eE rfl (zN hZ ((rB (Run.keep [0, 2, 3, 67, 68, 69] [_, _, _, _, _, _] rfl ?_)))))))
   refine Run.rounds (fun m env L J => ∃ i : Nat, m = ys.length - i /\ i <= ys.length /\
    env = [(0, .pointer (some ⟨r, 0, none⟩)), (2, .pointer (some ⟨b2, 0, none⟩)), (3, .bool b), (67, .slice (some ⟨db, off + posR xs (34 :: s), none⟩) ys.length (c - posR xs (34 :: s))), (68, .int .i64 (ys.length : Int)), (69, .int .i64 (i : Int))] /\
    L = [(b2, blk [.int .u8 34, .bool ((ys.take i).all fun b => !(b == 92)), str tx, .slice none 0 0, .slice none 0 0] 129), (r, rdr (.slice (some ⟨db, off, none⟩) xs.length c) p d)] /\ J2 = J) ys.length ⟨0, by omega, by omega, rfl, rfl, rfl⟩ ?_
   rintro m env L J ⟨i, rfl, hi, rfl, rfl, rfl⟩ ih
   refine rS ?_
   by_cases hlt : i < ys.length
   ·have hA2 := hcut.at' i hlt
    have hnext := all_next hlt fun b => !(b == 92)
    refine rO (fun Z hZ => (kT (Ev.lss rfl rfl) (by omega) (zN hZ ?_)))
    repeat (first | refine rS ?_ | refine rK ?_ | refine rB ?_ | refine rT rfl ?_)
    generalize ys.getD i 0 = y at hA2 hnext
    refine rO (fun Z hZ => (fE (Ev.indexS T rfl rfl rfl rfl om om) (gY (Yv.loadI T hA2 rfl rfl) (eE rfl (zN hZ ?_)))))
    skip
    cases hP : (ys.take i).all fun b => !(b == 92) with
    | false =>
     rw [hP, Bool.false_and] at hnext
     refine rP 7 (fun Z hZ => (eE rfl (gY (Yv.load 0 T rfl rfl rfl rfl) (eE rfl (oF (oF (eE rfl (eE rfl (zN hZ ((Ops.store 0 rfl rfl rfl rfl rfl (T.sizeOk rfl) rfl (lb rfl) rfl rfl (Ops.nil (rI (rO (fun Z hZ => (fE (Ev.addK (r := ((i + 1 : Nat) : Int)) rfl rfl (by rw [wI (by omega) (by omega)]; omega)) (eE rfl (zN hZ ?_))))))))))))))))))
     skip
     refine Run.keep [0, 2, 3, 67, 68, 69] [_, _, _, _, _, _] rfl ?_
     exact ih (ys.length - (i + 1)) _ _ _ (by omega) ⟨i + 1, rfl, by omega, rfl, by rw [hnext]; rfl, rfl⟩
    | true =>
     rw [hP, Bool.true_and] at hnext
     by_cases hy : y = 92
     ·subst hy
      refine rP 7 (fun Z hZ => (eE rfl (gY (Yv.load 0 T rfl rfl rfl rfl) (eE rfl (eE rfl (fE (Ev.neqI rfl rfl) (eE rfl (eE rfl (zN hZ ((Ops.store 0 rfl rfl rfl rfl rfl (T.sizeOk rfl) rfl (lb rfl) rfl rfl (Ops.nil (rI (rO (fun Z hZ => (fE (Ev.addK (r := ((i + 1 : Nat) : Int)) rfl rfl (by rw [wI (by omega) (by omega)]; omega)) (eE rfl (zN hZ ?_))))))))))))))))))
      skip
      refine Run.keep [0, 2, 3, 67, 68, 69] [_, _, _, _, _, _] rfl ?_
      exact ih (ys.length - (i + 1)) _ _ _ (by omega) ⟨i + 1, rfl, by omega, rfl, by rw [hnext]; rfl, rfl⟩
     ·have ne : y.toNat ≠ 92 := fun h => hy (UInt8.toNat_inj.1 h)
      have hb : (!(y == 92)) = true := by simp [hy]
      rw [hb] at hnext
      refine rP 7 (fun Z hZ => (eE rfl (gY (Yv.load 0 T rfl rfl rfl rfl) (eE rfl (eE rfl (fE ((Ev.neqI rfl rfl).as (show _ = Value.bool true from congrArg Value.bool (by rw [decide_eq_false (by omega)]; rfl))) (eE rfl (eE rfl (zN hZ ((Ops.store 0 rfl rfl rfl rfl rfl (T.sizeOk rfl) rfl (lb rfl) rfl rfl (Ops.nil (rI (rO (fun Z hZ => (fE (Ev.addK (r := ((i + 1 : Nat) : Int)) rfl rfl (by rw [wI (by omega) (by omega)]; omega)) (eE rfl (zN hZ ?_))))))))))))))))))
      skip
      refine Run.keep [0, 2, 3, 67, 68, 69] [_, _, _, _, _, _] rfl ?_
      exact ih (ys.length - (i + 1)) _ _ _ (by omega) ⟨i + 1, rfl, by omega, rfl, by rw [hnext]; rfl, rfl⟩
   ·have hil : i = ys.length := by omega
    refine rO (fun Z hZ => (kF (Ev.lss rfl rfl) (by omega) (zN hZ ?_)))
    repeat (first | refine rS ?_ | refine Run.exit rfl ?_ | refine rF rfl ?_)
    refine Run.region (Ops.loadN 0 rfl dc rfl rfl (T.aggOk rfl) (T.sizeOk rfl) rfl rfl (oP rfl (Ops.store 0 rfl rfl rfl rfl rfl (T.sizeOk rfl) rfl (lb rfl) rfl rfl (oP rfl (Ops.nil ?_)))))
    skip
    refine Run.retCTK T 0 (by rw [hCf]; exact func55) results55 rfl rfl rfl rfl rfl rfl rfl (List.sublist_cons_self _ _) (hR _ _ _ ?_)
    show RdPost _ _ _ _ _ (rdV f t) _ _ _
    rw [hst]
    rw [show stepR (subR f) t = (strR s).map fun p => (.mk 34 ((eaten (34 :: s) p.2).all fun b => !(b == 92)) p.1 [] [], p.2) from by unfold stepR; rw [hk]; rfl]
    cases hq : strR s with
    | none =>
     rw [hq] at hm2
     obtain rfl : b = false := hm2
     exact ⟨_, _, _, rfl, rfl, rfl, hp2, rfl⟩
    | some pr =>
     obtain ⟨q, s'⟩ := pr
     rw [hq] at hm2
     obtain ⟨rfl, rfl, rfl, hsf⟩ := hm2
     have hy2 : ys = eaten (34 :: s) s' := by rw [<- hys]; exact cut_eaten hs1 hsf
     rw [hil, List.take_length, hy2]
     exact ⟨_, rfl, ⟨_, _, rfl, Sl.nil _ _, Sl.nil _ _⟩, rfl⟩
  by_cases k4 : e = 116
  ·subst k4
   refine rO (fun Z hZ => (fE (Ev.eqlI rfl rfl) (eE rfl (zN hZ ?_))))
   repeat (first | refine rS ?_ | refine rF rfl ?_)
   refine rO (fun Z hZ => (fE (Ev.eqlI rfl rfl) (eE rfl (zN hZ ?_))))
   repeat (first | refine rS ?_ | refine rF rfl ?_)
   refine rO (fun Z hZ => (fE (Ev.eqlI rfl rfl) (eE rfl (zN hZ ?_))))
   repeat (first | refine rS ?_ | refine rF rfl ?_)
   refine rO (fun Z hZ => (fE (Ev.eqlI rfl rfl) (eE rfl (zN hZ ?_))))
   repeat (first | refine rS ?_ | refine rT rfl ?_)
   refine Run.region (Ops.buildL bd129 rfl dc rfl rfl (oP rfl (Ops.callP (N := [_]) ((hWd [116, 114, 117, 101] J1 (116 :: s) (Le.refl _) hs1 dc dc)) (.refl _) rfl dc call66 rfl ?_)))
   rintro x J2 M2 l2 ⟨rfl, rfl, rfl⟩
   refine Ops.store 0 rfl rfl rfl rfl rfl (T.sizeOk rfl) rfl (lb rfl) rfl rfl (oP rfl (Ops.nil ?_))
   skip
   refine Run.retCTK T 0 (by rw [hCf]; exact func55) results55 rfl rfl rfl rfl rfl rfl rfl (List.sublist_cons_self _ _) (hR _ _ _ ?_)
   show RdPost _ _ _ _ _ (rdV f t) _ _ _
   rw [hst]
   rw [show stepR (subR f) t = (wordR [116, 114, 117, 101] (116 :: s)).map fun r => (.mk 116 false [] [] [], r) from by unfold stepR; rw [hk]; rfl]
   cases hw : wordR [116, 114, 117, 101] (116 :: s) with
   | some s2 => exact ⟨_, rfl, ⟨_, _, rfl, Sl.nil _ _, Sl.nil _ _⟩, rfl⟩
   | none => exact ⟨_, _, _, rfl, rfl, rfl, pl _, rfl⟩
  by_cases k5 : e = 102
  ·subst k5
   refine rO (fun Z hZ => (fE (Ev.eqlI rfl rfl) (eE rfl (zN hZ ?_))))
   repeat (first | refine rS ?_ | refine rF rfl ?_)
   refine rO (fun Z hZ => (fE (Ev.eqlI rfl rfl) (eE rfl (zN hZ ?_))))
   repeat (first | refine rS ?_ | refine rF rfl ?_)
   refine rO (fun Z hZ => (fE (Ev.eqlI rfl rfl) (eE rfl (zN hZ ?_))))
   repeat (first | refine rS ?_ | refine rF rfl ?_)
   refine rO (fun Z hZ => (fE (Ev.eqlI rfl rfl) (eE rfl (zN hZ ?_))))
   repeat (first | refine rS ?_ | refine rF rfl ?_)
   refine rO (fun Z hZ => (fE (Ev.eqlI rfl rfl) (eE rfl (zN hZ ?_))))
   repeat (first | refine rS ?_ | refine rT rfl ?_)
   refine Run.region (Ops.buildL bd129 rfl dc rfl rfl (oP rfl (Ops.callP (N := [_]) ((hWd [102, 97, 108, 115, 101] J1 (102 :: s) (Le.refl _) hs1 dc dc)) (.refl _) rfl dc call66 rfl ?_)))
   rintro x J2 M2 l2 ⟨rfl, rfl, rfl⟩
   refine Ops.store 0 rfl rfl rfl rfl rfl (T.sizeOk rfl) rfl (lb rfl) rfl rfl (oP rfl (Ops.nil ?_))
   skip
   refine Run.retCTK T 0 (by rw [hCf]; exact func55) results55 rfl rfl rfl rfl rfl rfl rfl (List.sublist_cons_self _ _) (hR _ _ _ ?_)
   show RdPost _ _ _ _ _ (rdV f t) _ _ _
   rw [hst]
   rw [show stepR (subR f) t = (wordR [102, 97, 108, 115, 101] (102 :: s)).map fun r => (.mk 102 false [] [] [], r) from by unfold stepR; rw [hk]; rfl]
   cases hw : wordR [102, 97, 108, 115, 101] (102 :: s) with
   | some s2 => exact ⟨_, rfl, ⟨_, _, rfl, Sl.nil _ _, Sl.nil _ _⟩, rfl⟩
   | none => exact ⟨_, _, _, rfl, rfl, rfl, pl _, rfl⟩
  by_cases k6 : e = 110
  ·subst k6
   refine rO (fun Z hZ => (fE (Ev.eqlI rfl rfl) (eE rfl (zN hZ ?_))))
   repeat (first | refine rS ?_ | refine rF rfl ?_)
   refine rO (fun Z hZ => (fE (Ev.eqlI rfl rfl) (eE rfl (zN hZ ?_))))
   repeat (first | refine rS ?_ | refine rF rfl ?_)
   refine rO (fun Z hZ => (fE (Ev.eqlI rfl rfl) (eE rfl (zN hZ ?_))))
   repeat (first | refine rS ?_ | refine rF rfl ?_)
   refine rO (fun Z hZ => (fE (Ev.eqlI rfl rfl) (eE rfl (zN hZ ?_))))
   repeat (first | refine rS ?_ | refine rF rfl ?_)
   refine rO (fun Z hZ => (fE (Ev.eqlI rfl rfl) (eE rfl (zN hZ ?_))))
   repeat (first | refine rS ?_ | refine rF rfl ?_)
   refine rO (fun Z hZ => (fE (Ev.eqlI rfl rfl) (eE rfl (zN hZ ?_))))
   repeat (first | refine rS ?_ | refine rT rfl ?_)
   refine Run.region (Ops.buildL bd129 rfl dc rfl rfl (oP rfl (Ops.callP (N := [_]) ((hWd [110, 117, 108, 108] J1 (110 :: s) (Le.refl _) hs1 dc dc)) (.refl _) rfl dc call66 rfl ?_)))
   rintro x J2 M2 l2 ⟨rfl, rfl, rfl⟩
   refine Ops.store 0 rfl rfl rfl rfl rfl (T.sizeOk rfl) rfl (lb rfl) rfl rfl (oP rfl (Ops.nil ?_))
   skip
   refine Run.retCTK T 0 (by rw [hCf]; exact func55) results55 rfl rfl rfl rfl rfl rfl rfl (List.sublist_cons_self _ _) (hR _ _ _ ?_)
   show RdPost _ _ _ _ _ (rdV f t) _ _ _
   rw [hst]
   rw [show stepR (subR f) t = (wordR [110, 117, 108, 108] (110 :: s)).map fun r => (.mk 110 false [] [] [], r) from by unfold stepR; rw [hk]; rfl]
   cases hw : wordR [110, 117, 108, 108] (110 :: s) with
   | some s2 => exact ⟨_, rfl, ⟨_, _, rfl, Sl.nil _ _, Sl.nil _ _⟩, rfl⟩
   | none => exact ⟨_, _, _, rfl, rfl, rfl, pl _, rfl⟩
  refine rO (fun Z hZ => (fE ((Ev.eqlI rfl rfl).as (show _ = Value.bool false from congrArg Value.bool (nn 123 123 rfl k1))) (eE rfl (zN hZ ?_))))
  repeat (first | refine rS ?_ | refine rF rfl ?_)
  refine rO (fun Z hZ => (fE ((Ev.eqlI rfl rfl).as (show _ = Value.bool false from congrArg Value.bool (nn 91 91 rfl k2))) (eE rfl (zN hZ ?_))))
  repeat (first | refine rS ?_ | refine rF rfl ?_)
  refine rO (fun Z hZ => (fE ((Ev.eqlI rfl rfl).as (show _ = Value.bool false from congrArg Value.bool (nn 34 34 rfl k3))) (eE rfl (zN hZ ?_))))
  repeat (first | refine rS ?_ | refine rF rfl ?_)
  refine rO (fun Z hZ => (fE ((Ev.eqlI rfl rfl).as (show _ = Value.bool false from congrArg Value.bool (nn 116 116 rfl k4))) (eE rfl (zN hZ ?_))))
  repeat (first | refine rS ?_ | refine rF rfl ?_)
  refine rO (fun Z hZ => (fE ((Ev.eqlI rfl rfl).as (show _ = Value.bool false from congrArg Value.bool (nn 102 102 rfl k5))) (eE rfl (zN hZ ?_))))
  repeat (first | refine rS ?_ | refine rF rfl ?_)
  refine rO (fun Z hZ => (fE ((Ev.eqlI rfl rfl).as (show _ = Value.bool false from congrArg Value.bool (nn 110 110 rfl k6))) (eE rfl (zN hZ ?_))))
  repeat (first | refine rS ?_ | refine rK ?_ | refine rI ?_ | refine rF rfl ?_)
  refine Run.region (oP rfl (Ops.store 0 rfl rfl rfl rfl rfl (T.sizeOk rfl) rfl (lb rfl) rfl rfl (Ops.nil (rS (rP 1 (fun Z hZ => (eE rfl (zN hZ ?_))))))))
  have hN := hNu J1 (e :: s) (Le.refl _) hs1
  have hst2 : stepR (subR f) t = (numR (e :: s)).map fun r => (.mk 48 false (eaten (e :: s) r) [] [], r) := by
   unfold stepR; rw [hk]; simp only [if_neg k1, if_neg k2, if_neg k3, if_neg k4, if_neg k5, if_neg k6]
  cases hn : numR (e :: s) with
  | none =>
   rw [hn] at hN
   refine Ops.callP (N := [_]) (hN) (.refl _) rfl dc call67 rfl ?_
   rintro x J2 M2 l2 ⟨rfl, p, hp1, hp2, rfl, rfl⟩
   iterate 4 refine oP rfl ?_
   refine Ops.store 0 rfl rfl rfl rfl rfl (T.sizeOk rfl) rfl (lb rfl) rfl rfl (oP rfl (Ops.nil (rS (Run.region (Ops.loadN 0 rfl dc rfl rfl (T.aggOk rfl) (T.sizeOk rfl) rfl rfl (oP rfl (Ops.store 0 rfl rfl rfl rfl rfl (T.sizeOk rfl) rfl (lb rfl) rfl rfl (oP rfl (Ops.nil ?_)))))))))
   skip
   refine Run.retCTK T 0 (by rw [hCf]; exact func55) results55 rfl rfl rfl rfl rfl rfl rfl (List.sublist_cons_self _ _) (hR _ _ _ ?_)
   show RdPost _ _ _ _ _ (rdV f t) _ _ _
   rw [hst]
   rw [hst2, hn]
   exact ⟨_, _, _, rfl, rfl, rfl, hp2, rfl⟩
  | some s2 =>
   rw [hn] at hN
   refine Ops.callP (N := [_]) (hN) (.refl _) rfl dc call67 rfl ?_
   rintro x J2 M2 l2 ⟨rfl, rfl, rfl⟩
   skip
   iterate 4 refine oP rfl ?_
   refine Ops.store 0 rfl rfl rfl rfl rfl (T.sizeOk rfl) rfl (lb rfl) rfl rfl (oP rfl (Ops.nil (rS (Run.region (Ops.loadN 0 rfl dc rfl rfl (T.aggOk rfl) (T.sizeOk rfl) rfl rfl (oP rfl (Ops.store 0 rfl rfl rfl rfl rfl (T.sizeOk rfl) rfl (lb rfl) rfl rfl (oP rfl (Ops.nil ?_)))))))))
   skip
   refine Run.retCTK T 0 (by rw [hCf]; exact func55) results55 rfl rfl rfl rfl rfl rfl rfl (List.sublist_cons_self _ _) (hR _ _ _ ?_)
   show RdPost _ _ _ _ _ (rdV f t) _ _ _
   rw [hst]
   rw [hst2, hn]
   exact ⟨_, rfl, ⟨_, _, rfl, Sl.nil _ _, Sl.nil _ _⟩, rfl⟩
theorem reader_value : ∀ f, ValSpec f
 | 0 => value_of 0 fun g h => by omega
 | f + 1 => value_of (f + 1) fun g h => by
  obtain rfl : f = g := by omega
  exact reader_value f
end Go.V
namespace Go.V
open Go.Proofs.Tryz
open Go.RowKit
set_option maxRecDepth 10000
attribute [local irreducible] Run Ops QD
def foldR (r : Nat) : Nat := if 65 <= r /\ r <= 90 then r + 32 else if r = 383 then 115 else if r = 8490 then 107 else r
theorem zz_fold (I : Imm) (r : Nat) (hr : r < 2147480000) : Pure prog 114 [.int .i32 (r : Int)] I fun w J => w = .int .i32 (foldR r : Int) := by
 refine Spec.enter 19 [(0, _)] func114 rfl ntmps114 (by simp) rfl ?_
 intro C hCf hR hCI
 refine rS ?_
 refine rO (fun Z hZ => (eE rfl (zN hZ ?_)))
 repeat (first | refine rS ?_ | refine rB ?_)
 by_cases h1 : 65 <= r
 ·by_cases h2 : r <= 90
  ·skip
   refine rO (fun Z hZ => (eE rfl (kT (Ev.geq rfl rfl) (by omega) (eE rfl (eE rfl (kT (Ev.leq rfl rfl) (by omega) (eE rfl (eE rfl (zN hZ ?_)))))))))
   repeat (first | refine rS ?_ | refine rT rfl ?_)
   refine rO (fun Z hZ => (eE rfl (fE (Ev.addK (r := (foldR r : Int)) rfl rfl (by rw [wrapI32 (by omega) (by omega), foldR, if_pos ⟨h1, h2⟩]; omega)) (eE rfl (zN hZ ?_)))))
   skip
   refine Run.fin (Run.ret1 (by rw [hCf]; exact func114) results114 rfl (hR _ _ _ ?_))
   exact ⟨rfl, rfl⟩
  ·skip
   refine rO (fun Z hZ => (eE rfl (kT (Ev.geq rfl rfl) (by omega) (eE rfl (eE rfl (kF (Ev.leq rfl rfl) (by omega) (eE rfl (eE rfl (zN hZ ?_)))))))))
   repeat (first | refine rS ?_ | refine rF rfl ?_)
   by_cases h3 : r = 383
   ·subst h3
    refine rO (fun Z hZ => (eE rfl (fE (Ev.eqlI rfl rfl) (eE rfl (zN hZ ?_)))))
    repeat (first | refine rS ?_ | refine rT rfl ?_)
    refine rO (fun Z hZ => (eE rfl (zN hZ ?_)))
    skip
    refine Run.fin (Run.ret1 (by rw [hCf]; exact func114) results114 rfl (hR _ _ _ ?_))
    exact ⟨rfl, rfl⟩
   refine rO (fun Z hZ => (eE rfl (kF (Ev.eqlI rfl rfl) (by omega) (eE rfl (zN hZ ?_)))))
   repeat (first | refine rS ?_ | refine rF rfl ?_)
   by_cases h4 : r = 8490
   ·subst h4
    refine rO (fun Z hZ => (eE rfl (fE (Ev.eqlI rfl rfl) (eE rfl (zN hZ ?_)))))
    repeat (first | refine rS ?_ | refine rT rfl ?_)
    refine rO (fun Z hZ => (eE rfl (zN hZ ?_)))
    skip
    refine Run.fin (Run.ret1 (by rw [hCf]; exact func114) results114 rfl (hR _ _ _ ?_))
    exact ⟨rfl, rfl⟩
   refine rO (fun Z hZ => (eE rfl (kF (Ev.eqlI rfl rfl) (by omega) (eE rfl (zN hZ ?_)))))
   repeat (first | refine rS ?_ | refine rK ?_ | refine rI ?_ | refine rF rfl ?_)
   refine rO (fun Z hZ => (eE rfl (eE rfl (zN hZ ?_))))
   skip
   refine Run.fin (Run.ret1 (by rw [hCf]; exact func114) results114 rfl (hR _ _ _ ?_))
   exact ⟨rfl, by rw [foldR, if_neg (fun h => h2 h.2), if_neg h3, if_neg h4]⟩
 ·skip
  refine rO (fun Z hZ => (eE rfl (kF (Ev.geq rfl rfl) (by omega) (eE rfl (oF (oF (eE rfl (eE rfl (zN hZ ?_)))))))))
  repeat (first | refine rS ?_ | refine rF rfl ?_)
  refine rO (fun Z hZ => (eE rfl (kF (Ev.eqlI rfl rfl) (by omega) (eE rfl (zN hZ ?_)))))
  repeat (first | refine rS ?_ | refine rF rfl ?_)
  refine rO (fun Z hZ => (eE rfl (kF (Ev.eqlI rfl rfl) (by omega) (eE rfl (zN hZ ?_)))))
  repeat (first | refine rS ?_ | refine rK ?_ | refine rI ?_ | refine rF rfl ?_)
  refine rO (fun Z hZ => (eE rfl (eE rfl (zN hZ ?_))))
  skip
  refine Run.fin (Run.ret1 (by rw [hCf]; exact func114) results114 rfl (hR _ _ _ ?_))
  exact ⟨rfl, by rw [foldR, if_neg (fun h => h1 h.1), if_neg (by omega), if_neg (by omega)]⟩
def alikeR : Nat -> Bs -> Bs -> Bool
 | 0, _, _ => false
 | n + 1, a, b => if a = [] \/ b = [] then decide (a = []) && decide (b = []) else if foldR (runeAt a 0).1 = foldR (runeAt b 0).1 then alikeR n (a.drop (runeAt a 0).2) (b.drop (runeAt b 0).2) else false
theorem alikeR_fuel : ∀ (n m : Nat) (a b : Bs), a.length < n -> a.length < m -> alikeR n a b = alikeR m a b
 | 0, m, a, b, h, _ => by omega
 | n + 1, 0, a, b, _, h => by omega
 | n + 1, m + 1, a, b, h1, h2 => by
  simp only [alikeR]
  split
  ·rfl
  ·rename_i h
   have hw := runeAt_width a 0
   have : 0 < a.length := List.length_pos_iff.2 fun e => h (.inl e)
   split
   ·exact alikeR_fuel n m _ _ (by rw [List.length_drop]; omega) (by rw [List.length_drop]; omega)
   ·rfl
def alikeF (a b : Bs) : Bool := alikeR (a.length + 1) a b
set_option maxHeartbeats 1000000 in
theorem zz_alike (I : Imm) (hU : UT I) (a b : Bs) (ha : a.length <= 137438953472) (hb : b.length <= 137438953472) : Pure prog 105 [str a, str b] I fun w J => w = .bool (alikeF a b) := by
 refine Spec.enter 44 [(0, _), (1, _)] func105 rfl ntmps105 (by simp) rfl ?_
 intro C hCf hR hCI
 refine rS ?_
 refine rO (fun Z hZ => (eE rfl (zN hZ ?_)))
 refine rS ?_; refine rB ?_
 refine Run.keep [0, 1] [_, _] rfl ?_
 refine Run.rounds (fun m env L J => ∃ x y : Bs, m = x.length /\ x.length <= a.length /\ y.length <= b.length /\ alikeF x y = alikeF a b /\ env = [(0, str x), (1, str y)] /\ L = [] /\ Le I J) a.length ⟨a, b, rfl, Nat.le_refl _, Nat.le_refl _, rfl, rfl, rfl, Le.refl _⟩ ?_
 rintro m env L J ⟨x, y, rfl, hx, hy, he, rfl, rfl, hle⟩ ih
 cases x with
 | nil =>
  repeat refine rS ?_
  refine rO (fun Z hZ => (eE rfl (fE (Ev.lenS T rfl rfl) (fE (Ev.gtr rfl rfl) (eE rfl (oF (oF (oF (eE rfl (zN hZ ?_))))))))))
  repeat (first | refine rS ?_ | refine Run.exit rfl ?_ | refine rF rfl ?_)
  cases y with
  | nil =>
   refine rO (fun Z hZ => (eE rfl (fE (Ev.eqlS rfl rfl) (eE rfl (eE rfl (fE (Ev.eqlS rfl rfl) (eE rfl (eE rfl (zN hZ ?_)))))))))
   skip
   refine Run.fin (Run.ret1 (by rw [hCf]; exact func105) results105 rfl (hR _ _ _ ?_))
   exact ⟨rfl, by rw [<- he]; rfl⟩
  | cons f y =>
   refine rO (fun Z hZ => (eE rfl (fE (Ev.eqlS rfl rfl) (eE rfl (eE rfl (fE (Ev.eqlS rfl rfl) (eE rfl (eE rfl (zN hZ ?_)))))))))
   skip
   refine Run.fin (Run.ret1 (by rw [hCf]; exact func105) results105 rfl (hR _ _ _ ?_))
   exact ⟨rfl, by rw [<- he]; rfl⟩
 | cons e x =>
  cases y with
  | nil =>
   repeat refine rS ?_
   refine rO (fun Z hZ => (eE rfl (fE (Ev.lenS T rfl rfl) (kT (Ev.gtr rfl rfl) (by simp only [List.length_cons]; omega) (eE rfl (eE rfl (fE (Ev.lenS T rfl rfl) (fE (Ev.gtr rfl rfl) (eE rfl (zN hZ ?_))))))))))
   repeat (first | refine rS ?_ | refine Run.exit rfl ?_ | refine rF rfl ?_)
   refine rO (fun Z hZ => (eE rfl (fE (Ev.eqlS rfl rfl) (eE rfl (oF (oF (eE rfl (eE rfl (zN hZ ?_)))))))))
   skip
   refine Run.fin (Run.ret1 (by rw [hCf]; exact func105) results105 rfl (hR _ _ _ ?_))
   exact ⟨rfl, by rw [<- he]; rfl⟩
  | cons f y =>
   have hwx := runeAt_width (e :: x) 0
   have hwy := runeAt_width (f :: y) 0
   obtain ⟨lx, mx⟩ := runeAt_le (s := e :: x) (by simp)
   obtain ⟨ly, my⟩ := runeAt_le (s := f :: y) (by simp)
   have hd1 := utf8_DecodeStr J (hU.mono hle) (e :: x) (by simp)
   have hd2 := utf8_DecodeStr J (hU.mono hle) (f :: y) (by simp)
   have hE : alikeF (e :: x) (f :: y) = if foldR (runeAt (e :: x) 0).1 = foldR (runeAt (f :: y) 0).1 then alikeF ((e :: x).drop (runeAt (e :: x) 0).2) ((f :: y).drop (runeAt (f :: y) 0).2) else false := by
    unfold alikeF
    rw [alikeR, if_neg (by simp)]
    split
    ·exact alikeR_fuel _ _ _ _ (by rw [List.length_drop]; simp only [List.length_cons] at lx ⊢; omega) (by omega)
    ·rfl
   generalize runeAt (e :: x) 0 = rx at *
   generalize runeAt (f :: y) 0 = ry at *
   obtain ⟨r1, n1⟩ := rx
   obtain ⟨r2, n2⟩ := ry
   simp only at hwx hwy lx ly mx my hd1 hd2 hE
   repeat refine rS ?_
   refine rO (fun Z hZ => (eE rfl (fE (Ev.lenS T rfl rfl) (kT (Ev.gtr rfl rfl) (by simp only [List.length_cons]; omega) (eE rfl (eE rfl (fE (Ev.lenS T rfl rfl) (kT (Ev.gtr rfl rfl) (by simp only [List.length_cons]; omega) (eE rfl (zN hZ ?_))))))))))
   repeat (first | refine rS ?_ | refine rK ?_ | refine rB ?_ | refine rT rfl ?_)
   refine rO (fun Z hZ => (eE rfl (QD.call (hd1.mono fun _ _ _ h => h.1) dc rfl call113 rfl ?_)))
   iterate 5 refine eE rfl ?_
   refine zN hZ ((rS (rO (fun Z hZ => (eE rfl (QD.call (hd2.mono fun _ _ _ h => h.1) dc rfl call113 rfl ?_))))))
   iterate 5 refine eE rfl ?_
   refine zN hZ ?_
   repeat refine rS ?_
   by_cases hf : foldR r1 = foldR r2
   ·rw [if_pos hf] at hE
    refine rO (fun Z hZ => (eE rfl (QD.call (zz_fold J r1 (by omega)) dc rfl call114 rfl (eE rfl (QD.call (zz_fold J r2 (by omega)) dc rfl call114 rfl (fE ((Ev.neqI rfl rfl).as (show _ = Value.bool false from congrArg Value.bool (by rw [decide_eq_true (by omega)]; rfl))) (zN hZ ?_)))))))
    repeat (first | refine rK ?_ | refine rF rfl ?_)
    refine rQ (fun Z hZ => (eE rfl (eE rfl (fE ((Ev.cutSLo (j := (n1 : Int)) T rfl rfl rfl (by omega) (by omega)).as (show _ = str ((e :: x).drop n1) from rfl)) (eE rfl (eE rfl (fE ((Ev.cutSLo (j := (n2 : Int)) T rfl rfl rfl (by omega) (by omega)).as (show _ = str ((f :: y).drop n2) from rfl)) (eE rfl (eE rfl (zN hZ ((rI (Run.keep [0, 1] [_, _] rfl ?_)))))))))))))
    exact ih ((e :: x).drop n1).length _ _ _ (by rw [List.length_drop]; simp only [List.length_cons] at lx ⊢; omega) ⟨_, _, rfl, by rw [List.length_drop]; omega, by rw [List.length_drop]; omega, by rw [<- hE, he], rfl, rfl, hle⟩
   ·rw [if_neg hf] at hE
    refine rO (fun Z hZ => (eE rfl (QD.call (zz_fold J r1 (by omega)) dc rfl call114 rfl (eE rfl (QD.call (zz_fold J r2 (by omega)) dc rfl call114 rfl (fE ((Ev.neqI rfl rfl).as (show _ = Value.bool true from congrArg Value.bool (by rw [decide_eq_false (by omega)]; rfl))) (zN hZ ?_)))))))
    repeat (first | refine rS ?_ | refine rT rfl ?_)
    refine rO (fun Z hZ => (eE rfl (zN hZ ?_)))
    skip
    refine Run.fin (Run.ret1 (by rw [hCf]; exact func105) results105 rfl (hR _ _ _ ?_))
    exact ⟨rfl, by rw [<- he, hE]⟩
def ixOf (p : Bs -> Bool) : List Bs -> Nat -> Option Nat
 | [], _ => none
 | s :: l, i => if p s then some i else ixOf p l (i + 1)
def fieldR (key : Bs) (names : List Bs) : Int := match ixOf (fun s => decide (s = key)) names 0 with
 | some i => (i : Int)
 | none => match ixOf (fun s => alikeF s key) names 0 with
  | some i => (i : Int)
  | none => -1
theorem drop_ix {α : Type} {l : List α} {i : Nat} {x : α} (h : l[i]? = some x) : l.drop i = x :: l.drop (i + 1) := by
 obtain ⟨hi, rfl⟩ := List.getElem?_eq_some_iff.1 h
 rw [List.drop_eq_getElem_cons hi]
set_option maxHeartbeats 1000000 in
theorem zz_Field (I : Imm) (hU : UT I) (key : Bs) (names : List Bs) (v : Value) (hS : Sl tStr I v names) (hk : key.length <= 137438953472) (hn : ∀ s ∈ names, s.length <= 137438953472) (hl : names.length <= 1000000) :
  Pure prog 98 [str key, v] I fun w J => w = .int .i64 (fieldR key names) := by
 obtain ⟨A, c, rfl⟩ := hS.isSl
 refine Spec.enter 33 [(0, _), (1, _)] func98 rfl ntmps98 (by simp) rfl ?_
 intro C hCf hR hCI
 refine rS ?_
 refine rO (fun Z hZ => (eE rfl (zN hZ ?_)))
 repeat refine rS ?_
 refine rO (fun Z hZ => (eE rfl (eE rfl (eE rfl (zN hZ ((Run.keep [0, 1, 9, 10, 11] [_, _, _, _, _] rfl ?_)))))))
 repeat (refine rS ?_)
 refine Run.piece (fun env L J => env = [(0, str key), (1, .slice A names.length c)] /\ L = [] /\ Le I J /\ ixOf (fun s => decide (s = key)) names 0 = none) (fun k' hk' => ?_) ?_
 ·refine rB ?_
  refine Run.rounds (fun m env L J => ∃ i : Nat, m = names.length - i /\ i <= names.length /\ ixOf (fun s => decide (s = key)) (names.drop i) i = ixOf (fun s => decide (s = key)) names 0 /\
   env = [(0, str key), (1, .slice A names.length c), (9, .slice A names.length c), (10, .int .i64 (names.length : Int)), (11, .int .i64 (i : Int))] /\ L = [] /\ Le I J) names.length ⟨0, by omega, by omega, rfl, rfl, rfl, Le.refl _⟩ ?_
  rintro m env L J ⟨i, rfl, hi, hix, rfl, rfl, hle⟩ ih
  by_cases hlt : i < names.length
  ·skip
   refine rS ?_
   refine rO (fun Z hZ => (kT (Ev.lss rfl rfl) (by omega) (zN hZ ?_)))
   repeat (first | refine rS ?_ | refine rK ?_ | refine rB ?_ | refine rT rfl ?_)
   refine Run.region (oP rfl ?_)
   have hSJ := hS.mono hle
   refine Ops.indexSl hSJ rfl dc rfl rfl (T.undOk rfl) (T.sizeOk rfl) om om ?_
   rintro b_ off_ nm cs_ hnm hr_ hA_
   obtain rfl : cs_ = [_] := hr_
   refine Ops.loadI rfl dc rfl hA_ (T.aggOk rfl) (oP rfl (oP rfl (Ops.nil ?_)))
   rw [show ((i : Int)).toNat = i by omega] at hnm
   rw [drop_ix hnm, ixOf] at hix
   refine rS ?_
   by_cases he : nm = key
   ·rw [if_pos (by simp [he])] at hix
    refine rO (fun Z hZ => (eE rfl (eE rfl (kT (Ev.eqlS rfl rfl) he (zN hZ ?_)))))
    repeat (first | refine rS ?_ | refine rT rfl ?_)
    refine rO (fun Z hZ => (eE rfl (eE rfl (zN hZ ?_))))
    skip
    refine Run.fin (Run.ret1 (by rw [hCf]; exact func98) results98 rfl (hR _ _ _ ?_))
    exact ⟨rfl, by rw [fieldR, <- hix]⟩
   ·rw [if_neg (by simp [he])] at hix
    refine rO (fun Z hZ => (eE rfl (eE rfl (kF (Ev.eqlS rfl rfl) he (zN hZ ?_)))))
    repeat (first | refine rK ?_ | refine rI ?_ | refine rF rfl ?_)
    refine rO (fun Z hZ => (fE (Ev.addK (r := ((i + 1 : Nat) : Int)) rfl rfl (by rw [wI (by omega) (by omega)]; omega)) (eE rfl (zN hZ ?_))))
    skip
    refine Run.keep [0, 1, 9, 10, 11] [_, _, _, _, _] rfl ?_
    exact ih (names.length - (i + 1)) _ _ _ (by omega) ⟨i + 1, rfl, by omega, hix, rfl, rfl, hle⟩
  ·have : i = names.length := by omega
   subst this
   rw [List.drop_length] at hix
   refine rS ?_
   refine rO (fun Z hZ => (kF (Ev.lss rfl rfl) (by omega) (zN hZ ?_)))
   repeat (first | refine rS ?_ | refine Run.exit rfl ?_ | refine rF rfl ?_)
   refine Run.keep [0, 1] [_, _] rfl ?_
   exact hk' _ _ _ ⟨rfl, rfl, hle, hix.symm⟩
 rintro env L J0 ⟨rfl, rfl, hle0, hno⟩
 repeat refine rS ?_
 refine rO (fun Z hZ => (eE rfl (eE rfl (eE rfl (zN hZ ((rB (Run.keep [0, 1, 21, 22, 23] [_, _, _, _, _] rfl ?_))))))))
 refine Run.rounds (fun m env L J => ∃ i : Nat, m = names.length - i /\ i <= names.length /\ ixOf (fun s => alikeF s key) (names.drop i) i = ixOf (fun s => alikeF s key) names 0 /\
   env = [(0, str key), (1, .slice A names.length c), (21, .slice A names.length c), (22, .int .i64 (names.length : Int)), (23, .int .i64 (i : Int))] /\ L = [] /\ Le I J) names.length ⟨0, by omega, by omega, rfl, rfl, rfl, hle0⟩ ?_
 rintro m env L J ⟨i, rfl, hi, hix, rfl, rfl, hle⟩ ih
 by_cases hlt : i < names.length
 ·skip
  refine rS ?_
  refine rO (fun Z hZ => (kT (Ev.lss rfl rfl) (by omega) (zN hZ ?_)))
  repeat (first | refine rS ?_ | refine rK ?_ | refine rB ?_ | refine rT rfl ?_)
  refine Run.region (oP rfl ?_)
  have hSJ := hS.mono hle
  refine Ops.indexSl hSJ rfl dc rfl rfl (T.undOk rfl) (T.sizeOk rfl) om om ?_
  rintro b_ off_ nm cs_ hnm hr_ hA_
  obtain rfl : cs_ = [_] := hr_
  refine Ops.loadI rfl dc rfl hA_ (T.aggOk rfl) (oP rfl (oP rfl (Ops.nil ?_)))
  rw [show ((i : Int)).toNat = i by omega] at hnm
  have hml := hn nm (List.mem_of_getElem? hnm)
  rw [drop_ix hnm, ixOf] at hix
  refine rS ?_
  refine rO (fun Z hZ => (eE rfl (eE rfl (QD.call (zz_alike J (hU.mono hle) nm key hml hk) dc rfl call105 rfl (zN hZ ?_)))))
  cases he : alikeF nm key with
  | true =>
   rw [he, if_pos rfl] at hix
   repeat (first | refine rS ?_ | refine rT rfl ?_)
   refine rO (fun Z hZ => (eE rfl (eE rfl (zN hZ ?_))))
   skip
   refine Run.fin (Run.ret1 (by rw [hCf]; exact func98) results98 rfl (hR _ _ _ ?_))
   exact ⟨rfl, by rw [fieldR, hno, <- hix]⟩
  | false =>
   rw [he, if_neg (by decide)] at hix
   repeat (first | refine rK ?_ | refine rI ?_ | refine rF rfl ?_)
   refine rO (fun Z hZ => (fE (Ev.addK (r := ((i + 1 : Nat) : Int)) rfl rfl (by rw [wI (by omega) (by omega)]; omega)) (eE rfl (zN hZ ?_))))
   skip
   refine Run.keep [0, 1, 21, 22, 23] [_, _, _, _, _] rfl ?_
   exact ih (names.length - (i + 1)) _ _ _ (by omega) ⟨i + 1, rfl, by omega, hix, rfl, rfl, hle⟩
 ·have : i = names.length := by omega
  subst this
  rw [List.drop_length] at hix
  refine rS ?_
  refine rO (fun Z hZ => (kF (Ev.lss rfl rfl) (by omega) (zN hZ ?_)))
  repeat (first | refine rS ?_ | refine Run.exit rfl ?_ | refine rF rfl ?_)
  refine rO (fun Z hZ => (eE rfl (zN hZ ?_)))
  skip
  refine Run.fin (Run.ret1 (by rw [hCf]; exact func98) results98 rfl (hR _ _ _ ?_))
  exact ⟨rfl, by rw [fieldR, hno, <- hix]; rfl⟩
end Go.V
