import Derived.Test.YtcegjgmmbbojdaaGreatDoorAW
import Derived.Test.YtcegjgmmbbojdaaGreatDoorAM10
import Derived.Test.YtcegjgmmbbojdaaGreatDoorAM4
import Derived.Test.YtcegjgmmbbojdaaGreatDoorAM5
set_option linter.unusedVariables false
set_option linter.unusedSimpArgs false
namespace Go.V
open Go.Proofs.Tryz
open Go.RowKit
set_option maxRecDepth 10000
attribute [local irreducible] Run Ops QD
theorem runeAt_le {s : Bs} (hs : s ≠ []) : (runeAt s 0).2 <= s.length /\ (runeAt s 0).1 <= 1114111 := by
 have hl := List.length_pos_iff.2 hs
 by_cases h : (runeAt s 0).1 = 65533 /\ (runeAt s 0).2 = 1
 ·rw [h.1, h.2]; omega
 ·obtain ⟨g, e⟩ := dec_good hs h
  have e2 := runeAt_enc g (s.drop (runeAt s 0).2)
  rw [<- e] at e2
  have e3 := congrArg Prod.snd e2
  simp only at e3
  have e4 := congrArg List.length e
  rw [List.length_append, List.length_drop] at e4
  unfold goodR at g
  omega
theorem shl10 (y : Nat) : ((y : Nat) : Int) * 2 ^ (10 : Int).toNat = ((y * 1024 : Nat) : Int) := by
 show ((y : Nat) : Int) * 1024 = _
 omega
set_option maxHeartbeats 4000000 in
theorem reader_text (q : UInt8) (t : Bs) (I : Imm) (hU : UT I) (xs : Bs) (v : Value) (db off c r d : Nat) (hR0 : Rd I v xs db off c) (ht : Sfx (q :: t) xs) (hl : xs.length <= 137438953472) :
  Spec prog 65 [.pointer (some ⟨r, 0, none⟩)] I [(r, rdr v (posR xs (q :: t)) d)] fun x J M => J = I /\ match strR t with
   | some (s, t') => x = .tuple #[str s, .bool true] /\ M = [(r, rdr v (posR xs t') d)]
   | none => ∃ p, posR xs (q :: t) <= p /\ p <= xs.length /\ x = .tuple #[str [], .bool false] /\ M = [(r, rdr v p d)] := by
 have hUn : ∀ s : Bs, Sfx s xs -> _ := fun s hs => reader_unit s I xs v db off c r d hR0 hs (by omega)
 have hWd : ∀ s : Bs, Sfx s xs -> _ := fun s hs => word_at [92, 117] s I xs v db off c r d hR0 hs (by omega) (by decide) (by decide)
 obtain rfl := hR0.eq
 have hcap := hR0.cap
 have htl := ht.len
 obtain ⟨q1, q2, q3⟩ := sfx_getD ht
 have ht1 : Sfx t xs := (Sfx.cons q t).trans ht
 have le : ∀ {a : Bs}, Sfx a t -> posR xs (q :: t) <= posR xs a /\ posR xs a <= xs.length := fun h => by
  have h1 := h.len
  simp only [List.length_cons] at htl q3
  unfold posR at q3 ⊢
  simp only [List.length_cons] at q3 ⊢
  omega
 refine Spec.enter 198 [(0, _)] func65 rfl ntmps65 (by simp) rfl ?_
 intro C hCf hR hCI
 repeat (first | refine rS ?_)
 refine rO (fun Z hZ => (eE rfl (eE rfl (zN hZ ?_))))
 repeat (first | refine rS ?_)
 refine rP 7 (fun Z hZ => (eE rfl (eE rfl (eE rfl ?_))))
 first | refine gY (Yv.load 0 T rfl rfl rfl rfl) ?_ | refine gY (Yv.load 1 T rfl rfl rfl rfl) ?_ | refine gY (Yv.load 2 T rfl rfl rfl rfl) ?_
 refine fE (Ev.addK (r := (posR xs t : Int)) rfl rfl (by rw [wI (by omega) (by omega), q3]; omega)) (eE rfl (eE rfl (zN hZ ?_)))
 first | refine Ops.store 0 rfl rfl rfl rfl rfl (T.sizeOk rfl) rfl (lb rfl) rfl rfl ?_ | refine Ops.store 1 rfl rfl rfl rfl rfl (T.sizeOk rfl) rfl (lb rfl) rfl rfl ?_ | refine Ops.store 2 rfl rfl rfl rfl rfl (T.sizeOk rfl) rfl (lb rfl) rfl rfl ?_
 refine Ops.nil ?_
 repeat (first | refine rS ?_)
 refine rO (fun Z hZ => (eE rfl (zN hZ ?_)))
 repeat (first | refine rS ?_ | refine rB ?_)
 refine Run.keep [0, 4] [_, _] rfl ?_
 refine Run.rounds (fun m env L J => ∃ (s out : Bs) (v2 : Value) (M2 : Own), m = s.length /\ Sfx s t /\ TR s out = strR t /\ Buf 5 v2 out M2 /\ out.length + 4 * s.length <= 4 * t.length /\
  env = [(0, .pointer (some ⟨r, 0, none⟩)), (4, v2)] /\ L = (r, rdr (.slice (some ⟨db, off, none⟩) xs.length c) (posR xs s) d) :: M2 /\ J = I) t.length ⟨t, [], _, [], rfl, Sfx.refl _, rfl, Buf.nil _, by simp, rfl, rfl, rfl⟩ ?_
 rintro m env L J ⟨s, out, v2, M2, rfl, hs, htr, hB, hob, rfl, rfl, rfl⟩ ih
 have hob2 : out.length <= 549755813888 := by simp only [List.length_cons] at htl; omega
 have hsx := hs.trans ht1
 have hlt := le hs
 cases s with
 | nil =>
  repeat (first | refine rS ?_)
  refine rQ (fun Z hZ => (eE rfl (eE rfl (eE rfl ?_))))
  first | refine gY (Yv.load 0 T rfl rfl rfl rfl) ?_ | refine gY (Yv.load 1 T rfl rfl rfl rfl) ?_ | refine gY (Yv.load 2 T rfl rfl rfl rfl) ?_
  iterate 3 refine eE rfl ?_
  first | refine gY (Yv.load 0 T rfl rfl rfl rfl) ?_ | refine gY (Yv.load 1 T rfl rfl rfl rfl) ?_ | refine gY (Yv.load 2 T rfl rfl rfl rfl) ?_
  refine eE rfl (fE ((Ev.lss rfl rfl).as (show _ = Value.bool false from congrArg Value.bool (decide_eq_false (by simp [posR])))) (zN hZ ?_))
  repeat (first | refine rS ?_ | refine Run.exit rfl ?_ | refine rF rfl ?_)
  refine rO (fun Z hZ => (eE rfl (eE rfl (zN hZ ?_))))
  skip
  refine Run.dropL (L' := [(r, _)]) (List.Sublist.cons_cons _ (List.nil_sublist _)) ?_
  refine Run.ret2 (by rw [hCf]; exact func65) results65 rfl rfl (hR _ _ _ ?_)
  rw [<- htr, show TR ([] : Bs) out = none from rfl]
  exact ⟨rfl, _, hlt.1, hlt.2, rfl, rfl⟩
 | cons e s =>
  obtain ⟨g1, g2, g3⟩ := sfx_getD hsx
  have hA := hR0.at' _ g1
  rw [g2] at hA
  have hsl := hsx.len
  simp only [List.length_cons] at htl hsl
  have hsx1 : Sfx s xs := (Sfx.cons e s).trans hsx
  have hst1 : Sfx s t := (Sfx.cons e s).trans hs
  have hcut := hR0.cut (p := posR xs (e :: s)) (q := xs.length) (by omega) (Nat.le_refl _) (by omega)
  rw [List.take_length, (sfx_drop (s := []) hsx).1] at hcut
  repeat (first | refine rS ?_)
  refine rQ (fun Z hZ => (eE rfl (eE rfl (eE rfl ?_))))
  first | refine gY (Yv.load 0 T rfl rfl rfl rfl) ?_ | refine gY (Yv.load 1 T rfl rfl rfl rfl) ?_ | refine gY (Yv.load 2 T rfl rfl rfl rfl) ?_
  iterate 3 refine eE rfl ?_
  first | refine gY (Yv.load 0 T rfl rfl rfl rfl) ?_ | refine gY (Yv.load 1 T rfl rfl rfl rfl) ?_ | refine gY (Yv.load 2 T rfl rfl rfl rfl) ?_
  refine eE rfl (fE ((Ev.lss rfl rfl).as (show _ = Value.bool true from congrArg Value.bool (decide_eq_true (by omega)))) (zN hZ ?_))
  repeat (first | refine rS ?_ | refine rK ?_ | refine rB ?_ | refine rT rfl ?_)
  generalize hp : posR xs (e :: s) = p at *
  refine rQ (fun Z hZ => (eE rfl (eE rfl (eE rfl ?_))))
  first | refine gY (Yv.load 0 T rfl rfl rfl rfl) ?_ | refine gY (Yv.load 1 T rfl rfl rfl rfl) ?_ | refine gY (Yv.load 2 T rfl rfl rfl rfl) ?_ | refine gY (Yv.loadI T hA rfl rfl) ?_
  iterate 3 refine eE rfl ?_
  first | refine gY (Yv.load 0 T rfl rfl rfl rfl) ?_ | refine gY (Yv.load 1 T rfl rfl rfl rfl) ?_ | refine gY (Yv.load 2 T rfl rfl rfl rfl) ?_ | refine gY (Yv.loadI T hA rfl rfl) ?_
  refine fE (Ev.indexS T rfl rfl rfl rfl (by first | omega | (simp only [List.length_cons, List.length_nil] ; omega) | (simp; omega)) (by first | omega | (simp only [List.length_cons, List.length_nil] ; omega) | (simp; omega))) ?_
  first | refine gY (Yv.load 0 T rfl rfl rfl rfl) ?_ | refine gY (Yv.load 1 T rfl rfl rfl rfl) ?_ | refine gY (Yv.load 2 T rfl rfl rfl rfl) ?_ | refine gY (Yv.loadI T hA rfl rfl) ?_
  refine eE rfl (zN hZ ?_)
  repeat (first | refine rS ?_ | refine rB ?_)
  by_cases e1 : e = 34
  ·subst e1
   refine rO (fun Z hZ => (eE rfl (fE (Ev.eqlI rfl rfl) (eE rfl (zN hZ ?_)))))
   repeat (first | refine rS ?_ | refine rT rfl ?_)
   refine rP 7 (fun Z hZ => (eE rfl (eE rfl (eE rfl ?_))))
   first | refine gY (Yv.load 0 T rfl rfl rfl rfl) ?_ | refine gY (Yv.load 1 T rfl rfl rfl rfl) ?_ | refine gY (Yv.load 2 T rfl rfl rfl rfl) ?_
   refine fE (Ev.addK (r := (posR xs s : Int)) rfl rfl (by rw [wI (by omega) (by omega), g3]; omega)) (eE rfl (eE rfl (zN hZ ?_)))
   first | refine Ops.store 0 rfl rfl rfl rfl rfl (T.sizeOk rfl) rfl (lb rfl) rfl rfl ?_ | refine Ops.store 1 rfl rfl rfl rfl rfl (T.sizeOk rfl) rfl (lb rfl) rfl rfl ?_ | refine Ops.store 2 rfl rfl rfl rfl rfl (T.sizeOk rfl) rfl (lb rfl) rfl rfl ?_
   refine Ops.nil ?_
   repeat (first | refine rS ?_)
   refine rO (fun Z hZ => (eE rfl (gY (Yv.bytesBuf T hB (fun x hx => List.mem_cons_of_mem _ hx) rfl rfl rfl rfl) (eE rfl (eE rfl (zN hZ ?_))))))
   skip
   refine Run.dropL (L' := [(r, _)]) (List.Sublist.cons_cons _ (List.nil_sublist _)) ?_
   refine Run.ret2 (by rw [hCf]; exact func65) results65 rfl rfl (hR _ _ _ ?_)
   rw [<- htr, TR_end]
   exact ⟨rfl, rfl, rfl⟩
  have n1 : e.toNat ≠ 34 := fun h => e1 (UInt8.toNat_inj.1 h)
  refine rO (fun Z hZ => (eE rfl (fE ((Ev.eqlI rfl rfl).as (show _ = Value.bool false from congrArg Value.bool (decide_eq_false (by omega)))) (eE rfl (zN hZ ?_)))))
  repeat (first | refine rS ?_ | refine rF rfl ?_)
  by_cases e2 : e.toNat < 32
  ·skip
   refine rO (fun Z hZ => (eE rfl (fE ((Ev.lss rfl rfl).as (show _ = Value.bool true from congrArg Value.bool (decide_eq_true (by omega)))) (eE rfl (zN hZ ?_)))))
   repeat (first | refine rS ?_ | refine rT rfl ?_)
   refine rO (fun Z hZ => (eE rfl (eE rfl (zN hZ ?_))))
   skip
   refine Run.dropL (L' := [(r, _)]) (List.Sublist.cons_cons _ (List.nil_sublist _)) ?_
   refine Run.ret2 (by rw [hCf]; exact func65) results65 rfl rfl (hR _ _ _ ?_)
   rw [<- htr, show TR (e :: s) out = none from by rw [TR]; exact (textR_cons _ _ _ _).trans (by rw [if_neg e1, if_pos e2])]
   exact ⟨rfl, _, hlt.1, hlt.2, rfl, rfl⟩
  refine rO (fun Z hZ => (eE rfl (fE ((Ev.lss rfl rfl).as (show _ = Value.bool false from congrArg Value.bool (decide_eq_false (by omega)))) (eE rfl (zN hZ ?_)))))
  repeat (first | refine rS ?_ | refine rF rfl ?_)
  by_cases e3 : e ≠ 92
  ·have n3 : e.toNat ≠ 92 := fun h => e3 (UInt8.toNat_inj.1 h)
   refine rO (fun Z hZ => (eE rfl (fE ((Ev.neqI rfl rfl).as (show _ = Value.bool true from congrArg Value.bool (by rw [decide_eq_false (by omega)]; rfl))) (eE rfl (zN hZ ?_)))))
   repeat (first | refine rS ?_ | refine rT rfl ?_)
   have htr2 := TR_raw out e1 e2 e3 (s := s)
   have hw := runeAt_width (e :: s) 0
   obtain ⟨hk, hr⟩ := runeAt_le (s := e :: s) (by simp)
   have hdec := utf8_Decode J hU (e :: s) _ db (off + p) (c - p) hcut (by simp)
   generalize runeAt (e :: s) 0 = rk at *
   obtain ⟨ru, k⟩ := rk
   simp only at hw hk hr htr2 hdec
   have hsd : Sfx ((e :: s).drop k) (e :: s) := Sfx.dropN _ _
   have hpos : posR xs ((e :: s).drop k) = p + k := by
    rw [<- hp]
    unfold posR
    rw [List.length_drop]; simp only [List.length_cons] at hk ⊢; omega
   refine rQ (fun Z hZ => (eE rfl (eE rfl (eE rfl ?_))))
   first | refine gY (Yv.load 0 T rfl rfl rfl rfl) ?_ | refine gY (Yv.load 1 T rfl rfl rfl rfl) ?_ | refine gY (Yv.load 2 T rfl rfl rfl rfl) ?_
   iterate 3 refine eE rfl ?_
   first | refine gY (Yv.load 0 T rfl rfl rfl rfl) ?_ | refine gY (Yv.load 1 T rfl rfl rfl rfl) ?_ | refine gY (Yv.load 2 T rfl rfl rfl rfl) ?_
   refine fE (Ev.sliceLo (j := p) T rfl rfl rfl rfl (by omega) hcap) (QD.call (hdec.mono fun _ _ _ h => h.1) (by decide) rfl call69 rfl ?_)
   iterate 5 refine eE rfl ?_
   refine zN hZ ?_
   repeat (first | refine rS ?_)
   refine rP 8 (fun Z hZ => (eE rfl (eE rfl (eE rfl ?_))))
   first | refine gY (Yv.load 0 T rfl rfl rfl rfl) ?_ | refine gY (Yv.load 1 T rfl rfl rfl rfl) ?_ | refine gY (Yv.load 2 T rfl rfl rfl rfl) ?_
   refine eE rfl (fE (Ev.addK (r := (posR xs ((e :: s).drop k) : Int)) rfl rfl (by rw [hpos, wI (by omega) (by omega)]; omega)) (eE rfl (eE rfl (zN hZ ?_))))
   first | refine Ops.store 0 rfl rfl rfl rfl rfl (T.sizeOk rfl) rfl (lb rfl) rfl rfl ?_ | refine Ops.store 1 rfl rfl rfl rfl rfl (T.sizeOk rfl) rfl (lb rfl) rfl rfl ?_ | refine Ops.store 2 rfl rfl rfl rfl rfl (T.sizeOk rfl) rfl (lb rfl) rfl rfl ?_
   refine Ops.nil ?_
   repeat (first | refine rS ?_)
   refine rP 2 (fun Z hZ => (eE rfl (eE rfl (zN hZ ((Ops.callP (N := [_]) ((utf8_Append J v2 out ru M2 hB (by omega) hr)) (.refl _) rfl (by decide) call70 rfl ?_))))))
   rintro w J3 M3 l3 ⟨hB3, rfl⟩
   refine oP rfl (Ops.nil ?_)
   repeat (first | refine Run.exit rfl ?_)
   refine Run.keep [0, 4] [_, _] rfl ?_
   have hel := encR_pos ru
   exact ih ((e :: s).drop k).length _ _ _ (by rw [List.length_drop]; simp only [List.length_cons]; omega) ⟨(e :: s).drop k, out ++ encR (ru : Int), w, M3, rfl, hsd.trans hs, by rw [<- htr2, htr], hB3, by
    rw [List.length_append, List.length_drop]; simp only [List.length_cons] at hob hk ⊢; omega, rfl, rfl, rfl⟩
  obtain rfl : e = 92 := Classical.not_not.1 e3
  refine rO (fun Z hZ => (eE rfl (fE (Ev.neqI rfl rfl) (eE rfl (zN hZ ?_)))))
  repeat (first | refine rS ?_ | refine rK ?_ | refine rI ?_ | refine rF rfl ?_)
  refine rP 7 (fun Z hZ => (eE rfl (eE rfl (eE rfl ?_))))
  first | refine gY (Yv.load 0 T rfl rfl rfl rfl) ?_ | refine gY (Yv.load 1 T rfl rfl rfl rfl) ?_ | refine gY (Yv.load 2 T rfl rfl rfl rfl) ?_
  refine fE (Ev.addK (r := (posR xs s : Int)) rfl rfl (by rw [wI (by omega) (by omega), g3]; omega)) (eE rfl (eE rfl (zN hZ ?_)))
  first | refine Ops.store 0 rfl rfl rfl rfl rfl (T.sizeOk rfl) rfl (lb rfl) rfl rfl ?_ | refine Ops.store 1 rfl rfl rfl rfl rfl (T.sizeOk rfl) rfl (lb rfl) rfl rfl ?_ | refine Ops.store 2 rfl rfl rfl rfl rfl (T.sizeOk rfl) rfl (lb rfl) rfl rfl ?_
  refine Ops.nil ?_
  repeat (first | refine rS ?_)
  cases s with
  | nil =>
   refine rQ (fun Z hZ => (eE rfl (eE rfl (eE rfl ?_))))
   first | refine gY (Yv.load 0 T rfl rfl rfl rfl) ?_ | refine gY (Yv.load 1 T rfl rfl rfl rfl) ?_ | refine gY (Yv.load 2 T rfl rfl rfl rfl) ?_
   iterate 3 refine eE rfl ?_
   first | refine gY (Yv.load 0 T rfl rfl rfl rfl) ?_ | refine gY (Yv.load 1 T rfl rfl rfl rfl) ?_ | refine gY (Yv.load 2 T rfl rfl rfl rfl) ?_
   refine eE rfl (fE ((Ev.geq rfl rfl).as (show _ = Value.bool true from congrArg Value.bool (decide_eq_true (by simp [posR])))) (zN hZ ?_))
   repeat (first | refine rS ?_ | refine rT rfl ?_)
   refine rO (fun Z hZ => (eE rfl (eE rfl (zN hZ ?_))))
   skip
   refine Run.dropL (L' := [(r, _)]) (List.Sublist.cons_cons _ (List.nil_sublist _)) ?_
   refine Run.ret2 (by rw [hCf]; exact func65) results65 rfl rfl (hR _ _ _ ?_)
   rw [<- htr, show TR ([92] : Bs) out = none from rfl]
   exact ⟨rfl, _, (le hst1).1, (le hst1).2, rfl, rfl⟩
  | cons f u =>
   obtain ⟨f1, f2, f3⟩ := sfx_getD hsx1
   have hA2 := hR0.at' _ f1
   rw [f2] at hA2
   have hu1 : Sfx u t := (Sfx.cons f u).trans hst1
   have hux : Sfx u xs := hu1.trans ht1
   have hlu := le hu1
   have huu := hux.len
   simp only [List.length_cons] at hsl hob
   refine rQ (fun Z hZ => (eE rfl (eE rfl (eE rfl ?_))))
   first | refine gY (Yv.load 0 T rfl rfl rfl rfl) ?_ | refine gY (Yv.load 1 T rfl rfl rfl rfl) ?_ | refine gY (Yv.load 2 T rfl rfl rfl rfl) ?_
   iterate 3 refine eE rfl ?_
   first | refine gY (Yv.load 0 T rfl rfl rfl rfl) ?_ | refine gY (Yv.load 1 T rfl rfl rfl rfl) ?_ | refine gY (Yv.load 2 T rfl rfl rfl rfl) ?_
   refine eE rfl (fE ((Ev.geq rfl rfl).as (show _ = Value.bool false from congrArg Value.bool (decide_eq_false (by omega)))) (zN hZ ?_))
   repeat (first | refine rS ?_ | refine rK ?_ | refine rF rfl ?_)
   generalize hp2 : posR xs (f :: u) = p2 at *
   refine rQ (fun Z hZ => (eE rfl (eE rfl (eE rfl ?_))))
   first | refine gY (Yv.load 0 T rfl rfl rfl rfl) ?_ | refine gY (Yv.load 1 T rfl rfl rfl rfl) ?_ | refine gY (Yv.load 2 T rfl rfl rfl rfl) ?_ | refine gY (Yv.loadI T hA2 rfl rfl) ?_
   iterate 3 refine eE rfl ?_
   first | refine gY (Yv.load 0 T rfl rfl rfl rfl) ?_ | refine gY (Yv.load 1 T rfl rfl rfl rfl) ?_ | refine gY (Yv.load 2 T rfl rfl rfl rfl) ?_ | refine gY (Yv.loadI T hA2 rfl rfl) ?_
   refine fE (Ev.indexS T rfl rfl rfl rfl (by first | omega | (simp only [List.length_cons, List.length_nil] ; omega) | (simp; omega)) (by first | omega | (simp only [List.length_cons, List.length_nil] ; omega) | (simp; omega))) ?_
   first | refine gY (Yv.load 0 T rfl rfl rfl rfl) ?_ | refine gY (Yv.load 1 T rfl rfl rfl rfl) ?_ | refine gY (Yv.load 2 T rfl rfl rfl rfl) ?_ | refine gY (Yv.loadI T hA2 rfl rfl) ?_
   refine eE rfl (zN hZ ?_)
   repeat (first | refine rS ?_)
   refine rP 7 (fun Z hZ => (eE rfl (eE rfl (eE rfl ?_))))
   first | refine gY (Yv.load 0 T rfl rfl rfl rfl) ?_ | refine gY (Yv.load 1 T rfl rfl rfl rfl) ?_ | refine gY (Yv.load 2 T rfl rfl rfl rfl) ?_
   refine fE (Ev.addK (r := (posR xs u : Int)) rfl rfl (by rw [wI (by omega) (by omega), f3]; omega)) (eE rfl (eE rfl (zN hZ ?_)))
   first | refine Ops.store 0 rfl rfl rfl rfl rfl (T.sizeOk rfl) rfl (lb rfl) rfl rfl ?_ | refine Ops.store 1 rfl rfl rfl rfl rfl (T.sizeOk rfl) rfl (lb rfl) rfl rfl ?_ | refine Ops.store 2 rfl rfl rfl rfl rfl (T.sizeOk rfl) rfl (lb rfl) rfl rfl ?_
   refine Ops.nil ?_
   repeat (first | refine rS ?_)
   refine rO (fun Z hZ => (eE rfl (zN hZ ?_)))
   repeat (first | refine rS ?_ | refine rB ?_)
   have nn : ∀ (k : UInt8) (m : Int), (k.toNat : Int) = m -> f ≠ k -> decide ((f.toNat : Int) = m) = false := fun k m hm h => decide_eq_false fun e => h (UInt8.toNat_inj.1 (by omega))
   by_cases k1 : f = 34
   ·subst k1
    refine rO (fun Z hZ => (fE (Ev.eqlI rfl rfl) (eE rfl (zN hZ ?_))))
    repeat (first | refine rK ?_ | refine rT rfl ?_)
    refine rP 2 (fun Z hZ => (eE rfl (eE rfl (zN hZ ((Ops.lit T rfl rfl rfl (by decide) rfl (by decide) (by decide) rfl rfl rfl rfl rfl (fun bq => (Ops.appLit [34] (N := [_]) btB hB rfl (by decide) rfl rfl rfl rfl rfl (by simp; omega) fun v3 M3 hB3 => (oP rfl (Ops.nil ?_))))))))))
    repeat (first | refine rI ?_)
    refine Run.keep [0, 4] [_, _] rfl ?_
    exact ih u.length _ _ _ (by simp only [List.length_cons]; omega) ⟨u, out ++ [34], v3, M3, rfl, hu1, by rw [<- htr]; exact (TR_esc out rfl).symm, hB3, by simp only [List.length_append, List.length_cons, List.length_nil] at hob ⊢; omega, rfl, rfl, rfl⟩
   by_cases k2 : f = 92
   ·subst k2
    refine rO (fun Z hZ => (fE (Ev.eqlI rfl rfl) (eE rfl (zN hZ ?_))))
    repeat (first | refine rS ?_ | refine rF rfl ?_)
    refine rO (fun Z hZ => (fE (Ev.eqlI rfl rfl) (eE rfl (zN hZ ?_))))
    repeat (first | refine rK ?_ | refine rT rfl ?_)
    refine rP 2 (fun Z hZ => (eE rfl (eE rfl (zN hZ ((Ops.lit T rfl rfl rfl (by decide) rfl (by decide) (by decide) rfl rfl rfl rfl rfl (fun bq => (Ops.appLit [92] (N := [_]) btB hB rfl (by decide) rfl rfl rfl rfl rfl (by simp; omega) fun v3 M3 hB3 => (oP rfl (Ops.nil ?_))))))))))
    repeat (first | refine rI ?_)
    refine Run.keep [0, 4] [_, _] rfl ?_
    exact ih u.length _ _ _ (by simp only [List.length_cons]; omega) ⟨u, out ++ [92], v3, M3, rfl, hu1, by rw [<- htr]; exact (TR_esc out rfl).symm, hB3, by simp only [List.length_append, List.length_cons, List.length_nil] at hob ⊢; omega, rfl, rfl, rfl⟩
   by_cases k3 : f = 47
   ·subst k3
    refine rO (fun Z hZ => (fE (Ev.eqlI rfl rfl) (eE rfl (zN hZ ?_))))
    repeat (first | refine rS ?_ | refine rF rfl ?_)
    refine rO (fun Z hZ => (fE (Ev.eqlI rfl rfl) (eE rfl (zN hZ ?_))))
    repeat (first | refine rF rfl ?_)
    refine rO (fun Z hZ => (fE (Ev.eqlI rfl rfl) (eE rfl (zN hZ ?_))))
    repeat (first | refine rT rfl ?_)
    refine rP 2 (fun Z hZ => (eE rfl (eE rfl (zN hZ ((Ops.lit T rfl rfl rfl (by decide) rfl (by decide) (by decide) rfl rfl rfl rfl rfl (fun bq => (Ops.appLit [47] (N := [_]) btB hB rfl (by decide) rfl rfl rfl rfl rfl (by simp; omega) fun v3 M3 hB3 => (oP rfl (Ops.nil ?_))))))))))
    repeat (first | refine rI ?_)
    refine Run.keep [0, 4] [_, _] rfl ?_
    exact ih u.length _ _ _ (by simp only [List.length_cons]; omega) ⟨u, out ++ [47], v3, M3, rfl, hu1, by rw [<- htr]; exact (TR_esc out rfl).symm, hB3, by simp only [List.length_append, List.length_cons, List.length_nil] at hob ⊢; omega, rfl, rfl, rfl⟩
   by_cases k4 : f = 98
   ·subst k4
    refine rO (fun Z hZ => (fE (Ev.eqlI rfl rfl) (eE rfl (zN hZ ?_))))
    repeat (first | refine rS ?_ | refine rF rfl ?_)
    refine rO (fun Z hZ => (fE (Ev.eqlI rfl rfl) (eE rfl (zN hZ ?_))))
    repeat (first | refine rF rfl ?_)
    refine rO (fun Z hZ => (fE (Ev.eqlI rfl rfl) (eE rfl (zN hZ ?_))))
    repeat (first | refine rS ?_ | refine rF rfl ?_)
    refine rO (fun Z hZ => (fE (Ev.eqlI rfl rfl) (eE rfl (zN hZ ?_))))
    repeat (first | refine rT rfl ?_)
    refine rP 1 (fun Z hZ => (eE rfl (zN hZ ((Ops.lit T rfl rfl rfl (by decide) rfl (by decide) (by decide) rfl rfl rfl rfl rfl (fun bq => (Ops.appLit [8] (N := [_]) btB hB rfl (by decide) rfl rfl rfl rfl rfl (by simp; omega) fun v3 M3 hB3 => (oP rfl (Ops.nil ?_)))))))))
    repeat (first | refine rI ?_)
    refine Run.keep [0, 4] [_, _] rfl ?_
    exact ih u.length _ _ _ (by simp only [List.length_cons]; omega) ⟨u, out ++ [8], v3, M3, rfl, hu1, by rw [<- htr]; exact (TR_esc out rfl).symm, hB3, by simp only [List.length_append, List.length_cons, List.length_nil] at hob ⊢; omega, rfl, rfl, rfl⟩
   by_cases k5 : f = 102
   ·subst k5
    refine rO (fun Z hZ => (fE (Ev.eqlI rfl rfl) (eE rfl (zN hZ ?_))))
    repeat (first | refine rS ?_ | refine rF rfl ?_)
    refine rO (fun Z hZ => (fE (Ev.eqlI rfl rfl) (eE rfl (zN hZ ?_))))
    repeat (first | refine rF rfl ?_)
    refine rO (fun Z hZ => (fE (Ev.eqlI rfl rfl) (eE rfl (zN hZ ?_))))
    repeat (first | refine rS ?_ | refine rF rfl ?_)
    refine rO (fun Z hZ => (fE (Ev.eqlI rfl rfl) (eE rfl (zN hZ ?_))))
    repeat (first | refine rS ?_ | refine rF rfl ?_)
    refine rO (fun Z hZ => (fE (Ev.eqlI rfl rfl) (eE rfl (zN hZ ?_))))
    repeat (first | refine rT rfl ?_)
    refine rP 1 (fun Z hZ => (eE rfl (zN hZ ((Ops.lit T rfl rfl rfl (by decide) rfl (by decide) (by decide) rfl rfl rfl rfl rfl (fun bq => (Ops.appLit [12] (N := [_]) btB hB rfl (by decide) rfl rfl rfl rfl rfl (by simp; omega) fun v3 M3 hB3 => (oP rfl (Ops.nil ?_)))))))))
    repeat (first | refine rI ?_)
    refine Run.keep [0, 4] [_, _] rfl ?_
    exact ih u.length _ _ _ (by simp only [List.length_cons]; omega) ⟨u, out ++ [12], v3, M3, rfl, hu1, by rw [<- htr]; exact (TR_esc out rfl).symm, hB3, by simp only [List.length_append, List.length_cons, List.length_nil] at hob ⊢; omega, rfl, rfl, rfl⟩
   by_cases k6 : f = 110
   ·subst k6
    refine rO (fun Z hZ => (fE (Ev.eqlI rfl rfl) (eE rfl (zN hZ ?_))))
    repeat (first | refine rS ?_ | refine rF rfl ?_)
    refine rO (fun Z hZ => (fE (Ev.eqlI rfl rfl) (eE rfl (zN hZ ?_))))
    repeat (first | refine rF rfl ?_)
    refine rO (fun Z hZ => (fE (Ev.eqlI rfl rfl) (eE rfl (zN hZ ?_))))
    repeat (first | refine rS ?_ | refine rF rfl ?_)
    refine rO (fun Z hZ => (fE (Ev.eqlI rfl rfl) (eE rfl (zN hZ ?_))))
    repeat (first | refine rS ?_ | refine rF rfl ?_)
    refine rO (fun Z hZ => (fE (Ev.eqlI rfl rfl) (eE rfl (zN hZ ?_))))
    repeat (first | refine rS ?_ | refine rF rfl ?_)
    refine rO (fun Z hZ => (fE (Ev.eqlI rfl rfl) (eE rfl (zN hZ ?_))))
    repeat (first | refine rT rfl ?_)
    refine rP 1 (fun Z hZ => (eE rfl (zN hZ ((Ops.lit T rfl rfl rfl (by decide) rfl (by decide) (by decide) rfl rfl rfl rfl rfl (fun bq => (Ops.appLit [10] (N := [_]) btB hB rfl (by decide) rfl rfl rfl rfl rfl (by simp; omega) fun v3 M3 hB3 => (oP rfl (Ops.nil ?_)))))))))
    repeat (first | refine rI ?_)
    refine Run.keep [0, 4] [_, _] rfl ?_
    exact ih u.length _ _ _ (by simp only [List.length_cons]; omega) ⟨u, out ++ [10], v3, M3, rfl, hu1, by rw [<- htr]; exact (TR_esc out rfl).symm, hB3, by simp only [List.length_append, List.length_cons, List.length_nil] at hob ⊢; omega, rfl, rfl, rfl⟩
   by_cases k7 : f = 114
   ·subst k7
    refine rO (fun Z hZ => (fE (Ev.eqlI rfl rfl) (eE rfl (zN hZ ?_))))
    repeat (first | refine rS ?_ | refine rF rfl ?_)
    refine rO (fun Z hZ => (fE (Ev.eqlI rfl rfl) (eE rfl (zN hZ ?_))))
    repeat (first | refine rF rfl ?_)
    refine rO (fun Z hZ => (fE (Ev.eqlI rfl rfl) (eE rfl (zN hZ ?_))))
    repeat (first | refine rS ?_ | refine rF rfl ?_)
    refine rO (fun Z hZ => (fE (Ev.eqlI rfl rfl) (eE rfl (zN hZ ?_))))
    repeat (first | refine rS ?_ | refine rF rfl ?_)
    refine rO (fun Z hZ => (fE (Ev.eqlI rfl rfl) (eE rfl (zN hZ ?_))))
    repeat (first | refine rS ?_ | refine rF rfl ?_)
    refine rO (fun Z hZ => (fE (Ev.eqlI rfl rfl) (eE rfl (zN hZ ?_))))
    repeat (first | refine rS ?_ | refine rF rfl ?_)
    refine rO (fun Z hZ => (fE (Ev.eqlI rfl rfl) (eE rfl (zN hZ ?_))))
    repeat (first | refine rT rfl ?_)
    refine rP 1 (fun Z hZ => (eE rfl (zN hZ ((Ops.lit T rfl rfl rfl (by decide) rfl (by decide) (by decide) rfl rfl rfl rfl rfl (fun bq => (Ops.appLit [13] (N := [_]) btB hB rfl (by decide) rfl rfl rfl rfl rfl (by simp; omega) fun v3 M3 hB3 => (oP rfl (Ops.nil ?_)))))))))
    repeat (first | refine rI ?_)
    refine Run.keep [0, 4] [_, _] rfl ?_
    exact ih u.length _ _ _ (by simp only [List.length_cons]; omega) ⟨u, out ++ [13], v3, M3, rfl, hu1, by rw [<- htr]; exact (TR_esc out rfl).symm, hB3, by simp only [List.length_append, List.length_cons, List.length_nil] at hob ⊢; omega, rfl, rfl, rfl⟩
   by_cases k8 : f = 116
   ·subst k8
    refine rO (fun Z hZ => (fE (Ev.eqlI rfl rfl) (eE rfl (zN hZ ?_))))
    repeat (first | refine rS ?_ | refine rF rfl ?_)
    refine rO (fun Z hZ => (fE (Ev.eqlI rfl rfl) (eE rfl (zN hZ ?_))))
    repeat (first | refine rF rfl ?_)
    refine rO (fun Z hZ => (fE (Ev.eqlI rfl rfl) (eE rfl (zN hZ ?_))))
    repeat (first | refine rS ?_ | refine rF rfl ?_)
    refine rO (fun Z hZ => (fE (Ev.eqlI rfl rfl) (eE rfl (zN hZ ?_))))
    repeat (first | refine rS ?_ | refine rF rfl ?_)
    refine rO (fun Z hZ => (fE (Ev.eqlI rfl rfl) (eE rfl (zN hZ ?_))))
    repeat (first | refine rS ?_ | refine rF rfl ?_)
    refine rO (fun Z hZ => (fE (Ev.eqlI rfl rfl) (eE rfl (zN hZ ?_))))
    repeat (first | refine rS ?_ | refine rF rfl ?_)
    refine rO (fun Z hZ => (fE (Ev.eqlI rfl rfl) (eE rfl (zN hZ ?_))))
    repeat (first | refine rS ?_ | refine rF rfl ?_)
    refine rO (fun Z hZ => (fE (Ev.eqlI rfl rfl) (eE rfl (zN hZ ?_))))
    repeat (first | refine rT rfl ?_)
    refine rP 1 (fun Z hZ => (eE rfl (zN hZ ((Ops.lit T rfl rfl rfl (by decide) rfl (by decide) (by decide) rfl rfl rfl rfl rfl (fun bq => (Ops.appLit [9] (N := [_]) btB hB rfl (by decide) rfl rfl rfl rfl rfl (by simp; omega) fun v3 M3 hB3 => (oP rfl (Ops.nil ?_)))))))))
    repeat (first | refine rI ?_)
    refine Run.keep [0, 4] [_, _] rfl ?_
    exact ih u.length _ _ _ (by simp only [List.length_cons]; omega) ⟨u, out ++ [9], v3, M3, rfl, hu1, by rw [<- htr]; exact (TR_esc out rfl).symm, hB3, by simp only [List.length_append, List.length_cons, List.length_nil] at hob ⊢; omega, rfl, rfl, rfl⟩
   by_cases k9 : f = 117
   ·subst k9
    refine rO (fun Z hZ => (fE (Ev.eqlI rfl rfl) (eE rfl (zN hZ ?_))))
    repeat (first | refine rS ?_ | refine rF rfl ?_)
    refine rO (fun Z hZ => (fE (Ev.eqlI rfl rfl) (eE rfl (zN hZ ?_))))
    repeat (first | refine rF rfl ?_)
    refine rO (fun Z hZ => (fE (Ev.eqlI rfl rfl) (eE rfl (zN hZ ?_))))
    repeat (first | refine rS ?_ | refine rF rfl ?_)
    refine rO (fun Z hZ => (fE (Ev.eqlI rfl rfl) (eE rfl (zN hZ ?_))))
    repeat (first | refine rS ?_ | refine rF rfl ?_)
    refine rO (fun Z hZ => (fE (Ev.eqlI rfl rfl) (eE rfl (zN hZ ?_))))
    repeat (first | refine rS ?_ | refine rF rfl ?_)
    refine rO (fun Z hZ => (fE (Ev.eqlI rfl rfl) (eE rfl (zN hZ ?_))))
    repeat (first | refine rS ?_ | refine rF rfl ?_)
    refine rO (fun Z hZ => (fE (Ev.eqlI rfl rfl) (eE rfl (zN hZ ?_))))
    repeat (first | refine rS ?_ | refine rF rfl ?_)
    refine rO (fun Z hZ => (fE (Ev.eqlI rfl rfl) (eE rfl (zN hZ ?_))))
    repeat (first | refine rS ?_ | refine rF rfl ?_)
    refine rO (fun Z hZ => (fE (Ev.eqlI rfl rfl) (eE rfl (zN hZ ?_))))
    repeat (first | refine rS ?_ | refine rT rfl ?_)
    have hU1 := hUn u hux
    refine rP 1 (fun Z hZ => (eE rfl (zN hZ ?_)))
    cases h4 : unitR 4 0 u with
    | none =>
     rw [h4] at hU1
     refine Ops.callM (M := [_]) (hU1) (.refl _) rfl (by decide) call71 rfl ?_
     rintro x J1 M1 l1 ⟨rfl, p3, hp3, hp4, rfl, rfl⟩
     iterate 5 refine oP rfl ?_
     refine Ops.nil ?_
     repeat (first | refine rS ?_)
     refine rO (fun Z hZ => (eE rfl (eE rfl (zN hZ ?_))))
     repeat (first | refine rS ?_ | refine rT rfl ?_)
     refine rO (fun Z hZ => (eE rfl (eE rfl (zN hZ ?_))))
     have hx : TR (92 :: 117 :: u) out = none := by
      show TR (92 :: 117 :: u) out = none
      unfold TR
      rw [textR_cons, if_neg (by decide), if_neg (by decide), if_pos rfl]
      simp only [escR_u, escU, h4, Option.map_none]
     skip
     refine Run.dropL (L' := [(r, _)]) (List.Sublist.cons_cons _ (List.nil_sublist _)) ?_
     refine Run.ret2 (by rw [hCf]; exact func65) results65 rfl rfl (hR _ _ _ ?_)
     rw [<- htr, hx]
     exact ⟨rfl, _, by omega, hp4, rfl, rfl⟩
    | some pr =>
     obtain ⟨y, s1⟩ := pr
     rw [h4] at hU1
     have k1 := unit_sfx _ _ _ h4
     refine Ops.callM (M := [_]) (hU1) (.refl _) rfl (by decide) call71 rfl ?_
     rintro x J1 M1 l1 ⟨rfl, rfl, rfl, hy⟩
     skip
     iterate 5 refine oP rfl ?_
     refine Ops.nil ?_
     repeat (first | refine rS ?_)
     refine rO (fun Z hZ => (eE rfl (eE rfl (zN hZ ?_))))
     repeat (first | refine rS ?_ | refine rK ?_ | refine rF rfl ?_)
     by_cases y1 : y < 55296
     ·have he : escU u = some (y, s1) := by unfold escU; rw [h4]; simp only; rw [if_neg (by omega)]
      refine rO (fun Z hZ => (eE rfl (fE ((Ev.geq rfl rfl).as (show _ = Value.bool false from congrArg Value.bool (decide_eq_false (by omega)))) (eE rfl ?_))))
      first | refine eE rfl ?_ | refine oF ?_
      first | refine fE (Ev.lss rfl rfl) ?_ | refine oF ?_
      refine eE rfl (zN hZ ?_)
      repeat (first | refine rK ?_ | refine rF rfl ?_)
      skip
      refine rP 2 (fun Z hZ => (eE rfl (eE rfl (zN hZ ((Ops.callP (N := [_]) ((utf8_Append _ v2 out y M2 hB (by omega) (by omega))) (.refl _) rfl (by decide) call70 rfl ?_))))))
      rintro w J3 M3 l3 ⟨hB3, rfl⟩
      refine oP rfl (Ops.nil ?_)
      repeat (first | refine rI ?_)
      refine Run.keep [0, 4] [_, _] rfl ?_
      have hel := encR_pos y
      have hsl2 := k1.len
      exact ih s1.length _ _ _ (by simp only [List.length_cons]; omega) ⟨s1, out ++ encR ((y : Nat) : Int), w, M3, rfl, k1.trans hu1, by rw [<- htr]; exact (TR_esc out (by rw [escR_u, he]; rfl)).symm, hB3, by
       simp only [List.length_append, List.length_cons, List.length_nil] at hob ⊢; omega, rfl, rfl, rfl⟩
     by_cases y2 : 56320 <= y
     ·have he : escU u = some (y, s1) := by unfold escU; rw [h4]; simp only; rw [if_neg (by omega)]
      refine rO (fun Z hZ => (eE rfl (fE ((Ev.geq rfl rfl).as (show _ = Value.bool true from congrArg Value.bool (decide_eq_true (by omega)))) (eE rfl ?_))))
      first | refine eE rfl ?_ | refine oF ?_
      refine fE ((Ev.lss rfl rfl).as (show _ = Value.bool false from congrArg Value.bool (decide_eq_false (by omega)))) (eE rfl (zN hZ ?_))
      repeat (first | refine rK ?_ | refine rF rfl ?_)
      skip
      refine rP 2 (fun Z hZ => (eE rfl (eE rfl (zN hZ ((Ops.callP (N := [_]) ((utf8_Append _ v2 out y M2 hB (by omega) (by omega))) (.refl _) rfl (by decide) call70 rfl ?_))))))
      rintro w J3 M3 l3 ⟨hB3, rfl⟩
      refine oP rfl (Ops.nil ?_)
      repeat (first | refine rI ?_)
      refine Run.keep [0, 4] [_, _] rfl ?_
      have hel := encR_pos y
      have hsl2 := k1.len
      exact ih s1.length _ _ _ (by simp only [List.length_cons]; omega) ⟨s1, out ++ encR ((y : Nat) : Int), w, M3, rfl, k1.trans hu1, by rw [<- htr]; exact (TR_esc out (by rw [escR_u, he]; rfl)).symm, hB3, by
       simp only [List.length_append, List.length_cons, List.length_nil] at hob ⊢; omega, rfl, rfl, rfl⟩
     refine rO (fun Z hZ => (eE rfl (fE ((Ev.geq rfl rfl).as (show _ = Value.bool true from congrArg Value.bool (decide_eq_true (by omega)))) (eE rfl ?_))))
     first | refine eE rfl ?_ | refine oF ?_
     refine fE ((Ev.lss rfl rfl).as (show _ = Value.bool true from congrArg Value.bool (decide_eq_true (by omega)))) (eE rfl (zN hZ ?_))
     repeat (first | refine rS ?_ | refine rT rfl ?_)
     refine rO (fun Z hZ => (eE rfl (eE rfl (eE rfl ?_))))
     first | refine gY (Yv.load 0 T rfl rfl rfl rfl) ?_ | refine gY (Yv.load 1 T rfl rfl rfl rfl) ?_ | refine gY (Yv.load 2 T rfl rfl rfl rfl) ?_
     refine eE rfl (zN hZ ?_)
     repeat (first | refine rS ?_)
     refine rP 1 (fun Z hZ => (eE rfl (zN hZ ?_)))
     have hW1 := hWd s1 (k1.trans hux)
     cases h5 : wordR [92, 117] s1 with
     | none =>
      rw [h5] at hW1
      have he : escU u = some (y, s1) := by unfold escU; rw [h4]; simp only; rw [if_pos (by omega), h5]
      refine Ops.callM (M := [_]) (hW1) (.refl _) rfl (by decide) call66 rfl ?_
      rintro x J2 M3 l2 ⟨rfl, rfl, rfl⟩
      refine Ops.nil ?_
      repeat (first | refine rK ?_ | refine rF rfl ?_)
      skip
      refine rP 2 (fun Z hZ => (eE rfl (eE rfl (zN hZ ((Ops.callP (N := [_]) ((utf8_Append _ v2 out y M2 hB (by omega) (by omega))) (.refl _) rfl (by decide) call70 rfl ?_))))))
      rintro w J3 M3 l3 ⟨hB3, rfl⟩
      refine oP rfl (Ops.nil ?_)
      repeat (first | refine rI ?_)
      refine Run.keep [0, 4] [_, _] rfl ?_
      have hel := encR_pos y
      have hsl2 := k1.len
      exact ih s1.length _ _ _ (by simp only [List.length_cons]; omega) ⟨s1, out ++ encR ((y : Nat) : Int), w, M3, rfl, k1.trans hu1, by rw [<- htr]; exact (TR_esc out (by rw [escR_u, he]; rfl)).symm, hB3, by
       simp only [List.length_append, List.length_cons, List.length_nil] at hob ⊢; omega, rfl, rfl, rfl⟩
     | some s2 =>
      rw [h5] at hW1
      have k2 := (word_sfx h5).1.trans k1
      refine Ops.callM (M := [_]) (hW1) (.refl _) rfl (by decide) call66 rfl ?_
      rintro x J2 M3 l2 ⟨rfl, rfl, rfl⟩
      refine Ops.nil ?_
      repeat (first | refine rS ?_ | refine rT rfl ?_)
      have hU2 := hUn s2 (k2.trans hux)
      refine rP 1 (fun Z hZ => (eE rfl (zN hZ ?_)))
      cases h6 : unitR 4 0 s2 with
      | none =>
       rw [h6] at hU2
       refine Ops.callM (M := [_]) (hU2) (.refl _) rfl (by decide) call71 rfl ?_
       rintro x J1 M1 l1 ⟨rfl, p3, hp3, hp4, rfl, rfl⟩
       iterate 5 refine oP rfl ?_
       refine Ops.nil ?_
       repeat (first | refine rS ?_)
       refine rO (fun Z hZ => (eE rfl (eE rfl (zN hZ ?_))))
       repeat (first | refine rS ?_ | refine rT rfl ?_)
       refine rO (fun Z hZ => (eE rfl (eE rfl (zN hZ ?_))))
       have hx : TR (92 :: 117 :: u) out = none := by
        unfold TR
        rw [textR_cons, if_neg (by decide), if_neg (by decide), if_pos rfl]
        have : escU u = none := by unfold escU; rw [h4]; simp only; rw [if_pos (by omega), h5]; simp only; rw [h6]
        simp only [escR_u, this, Option.map_none]
       have := (le (k2.trans hu1)).1
       skip
       refine Run.dropL (L' := [(r, _)]) (List.Sublist.cons_cons _ (List.nil_sublist _)) ?_
       refine Run.ret2 (by rw [hCf]; exact func65) results65 rfl rfl (hR _ _ _ ?_)
       rw [<- htr, hx]
       exact ⟨rfl, _, Nat.le_trans this hp3, hp4, rfl, rfl⟩
      | some pr2 =>
       obtain ⟨z, s3⟩ := pr2
       rw [h6] at hU2
       have k3 := (unit_sfx _ _ _ h6).trans k2
       refine Ops.callM (M := [_]) (hU2) (.refl _) rfl (by decide) call71 rfl ?_
       rintro x J1 M1 l1 ⟨rfl, rfl, rfl, hz⟩
       skip
       iterate 5 refine oP rfl ?_
       refine Ops.nil ?_
       repeat (first | refine rS ?_)
       refine rO (fun Z hZ => (eE rfl (eE rfl (zN hZ ?_))))
       repeat (first | refine rS ?_ | refine rK ?_ | refine rF rfl ?_)
       by_cases z1 : z < 56320
       ·have he : escU u = some (y, s1) := by unfold escU; rw [h4]; simp only; rw [if_pos (by omega), h5]; simp only; rw [h6]; simp only; rw [if_neg (by omega)]
        refine rO (fun Z hZ => (eE rfl (fE ((Ev.geq rfl rfl).as (show _ = Value.bool false from congrArg Value.bool (decide_eq_false (by omega)))) (eE rfl ?_))))
        first | refine eE rfl ?_ | refine oF ?_
        first | refine fE (Ev.lss rfl rfl) ?_ | refine oF ?_
        refine eE rfl (zN hZ ?_)
        repeat (first | refine rF rfl ?_)
        refine rP 4 (fun Z hZ => ?_)
        iterate 4 refine eE rfl ?_
        refine zN hZ ?_
        first | refine Ops.store 0 rfl rfl rfl rfl rfl (T.sizeOk rfl) rfl (lb rfl) rfl rfl ?_ | refine Ops.store 1 rfl rfl rfl rfl rfl (T.sizeOk rfl) rfl (lb rfl) rfl rfl ?_ | refine Ops.store 2 rfl rfl rfl rfl rfl (T.sizeOk rfl) rfl (lb rfl) rfl rfl ?_
        refine Ops.nil ?_
        skip
        refine rP 2 (fun Z hZ => (eE rfl (eE rfl (zN hZ ((Ops.callP (N := [_]) ((utf8_Append _ v2 out y M2 hB (by omega) (by omega))) (.refl _) rfl (by decide) call70 rfl ?_))))))
        rintro w J3 M3 l3 ⟨hB3, rfl⟩
        refine oP rfl (Ops.nil ?_)
        repeat (first | refine rI ?_)
        refine Run.keep [0, 4] [_, _] rfl ?_
        have hel := encR_pos y
        have hsl2 := k1.len
        exact ih s1.length _ _ _ (by simp only [List.length_cons]; omega) ⟨s1, out ++ encR ((y : Nat) : Int), w, M3, rfl, k1.trans hu1, by rw [<- htr]; exact (TR_esc out (by rw [escR_u, he]; rfl)).symm, hB3, by
         simp only [List.length_append, List.length_cons, List.length_nil] at hob ⊢; omega, rfl, rfl, rfl⟩
       by_cases z2 : 57344 <= z
       ·have he : escU u = some (y, s1) := by unfold escU; rw [h4]; simp only; rw [if_pos (by omega), h5]; simp only; rw [h6]; simp only; rw [if_neg (by omega)]
        refine rO (fun Z hZ => (eE rfl (fE ((Ev.geq rfl rfl).as (show _ = Value.bool true from congrArg Value.bool (decide_eq_true (by omega)))) (eE rfl ?_))))
        first | refine eE rfl ?_ | refine oF ?_
        refine fE ((Ev.lss rfl rfl).as (show _ = Value.bool false from congrArg Value.bool (decide_eq_false (by omega)))) (eE rfl (zN hZ ?_))
        repeat (first | refine rF rfl ?_)
        refine rP 4 (fun Z hZ => ?_)
        iterate 4 refine eE rfl ?_
        refine zN hZ ?_
        first | refine Ops.store 0 rfl rfl rfl rfl rfl (T.sizeOk rfl) rfl (lb rfl) rfl rfl ?_ | refine Ops.store 1 rfl rfl rfl rfl rfl (T.sizeOk rfl) rfl (lb rfl) rfl rfl ?_ | refine Ops.store 2 rfl rfl rfl rfl rfl (T.sizeOk rfl) rfl (lb rfl) rfl rfl ?_
        refine Ops.nil ?_
        skip
        refine rP 2 (fun Z hZ => (eE rfl (eE rfl (zN hZ ((Ops.callP (N := [_]) ((utf8_Append _ v2 out y M2 hB (by omega) (by omega))) (.refl _) rfl (by decide) call70 rfl ?_))))))
        rintro w J3 M3 l3 ⟨hB3, rfl⟩
        refine oP rfl (Ops.nil ?_)
        repeat (first | refine rI ?_)
        refine Run.keep [0, 4] [_, _] rfl ?_
        have hel := encR_pos y
        have hsl2 := k1.len
        exact ih s1.length _ _ _ (by simp only [List.length_cons]; omega) ⟨s1, out ++ encR ((y : Nat) : Int), w, M3, rfl, k1.trans hu1, by rw [<- htr]; exact (TR_esc out (by rw [escR_u, he]; rfl)).symm, hB3, by
         simp only [List.length_append, List.length_cons, List.length_nil] at hob ⊢; omega, rfl, rfl, rfl⟩
       have he : escU u = some (65536 + (y - 55296) * 1024 + (z - 56320), s3) := by unfold escU; rw [h4]; simp only; rw [if_pos (by omega), h5]; simp only; rw [h6]; simp only; rw [if_pos (by omega)]
       refine rO (fun Z hZ => (eE rfl (fE ((Ev.geq rfl rfl).as (show _ = Value.bool true from congrArg Value.bool (decide_eq_true (by omega)))) (eE rfl ?_))))
       first | refine eE rfl ?_ | refine oF ?_
       refine fE ((Ev.lss rfl rfl).as (show _ = Value.bool true from congrArg Value.bool (decide_eq_true (by omega)))) (eE rfl (zN hZ ?_))
       repeat (first | refine rT rfl ?_)
       generalize hv : 65536 + (y - 55296) * 1024 + (z - 56320) = vv at he
       have hvv : vv <= 1114111 := by omega
       refine rO (fun Z hZ => (eE rfl (fE (Ev.subK (r := ((y - 55296 : Nat) : Int)) rfl rfl (by rw [wrapI32 (by omega) (by omega)]; omega)) (fE (Ev.shlK (r := (((y - 55296) * 1024 : Nat) : Int)) rfl rfl (by decide) (by decide) (by rw [shl10, wrapI32 (by omega) (by omega)])) (fE (Ev.addK (r := ((65536 + (y - 55296) * 1024 : Nat) : Int)) rfl rfl (by rw [wrapI32 (by omega) (by omega)]; omega)) (eE rfl (fE (Ev.subK (r := ((z - 56320 : Nat) : Int)) rfl rfl (by rw [wrapI32 (by omega) (by omega)]; omega)) (fE (Ev.addK (r := (vv : Int)) rfl rfl (by rw [wrapI32 (by omega) (by omega)]; omega)) (eE rfl (zN hZ ?_))))))))))
       skip
       refine rP 2 (fun Z hZ => (eE rfl (eE rfl (zN hZ ((Ops.callP (N := [_]) ((utf8_Append _ v2 out vv M2 hB (by omega) (by omega))) (.refl _) rfl (by decide) call70 rfl ?_))))))
       rintro w J3 M3 l3 ⟨hB3, rfl⟩
       refine oP rfl (Ops.nil ?_)
       repeat (first | refine rI ?_)
       refine Run.keep [0, 4] [_, _] rfl ?_
       have hel := encR_pos vv
       have hsl2 := k3.len
       exact ih s3.length _ _ _ (by simp only [List.length_cons]; omega) ⟨s3, out ++ encR ((vv : Nat) : Int), w, M3, rfl, k3.trans hu1, by rw [<- htr]; exact (TR_esc out (by rw [escR_u, he]; rfl)).symm, hB3, by
        simp only [List.length_append, List.length_cons, List.length_nil] at hob ⊢; omega, rfl, rfl, rfl⟩
   refine rO (fun Z hZ => (fE ((Ev.eqlI rfl rfl).as (show _ = Value.bool false from congrArg Value.bool (nn 34 34 rfl k1))) (eE rfl (zN hZ ?_))))
   repeat (first | refine rS ?_ | refine rF rfl ?_)
   refine rO (fun Z hZ => (fE ((Ev.eqlI rfl rfl).as (show _ = Value.bool false from congrArg Value.bool (nn 92 92 rfl k2))) (eE rfl (zN hZ ?_))))
   repeat (first | refine rF rfl ?_)
   refine rO (fun Z hZ => (fE ((Ev.eqlI rfl rfl).as (show _ = Value.bool false from congrArg Value.bool (nn 47 47 rfl k3))) (eE rfl (zN hZ ?_))))
   repeat (first | refine rS ?_ | refine rF rfl ?_)
   refine rO (fun Z hZ => (fE ((Ev.eqlI rfl rfl).as (show _ = Value.bool false from congrArg Value.bool (nn 98 98 rfl k4))) (eE rfl (zN hZ ?_))))
   repeat (first | refine rS ?_ | refine rF rfl ?_)
   refine rO (fun Z hZ => (fE ((Ev.eqlI rfl rfl).as (show _ = Value.bool false from congrArg Value.bool (nn 102 102 rfl k5))) (eE rfl (zN hZ ?_))))
   repeat (first | refine rS ?_ | refine rF rfl ?_)
   refine rO (fun Z hZ => (fE ((Ev.eqlI rfl rfl).as (show _ = Value.bool false from congrArg Value.bool (nn 110 110 rfl k6))) (eE rfl (zN hZ ?_))))
   repeat (first | refine rS ?_ | refine rF rfl ?_)
   refine rO (fun Z hZ => (fE ((Ev.eqlI rfl rfl).as (show _ = Value.bool false from congrArg Value.bool (nn 114 114 rfl k7))) (eE rfl (zN hZ ?_))))
   repeat (first | refine rS ?_ | refine rF rfl ?_)
   refine rO (fun Z hZ => (fE ((Ev.eqlI rfl rfl).as (show _ = Value.bool false from congrArg Value.bool (nn 116 116 rfl k8))) (eE rfl (zN hZ ?_))))
   repeat (first | refine rS ?_ | refine rF rfl ?_)
   refine rO (fun Z hZ => (fE ((Ev.eqlI rfl rfl).as (show _ = Value.bool false from congrArg Value.bool (nn 117 117 rfl k9))) (eE rfl (zN hZ ?_))))
   repeat (first | refine rS ?_ | refine rF rfl ?_)
   refine rO (fun Z hZ => (eE rfl (eE rfl (zN hZ ?_))))
   have hx : TR (92 :: f :: u) out = none := by
    unfold TR
    rw [textR_cons, if_neg (by decide), if_neg (by decide), if_pos rfl]
    have : escR f u = none := by
     unfold escR
     rw [if_neg (show ¬ (f = 34 \/ f = 92 \/ f = 47) from fun h => h.elim k1 fun h => h.elim k2 k3), if_neg k4, if_neg k5, if_neg k6, if_neg k7, if_neg k8, if_neg k9]
    simp only [this]
   skip
   refine Run.dropL (L' := [(r, _)]) (List.Sublist.cons_cons _ (List.nil_sublist _)) ?_
   refine Run.ret2 (by rw [hCf]; exact func65) results65 rfl rfl (hR _ _ _ ?_)
   rw [<- htr, hx]
   exact ⟨rfl, _, hlu.1, hlu.2, rfl, rfl⟩
end Go.V
namespace Go.V
open Go.Proofs.Tryz
open Go.RowKit
set_option maxRecDepth 10000
attribute [local irreducible] Run Ops QD
def tJV0 : Ty JV := ⟨5, fun _ _ _ => False, fun h => h.elim, fun h _ => h⟩
def tJVs (t : Ty JV) : Ty JV := ⟨5, fun I cs v => ∃ vk vn, cs = [.int .u8 (v.kind.toNat : Int), .bool v.plain, str v.text, vk, vn] /\ Sl t I vk v.kids /\ Sl tStr I vn v.keys,
 fun ⟨vk, vn, h, _⟩ => by subst h; rfl, fun ⟨vk, vn, h, h1, h2⟩ hle => ⟨vk, vn, h, h1.mono hle, h2.mono hle⟩⟩
def tJV : Nat -> Ty JV
 | 0 => tJV0
 | f + 1 => tJVs (tJV f)
theorem tJV_size : ∀ f, (tJV f).size = 5
 | 0 => rfl
 | _ + 1 => rfl
def RdPost (r : Nat) (w : Value) (xs : Bs) (d f : Nat) (res : Option (JV × Bs)) (x : Value) (J : Imm) (M : Own) : Prop := match res with
 | some (v, t) => ∃ cs : List Value, x = .tuple #[.agg cs.toArray, .bool true] /\ (tJV (f + 1)).rel J cs v /\ M = [(r, rdr w (posR xs t) d)]
 | none => ∃ (cs : List Value) (p d' : Nat), x = .tuple #[.agg cs.toArray, .bool false] /\ cs.length = 5 /\ one cs = true /\ p <= xs.length /\ M = [(r, rdr w p d')]
def ValSpec (f : Nat) : Prop := ∀ (t : Bs) (I : Imm) (xs : Bs) (w : Value) (db off c r d : Nat), UT I -> Rd I w xs db off c -> Sfx t xs -> xs.length <= 137438953472 -> d + f = 10000 ->
 Spec prog 55 [.pointer (some ⟨r, 0, none⟩)] I [(r, rdr w (posR xs t) d)] (RdPost r w xs d f (rdV f t))
theorem list5 {cs : List Value} (h : cs.length = 5) : ∃ a b c d e, cs = [a, b, c, d, e] := by
 match cs, h with
 | [a, b, c, d, e], _ => exact ⟨a, b, c, d, e, rfl⟩
set_option maxHeartbeats 4000000 in
theorem reader_elements (f : Nat) (hV : ∀ g, f = g + 1 -> ValSpec g) (sub : Option (Bs -> Option (JV × Bs))) (hsub : (f = 0 /\ sub = none) \/ ∃ g, f = g + 1 /\ sub = some (rdV g)) (q : UInt8) (t : Bs) (I : Imm) (xs : Bs) (w : Value) (db off c r d : Nat) (hU : UT I) (hR0 : Rd I w xs db off c) (ht : Sfx (q :: t) xs)
  (hl : xs.length <= 137438953472) (hd : d + f = 10000) :
  Spec prog 64 [.pointer (some ⟨r, 0, none⟩)] I [(r, rdr w (posR xs (q :: t)) d)] (RdPost r w xs d f (sub.bind fun v => listR v t)) := by
 have hBl : ∀ (J : Imm) (d : Nat) (s : Bs), Le I J -> Sfx s xs -> _ := fun J d s hle hs => blank_at s J xs w db off c r d (hR0.mono hle) hs (by omega)
 have hWd : ∀ (b : UInt8) (J : Imm) (d : Nat) (s : Bs), Le I J -> Sfx s xs -> _ := fun b J d s hle hs => word_at [b] s J xs w db off c r d (hR0.mono hle) hs (by omega) (by simp) (by simp)
 have hVa : ∀ g (J : Imm) (s : Bs), f = g + 1 -> Le I J -> Sfx s xs -> _ := fun g J s e hle hs => hV g e s J xs w db off c r (d + 1) (hU.mono hle) (hR0.mono hle) hs hl (by omega)
 obtain rfl := hR0.eq
 have hcap := hR0.cap
 obtain ⟨q1, q2, q3⟩ := sfx_getD ht
 have ht1 : Sfx t xs := (Sfx.cons q t).trans ht
 have pl : ∀ s : Bs, posR xs s <= xs.length := fun s => by unfold posR; omega
 refine Spec.enter 69 [(0, _)] func64 rfl ntmps64 (by simp) rfl ?_
 intro C hCf hR hCI
 repeat (first | refine rS ?_)
 refine Run.region (Ops.alloc rfl (by decide) (T.zeroOk rfl) rfl (fun b2 => (oP rfl (Ops.nil ?_))))
 repeat (first | refine rS ?_)
 refine Run.region (oP rfl ?_)
 first | refine Ops.store 0 rfl rfl rfl rfl rfl (T.sizeOk rfl) rfl (lb rfl) rfl rfl ?_ | refine Ops.store 1 rfl rfl rfl rfl rfl (T.sizeOk rfl) rfl (lb rfl) rfl rfl ?_ | refine Ops.store 2 rfl rfl rfl rfl rfl (T.sizeOk rfl) rfl (lb rfl) rfl rfl ?_
 refine Ops.nil ?_
 repeat (first | refine rS ?_)
 refine rP 7 (fun Z hZ => (eE rfl (eE rfl (eE rfl ?_))))
 first | refine gY (Yv.load 0 T rfl rfl rfl rfl) ?_ | refine gY (Yv.load 1 T rfl rfl rfl rfl) ?_ | refine gY (Yv.load 2 T rfl rfl rfl rfl) ?_
 refine fE (Ev.addK (r := (posR xs t : Int)) rfl rfl (by rw [wI (by omega) (by omega), q3]; omega)) (eE rfl (eE rfl (zN hZ ?_)))
 first | refine Ops.store 0 rfl rfl rfl rfl rfl (T.sizeOk rfl) rfl (lb rfl) rfl rfl ?_ | refine Ops.store 1 rfl rfl rfl rfl rfl (T.sizeOk rfl) rfl (lb rfl) rfl rfl ?_ | refine Ops.store 2 rfl rfl rfl rfl rfl (T.sizeOk rfl) rfl (lb rfl) rfl rfl ?_
 refine Ops.nil ?_
 repeat (first | refine rS ?_)
 refine rP 7 (fun Z hZ => (eE rfl (eE rfl (eE rfl ?_))))
 first | refine gY (Yv.load 0 T rfl rfl rfl rfl) ?_ | refine gY (Yv.load 1 T rfl rfl rfl rfl) ?_ | refine gY (Yv.load 2 T rfl rfl rfl rfl) ?_
 refine fE (Ev.addK (r := ((d + 1 : Nat) : Int)) rfl rfl (by rw [wI (by omega) (by omega)]; omega)) (eE rfl (eE rfl (zN hZ ?_)))
 first | refine Ops.store 0 rfl rfl rfl rfl rfl (T.sizeOk rfl) rfl (lb rfl) rfl rfl ?_ | refine Ops.store 1 rfl rfl rfl rfl rfl (T.sizeOk rfl) rfl (lb rfl) rfl rfl ?_ | refine Ops.store 2 rfl rfl rfl rfl rfl (T.sizeOk rfl) rfl (lb rfl) rfl rfl ?_
 refine Ops.nil ?_
 repeat (first | refine rS ?_)
 rcases hsub with ⟨rfl, rfl⟩ | ⟨g, rfl, rfl⟩
 ·skip
  refine rO (fun Z hZ => (eE rfl (eE rfl (eE rfl ?_))))
  first | refine gY (Yv.load 0 T rfl rfl rfl rfl) ?_ | refine gY (Yv.load 1 T rfl rfl rfl rfl) ?_ | refine gY (Yv.load 2 T rfl rfl rfl rfl) ?_
  refine fE ((Ev.gtr rfl rfl).as (show _ = Value.bool true from congrArg Value.bool (decide_eq_true (by omega)))) (zN hZ ?_)
  repeat (first | refine rS ?_ | refine rT rfl ?_)
  refine Run.region ?_
  first | refine Ops.loadN 0 rfl (by decide) rfl rfl (T.aggOk rfl) (T.sizeOk rfl) rfl rfl ?_ | refine Ops.loadN 1 rfl (by decide) rfl rfl (T.aggOk rfl) (T.sizeOk rfl) rfl rfl ?_ | refine Ops.loadN 2 rfl (by decide) rfl rfl (T.aggOk rfl) (T.sizeOk rfl) rfl rfl ?_
  first | refine Ops.store 0 rfl rfl rfl rfl rfl (T.sizeOk rfl) rfl (lb rfl) rfl rfl ?_ | refine Ops.store 1 rfl rfl rfl rfl rfl (T.sizeOk rfl) rfl (lb rfl) rfl rfl ?_ | refine Ops.store 2 rfl rfl rfl rfl rfl (T.sizeOk rfl) rfl (lb rfl) rfl rfl ?_
  refine oP rfl (Ops.nil ?_)
  skip
  refine Run.retCTK T 0 (by rw [hCf]; exact func64) results64 rfl rfl rfl rfl rfl rfl rfl (List.Sublist.cons _ (List.Sublist.cons_cons _ (List.nil_sublist _))) (hR _ _ _ ?_)
  show RdPost _ _ _ _ _ (none) _ _ _
  rw [(rfl : (none : Option (JV × Bs)) = none)]
  exact ⟨_, _, _, rfl, rfl, rfl, pl _, rfl⟩
 refine rO (fun Z hZ => (eE rfl (eE rfl (eE rfl ?_))))
 first | refine gY (Yv.load 0 T rfl rfl rfl rfl) ?_ | refine gY (Yv.load 1 T rfl rfl rfl rfl) ?_ | refine gY (Yv.load 2 T rfl rfl rfl rfl) ?_
 refine fE ((Ev.gtr rfl rfl).as (show _ = Value.bool false from congrArg Value.bool (decide_eq_false (by omega)))) (zN hZ ?_)
 repeat (first | refine rS ?_ | refine rK ?_ | refine rF rfl ?_)
 refine rP 1 (fun Z hZ => (eE rfl (zN hZ ((Ops.callP (N := [_]) ((hBl _ _ _ (Le.refl _) ht1)) (.refl _) rfl (by decide) call56 rfl ?_)))))
 rintro x J1 M1 l1 ⟨rfl, rfl⟩
 refine Ops.nil ?_
 have hs1 : Sfx (skipB t) xs := (skip_sfx t).trans ht1
 repeat (first | refine rS ?_)
 refine rP 1 (fun Z hZ => (eE rfl (zN hZ ?_)))
 cases hw : wordR [93] (skipB t) with
 | some s2 =>
  have hW1 := hWd 93 J1 (d + 1) (skipB t) (Le.refl _) hs1
  rw [hw] at hW1
  refine Ops.callP (N := [_]) (hW1) (.refl _) rfl (by decide) call66 rfl ?_
  rintro x J2 M2 l2 ⟨rfl, rfl, rfl⟩
  refine Ops.nil ?_
  repeat (first | refine rS ?_ | refine rT rfl ?_)
  refine rP 7 (fun Z hZ => (eE rfl (eE rfl (eE rfl ?_))))
  first | refine gY (Yv.load 0 T rfl rfl rfl rfl) ?_ | refine gY (Yv.load 1 T rfl rfl rfl rfl) ?_ | refine gY (Yv.load 2 T rfl rfl rfl rfl) ?_
  refine fE (Ev.subK (r := (d : Int)) rfl rfl (by rw [wI (by omega) (by omega)]; omega)) (eE rfl (eE rfl (zN hZ ?_)))
  first | refine Ops.store 0 rfl rfl rfl rfl rfl (T.sizeOk rfl) rfl (lb rfl) rfl rfl ?_ | refine Ops.store 1 rfl rfl rfl rfl rfl (T.sizeOk rfl) rfl (lb rfl) rfl rfl ?_ | refine Ops.store 2 rfl rfl rfl rfl rfl (T.sizeOk rfl) rfl (lb rfl) rfl rfl ?_
  refine Ops.nil ?_
  repeat (first | refine rS ?_)
  refine Run.region ?_
  first | refine Ops.loadN 0 rfl (by decide) rfl rfl (T.aggOk rfl) (T.sizeOk rfl) rfl rfl ?_ | refine Ops.loadN 1 rfl (by decide) rfl rfl (T.aggOk rfl) (T.sizeOk rfl) rfl rfl ?_ | refine Ops.loadN 2 rfl (by decide) rfl rfl (T.aggOk rfl) (T.sizeOk rfl) rfl rfl ?_
  first | refine Ops.store 0 rfl rfl rfl rfl rfl (T.sizeOk rfl) rfl (lb rfl) rfl rfl ?_ | refine Ops.store 1 rfl rfl rfl rfl rfl (T.sizeOk rfl) rfl (lb rfl) rfl rfl ?_ | refine Ops.store 2 rfl rfl rfl rfl rfl (T.sizeOk rfl) rfl (lb rfl) rfl rfl ?_
  refine oP rfl (Ops.nil ?_)
  skip
  refine Run.retCTK T 0 (by rw [hCf]; exact func64) results64 rfl rfl rfl rfl rfl rfl rfl (List.Sublist.cons _ (List.Sublist.cons_cons _ (List.nil_sublist _))) (hR _ _ _ ?_)
  show RdPost _ _ _ _ _ (listR (rdV g) t) _ _ _
  have e : listR (rdV g) t = some (.mk 91 false [] [] [], s2) := by unfold listR; rw [hw]
  rw [e]
  exact ⟨_, rfl, ⟨_, _, rfl, Sl.nil _ _, Sl.nil _ _⟩, rfl⟩
 | none =>
  have hW1 := hWd 93 J1 (d + 1) (skipB t) (Le.refl _) hs1
  rw [hw] at hW1
  refine Ops.callP (N := [_]) (hW1) (.refl _) rfl (by decide) call66 rfl ?_
  rintro x J2 M2 l2 ⟨rfl, rfl, rfl⟩
  refine Ops.nil ?_
  have hL : listR (rdV g) t = (elemsR (rdV g) (t.length + 1) (skipB t) []).map fun p => (.mk 91 false [] p.1 [], p.2) := by unfold listR; rw [hw]
  generalize hR' : elemsR (rdV g) (t.length + 1) (skipB t) [] = res at hL
  have hskl := (skip_sfx t).len
  repeat (first | refine rK ?_ | refine rB ?_ | refine rF rfl ?_)
  refine Run.keep [0, 2] [_, _] rfl ?_
  refine Run.rounds (fun m env L J => ∃ (n : Nat) (s : Bs) (acc : List JV) (vv : Value) (M1 : Own), m = s.length /\ Sfx s t /\ elemsR (rdV g) n s acc = res /\ s.length < n /\ acc.length + s.length <= t.length /\ Gr (tJV (g + 1)) J 129 vv acc M1 /\
   env = [(0, .pointer (some ⟨r, 0, none⟩)), (2, .pointer (some ⟨b2, 0, none⟩))] /\ L = (b2, blk [.int .u8 91, .bool false, str [], vv, .slice none 0 0] 129) :: (r, rdr (.slice (some ⟨db, off, none⟩) xs.length c) (posR xs s) (d + 1)) :: M1 /\ Le J2 J) (skipB t).length
   ⟨t.length + 1, skipB t, [], _, [], rfl, skip_sfx t, hR', by omega, by simp only [List.length_nil]; omega, Gr.nil _ _ _, rfl, rfl, Le.refl _⟩ ?_
  rintro m env L J ⟨n, s, acc, vv, M1, rfl, hs, hE, hn, hal, hG, rfl, rfl, hle⟩ ih
  obtain ⟨n, rfl⟩ : ∃ n', n = n' + 1 := ⟨n - 1, by omega⟩
  have hsx := hs.trans ht1
  have htl := ht1.len
  rw [elemsR] at hE
  repeat (first | refine rS ?_ | refine rB ?_)
  refine rP 1 (fun Z hZ => (eE rfl (zN hZ ?_)))
  cases hv : rdV g s with
  | none =>
   have hV1 := hVa g J s rfl hle hsx
   rw [hv] at hV1 hE
   refine Ops.callM (M := [_]) (N := _ :: _) (hV1) (List.Perm.swap _ _ _) rfl (by decide) call55 rfl ?_
   rintro x J3 M3 l3 ⟨cs, p, d', rfl, h5, h6, hp, rfl⟩
   refine Ops.perm (List.Perm.swap _ _ _) ?_
   obtain ⟨c1, c2, c3, c4, c5, rfl⟩ := list5 h5
   iterate 3 refine oP rfl ?_
   refine Ops.alloc rfl (by decide) (T.zeroOk rfl) rfl (fun b4 => (Ops.store 0 rfl rfl rfl rfl rfl (T.sizeOk rfl) rfl (lb rfl) h6 rfl (oP rfl (Ops.nil ?_))))
   repeat (first | refine rS ?_)
   refine rO (fun Z hZ => (eE rfl (eE rfl (zN hZ ?_))))
   repeat (first | refine rS ?_ | refine rT rfl ?_)
   refine Run.dropL (L' := [(b2, _), (r, _)]) (List.Sublist.cons _ (List.Sublist.cons_cons _ (List.Sublist.cons_cons _ (List.nil_sublist _)))) ?_
   obtain ⟨A1, z1, rfl⟩ := hG.isSl
   skip
   refine Run.region ?_
   first | refine Ops.loadN 0 rfl (by decide) rfl rfl (T.aggOk rfl) (T.sizeOk rfl) rfl rfl ?_ | refine Ops.loadN 1 rfl (by decide) rfl rfl (T.aggOk rfl) (T.sizeOk rfl) rfl rfl ?_ | refine Ops.loadN 2 rfl (by decide) rfl rfl (T.aggOk rfl) (T.sizeOk rfl) rfl rfl ?_
   first | refine Ops.store 0 rfl rfl rfl rfl rfl (T.sizeOk rfl) rfl (lb rfl) rfl rfl ?_ | refine Ops.store 1 rfl rfl rfl rfl rfl (T.sizeOk rfl) rfl (lb rfl) rfl rfl ?_ | refine Ops.store 2 rfl rfl rfl rfl rfl (T.sizeOk rfl) rfl (lb rfl) rfl rfl ?_
   refine oP rfl (Ops.nil ?_)
   skip
   refine Run.retCTK T 0 (by rw [hCf]; exact func64) results64 rfl rfl rfl rfl rfl rfl rfl (List.Sublist.cons _ (List.Sublist.cons_cons _ (List.nil_sublist _))) (hR _ _ _ ?_)
   show RdPost _ _ _ _ _ (listR (rdV g) t) _ _ _
   rw [hL, <- hE]
   exact ⟨_, _, _, rfl, rfl, rfl, hp, rfl⟩
  | some pr =>
   obtain ⟨v1, s1⟩ := pr
   obtain ⟨k1, k2⟩ := rdV_fwd g hv
   have hV1 := hVa g J s rfl hle hsx
   rw [hv] at hV1 hE
   refine Ops.callM (M := [_]) (N := _ :: _) (hV1) (List.Perm.swap _ _ _) rfl (by decide) call55 rfl ?_
   rintro x J3 M3 l3 ⟨cs, rfl, hrel, rfl⟩
   refine Ops.perm (List.Perm.swap _ _ _) ?_
   obtain ⟨vk, vn, rfl, hk, hn'⟩ := id hrel
   obtain ⟨A2, z2, rfl⟩ := hk.isSl
   obtain ⟨A3, z3, rfl⟩ := hn'.isSl
   obtain ⟨A1, z1, rfl⟩ := hG.isSl
   skip
   iterate 3 refine oP rfl ?_
   refine Ops.alloc rfl (by decide) (T.zeroOk rfl) rfl (fun b4 => ?_)
   first | refine Ops.store 0 rfl rfl rfl rfl rfl (T.sizeOk rfl) rfl (lb rfl) rfl rfl ?_ | refine Ops.store 1 rfl rfl rfl rfl rfl (T.sizeOk rfl) rfl (lb rfl) rfl rfl ?_ | refine Ops.store 2 rfl rfl rfl rfl rfl (T.sizeOk rfl) rfl (lb rfl) rfl rfl ?_
   refine oP rfl (Ops.nil ?_)
   repeat (first | refine rS ?_)
   refine rO (fun Z hZ => (eE rfl (eE rfl (zN hZ ?_))))
   repeat (first | refine rS ?_ | refine rK ?_ | refine rF rfl ?_)
   refine rP 3 (fun Z hZ => (eE rfl ?_))
   first | refine gY (Yv.load 0 T rfl rfl rfl rfl) ?_ | refine gY (Yv.load 1 T rfl rfl rfl rfl) ?_ | refine gY (Yv.load 2 T rfl rfl rfl rfl) ?_
   first | refine gY (Yv.loadN 0 T rfl rfl rfl rfl rfl rfl) ?_ | refine gY (Yv.loadN 1 T rfl rfl rfl rfl rfl rfl) ?_ | refine gY (Yv.loadN 2 T rfl rfl rfl rfl rfl rfl) ?_
   refine zN hZ ((Ops.lit T rfl rfl rfl (by decide) rfl (by decide) (by decide) rfl rfl rfl rfl rfl (fun bq => (Ops.appOne (N := [_, _, _]) el127 (hG.mono l3) hrel rfl (by decide) rfl rfl rfl rfl (by omega) (by omega) ?_))))
   rintro vv2 M4 hG2
   obtain ⟨A4, z4, rfl⟩ := hG2.isSl
   refine oP rfl ?_
   first | refine Ops.store 0 rfl rfl rfl rfl rfl (T.sizeOk rfl) rfl (lb rfl) rfl rfl ?_ | refine Ops.store 1 rfl rfl rfl rfl rfl (T.sizeOk rfl) rfl (lb rfl) rfl rfl ?_ | refine Ops.store 2 rfl rfl rfl rfl rfl (T.sizeOk rfl) rfl (lb rfl) rfl rfl ?_
   refine Ops.nil (Run.dropL (List.sublist_cons_self _ _) ?_)
   repeat (first | refine rS ?_)
   refine rP 1 (fun Z hZ => (eE rfl (zN hZ ?_)))
   have hle3 := hle.trans l3
   have hs1x := k1.trans hsx
   refine Ops.callM (M := [_]) (N := _ :: _) ((hBl J3 (d + 1) s1 (by assumption) hs1x)) (List.Perm.swap _ _ _) rfl (by decide) call56 rfl ?_
   rintro x J4 M5 l4 ⟨rfl, rfl⟩
   refine Ops.perm (List.Perm.swap _ _ _) (Ops.nil ?_)
   have ks := skip_sfx s1
   have hsk := ks.trans hs1x
   repeat (first | refine rS ?_)
   refine rP 1 (fun Z hZ => (eE rfl (zN hZ ?_)))
   simp only at hE
   cases hw2 : wordR [93] (skipB s1) with
   | some s2 =>
    obtain ⟨_, hw3⟩ := word_sfx hw2
    have hW2 := hWd 93 J4 (d + 1) (skipB s1) (by assumption) hsk
    rw [hw2] at hW2
    refine Ops.callM (M := [_]) (N := _ :: _) (hW2) (List.Perm.swap _ _ _) rfl (by decide) call66 rfl ?_
    rintro x J5 M5 l5 ⟨rfl, rfl, rfl⟩
    refine Ops.perm (List.Perm.swap _ _ _) (Ops.nil ?_)
    rw [hw3] at hE
    simp only [List.cons_append, List.nil_append, if_true] at hE
    repeat (first | refine rS ?_ | refine rT rfl ?_)
    refine rP 7 (fun Z hZ => (eE rfl (eE rfl (eE rfl ?_))))
    first | refine gY (Yv.load 0 T rfl rfl rfl rfl) ?_ | refine gY (Yv.load 1 T rfl rfl rfl rfl) ?_ | refine gY (Yv.load 2 T rfl rfl rfl rfl) ?_
    refine fE (Ev.subK (r := (d : Int)) rfl rfl (by rw [wI (by omega) (by omega)]; omega)) (eE rfl (eE rfl (zN hZ ?_)))
    first | refine Ops.store 0 rfl rfl rfl rfl rfl (T.sizeOk rfl) rfl (lb rfl) rfl rfl ?_ | refine Ops.store 1 rfl rfl rfl rfl rfl (T.sizeOk rfl) rfl (lb rfl) rfl rfl ?_ | refine Ops.store 2 rfl rfl rfl rfl rfl (T.sizeOk rfl) rfl (lb rfl) rfl rfl ?_
    refine Ops.nil ?_
    repeat (first | refine rS ?_)
    refine Run.region ?_
    first | refine Ops.loadN 0 rfl (by decide) rfl rfl (T.aggOk rfl) (T.sizeOk rfl) rfl rfl ?_ | refine Ops.loadN 1 rfl (by decide) rfl rfl (T.aggOk rfl) (T.sizeOk rfl) rfl rfl ?_ | refine Ops.loadN 2 rfl (by decide) rfl rfl (T.aggOk rfl) (T.sizeOk rfl) rfl rfl ?_
    first | refine Ops.store 0 rfl rfl rfl rfl rfl (T.sizeOk rfl) rfl (lb rfl) rfl rfl ?_ | refine Ops.store 1 rfl rfl rfl rfl rfl (T.sizeOk rfl) rfl (lb rfl) rfl rfl ?_ | refine Ops.store 2 rfl rfl rfl rfl rfl (T.sizeOk rfl) rfl (lb rfl) rfl rfl ?_
    refine oP rfl (Ops.nil ?_)
    skip
    refine Run.keepGr (M := M4) (N := [(b2, _), (r, _)]) hG2 (List.perm_append_comm (l₁ := [_, _]) (l₂ := M4)) fun J6 l6 hS => ?_
    refine Run.retCTK T 0 (by rw [hCf]; exact func64) results64 rfl rfl rfl rfl rfl rfl rfl (List.Sublist.cons _ (List.Sublist.cons_cons _ (List.nil_sublist _))) (hR _ _ _ ?_)
    show RdPost _ _ _ _ _ (listR (rdV g) t) _ _ _
    rw [hL, <- hE]
    exact ⟨_, rfl, ⟨_, _, rfl, hS, Sl.nil _ _⟩, rfl⟩
   | none =>
    have hW2 := hWd 93 J4 (d + 1) (skipB s1) (by assumption) hsk
    rw [hw2] at hW2
    refine Ops.callM (M := [_]) (N := _ :: _) (hW2) (List.Perm.swap _ _ _) rfl (by decide) call66 rfl ?_
    rintro x J5 M5 l5 ⟨rfl, rfl, rfl⟩
    refine Ops.perm (List.Perm.swap _ _ _) (Ops.nil ?_)
    repeat (first | refine rS ?_ | refine rK ?_ | refine rF rfl ?_)
    refine rP 1 (fun Z hZ => (eE rfl (zN hZ ?_)))
    cases hw3 : wordR [44] (skipB s1) with
    | some s2 =>
     obtain ⟨hq1, hq2⟩ := word_sfx hw3
     have hW3 := hWd 44 J5 (d + 1) (skipB s1) (by assumption) hsk
     rw [hw3] at hW3
     refine Ops.callM (M := [_]) (N := _ :: _) (hW3) (List.Perm.swap _ _ _) rfl (by decide) call66 rfl ?_
     rintro x J6 M5 l6 ⟨rfl, rfl, rfl⟩
     refine Ops.perm (List.Perm.swap _ _ _) (oP rfl (Ops.nil ?_))
     rw [hq2] at hE
     simp only [List.cons_append, List.nil_append, if_true, show ¬ ((44 : UInt8) = 93) by decide, if_false] at hE
     repeat (first | refine rK ?_ | refine rI ?_ | refine rF rfl ?_)
     refine Run.keep [0, 2] [_, _] rfl ?_
     have hll := congrArg List.length hq2
     have hkl := ks.len
     simp only [List.cons_append, List.nil_append, List.length_cons] at hll
     exact ih s2.length _ _ _ (by omega) ⟨n, s2, acc ++ [v1], _, M4, rfl, ((hq1.trans ks).trans k1).trans hs, hE, by omega, by simp only [List.length_append, List.length_cons, List.length_nil]; omega, hG2, rfl, rfl, by assumption⟩
    | none =>
     have hW3 := hWd 44 J5 (d + 1) (skipB s1) (by assumption) hsk
     rw [hw3] at hW3
     refine Ops.callM (M := [_]) (N := _ :: _) (hW3) (List.Perm.swap _ _ _) rfl (by decide) call66 rfl ?_
     rintro x J6 M5 l6 ⟨rfl, rfl, rfl⟩
     refine Ops.perm (List.Perm.swap _ _ _) ?_
     skip
     refine oP rfl (Ops.nil ?_)
     have hE2 : none = res := by
      rw [<- hE]
      cases hsk1 : skipB s1 with
      | nil => rfl
      | cons e u =>
       rw [hsk1] at hw2 hw3
       have n1 : e ≠ 93 := fun h => by rw [h, word1] at hw2; cases hw2
       have n2 : e ≠ 44 := fun h => by rw [h, word1] at hw3; cases hw3
       simp only [if_neg n1, if_neg n2]
     repeat (first | refine rS ?_ | refine rT rfl ?_)
     refine Run.dropL (L' := [(b2, _), (r, _)]) (List.Sublist.cons_cons _ (List.Sublist.cons_cons _ (List.nil_sublist _))) ?_
     skip
     refine Run.region ?_
     first | refine Ops.loadN 0 rfl (by decide) rfl rfl (T.aggOk rfl) (T.sizeOk rfl) rfl rfl ?_ | refine Ops.loadN 1 rfl (by decide) rfl rfl (T.aggOk rfl) (T.sizeOk rfl) rfl rfl ?_ | refine Ops.loadN 2 rfl (by decide) rfl rfl (T.aggOk rfl) (T.sizeOk rfl) rfl rfl ?_
     first | refine Ops.store 0 rfl rfl rfl rfl rfl (T.sizeOk rfl) rfl (lb rfl) rfl rfl ?_ | refine Ops.store 1 rfl rfl rfl rfl rfl (T.sizeOk rfl) rfl (lb rfl) rfl rfl ?_ | refine Ops.store 2 rfl rfl rfl rfl rfl (T.sizeOk rfl) rfl (lb rfl) rfl rfl ?_
     refine oP rfl (Ops.nil ?_)
     skip
     refine Run.retCTK T 0 (by rw [hCf]; exact func64) results64 rfl rfl rfl rfl rfl rfl rfl (List.Sublist.cons _ (List.Sublist.cons_cons _ (List.nil_sublist _))) (hR _ _ _ ?_)
     show RdPost _ _ _ _ _ (listR (rdV g) t) _ _ _
     rw [hL, <- hE2]
     exact ⟨_, _, _, rfl, rfl, rfl, pl _, rfl⟩
end Go.V
