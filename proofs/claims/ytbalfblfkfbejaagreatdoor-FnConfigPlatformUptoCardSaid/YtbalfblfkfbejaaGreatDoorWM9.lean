import Derived.Test.YtbalfblfkfbejaaGreatDoorWM8
import Derived.Test.YtbalfblfkfbejaaGreatDoorWM4
namespace Go.V
open Go.Proofs.Tryz
open Go.RowKit
set_option linter.unusedVariables false
set_option linter.unusedSimpArgs false
set_option maxRecDepth 10000
attribute [local irreducible] Run Ops QD
theorem runeAt_le {s : Bs} (hs : s ≠ []) : (runeAt s 0).2 ≤ s.length ∧ (runeAt s 0).1 ≤ 1114111 := by
  have hl := List.length_pos_iff.2 hs
  by_cases h : (runeAt s 0).1 = 65533 ∧ (runeAt s 0).2 = 1
  · rw [h.1, h.2]; omega
  · obtain ⟨g, e⟩ := dec_good hs h
    have e2 := runeAt_enc g (s.drop (runeAt s 0).2)
    rw [← e] at e2
    have e3 := congrArg Prod.snd e2
    simp only at e3
    have e4 := congrArg List.length e
    rw [List.length_append, List.length_drop] at e4
    unfold goodR at g
    omega
theorem shl10 (y : Nat) : ((y : Nat) : Int) * 2 ^ (10 : Int).toNat = ((y * 1024 : Nat) : Int) := by
  show ((y : Nat) : Int) * 1024 = _
  omega
set_option maxHeartbeats 4000000 in
theorem reader_text (q : UInt8) (t : Bs) (I : Imm) (hU : UT I) (xs : Bs) (v : Value) (db off c r d : Nat) (hR0 : Rd I v xs db off c) (ht : Sfx (q :: t) xs) (hl : xs.length ≤ 137438953472) :
    Spec prog 141 [.pointer (some ⟨r, 0, none⟩)] I [(r, rdr v (posR xs (q :: t)) d)] fun x J M => J = I ∧ match strR t with
      | some (s, t') => x = .tuple #[str s, .bool true] ∧ M = [(r, rdr v (posR xs t') d)]
      | none => ∃ p, posR xs (q :: t) ≤ p ∧ p ≤ xs.length ∧ x = .tuple #[str [], .bool false] ∧ M = [(r, rdr v p d)] := by
  have hUn : ∀ s : Bs, Sfx s xs → _ := fun s hs => reader_unit s I xs v db off c r d hR0 hs (by omega)
  have hWd : ∀ s : Bs, Sfx s xs → _ := fun s hs => word_at [92, 117] s I xs v db off c r d hR0 hs (by omega) (by decide) (by decide)
  obtain rfl := hR0.eq
  have hcap := hR0.cap
  have htl := ht.len
  obtain ⟨q1, q2, q3⟩ := sfx_getD ht
  have ht1 : Sfx t xs := (Sfx.cons q t).trans ht
  have le : ∀ {a : Bs}, Sfx a t → posR xs (q :: t) ≤ posR xs a ∧ posR xs a ≤ xs.length := fun h => by
    have h1 := h.len
    simp only [List.length_cons] at htl q3
    unfold posR at q3 ⊢
    simp only [List.length_cons] at q3 ⊢
    omega
  refine Spec.enter 198 [(0, _)] func141 rfl ntmps141 (by simp) rfl ?_
  intro C hCf hR hCI
  repeat (first | refine Run.seq ?_)
  refine Run.regionO (D := [some 2, some 3]) [true, true] rfl rfl rfl (fun Z hZ => ?_)
  refine QD.ev T (by decide) rfl rfl ?_
  refine QD.ev T (by decide) rfl rfl ?_
  refine QD.nil (hZ _ ?_)
  clear hZ Z
  repeat (first | refine Run.seq ?_)
  refine Run.regionP (D := [some 13, some 14, some 15, some 16, some 17, some 18, some 19, none]) [true, true, true, true, true, true, true] 7 rfl rfl rfl (by simp only [List.drop_succ_cons, List.drop_zero]; rfl) (fun Z hZ => ?_)
  refine QD.ev T (by decide) rfl rfl ?_
  refine QD.ev T (by decide) rfl rfl ?_
  refine QD.ev T (by decide) rfl rfl ?_
  first | refine QD.yv (by decide) rfl (Yv.load 0 T rfl rfl rfl rfl) ?_ | refine QD.yv (by decide) rfl (Yv.load 1 T rfl rfl rfl rfl) ?_ | refine QD.yv (by decide) rfl (Yv.load 2 T rfl rfl rfl rfl) ?_
  refine QD.e (Ev.addK (r := (posR xs t : Int)) rfl rfl (by rw [wI (by omega) (by omega), q3]; omega)) (by decide) rfl ?_
  refine QD.ev T (by decide) rfl rfl ?_
  refine QD.ev T (by decide) rfl rfl ?_
  refine QD.nil (hZ _ ?_)
  clear hZ Z
  first | refine Ops.store 0 rfl rfl rfl rfl rfl (T.sizeOk rfl) rfl (Nat.le_of_ble_eq_true rfl) rfl rfl ?_ | refine Ops.store 1 rfl rfl rfl rfl rfl (T.sizeOk rfl) rfl (Nat.le_of_ble_eq_true rfl) rfl rfl ?_ | refine Ops.store 2 rfl rfl rfl rfl rfl (T.sizeOk rfl) rfl (Nat.le_of_ble_eq_true rfl) rfl rfl ?_
  refine Ops.nil ?_
  repeat (first | refine Run.seq ?_)
  refine Run.regionO (D := [some 4]) [true] rfl rfl rfl (fun Z hZ => ?_)
  refine QD.ev T (by decide) rfl rfl ?_
  refine QD.nil (hZ _ ?_)
  clear hZ Z
  repeat (first | refine Run.seq ?_ | refine Run.block ?_)
  refine Run.keep [0, 4] [_, _] rfl ?_
  refine Run.rounds (fun m env L J => ∃ (s out : Bs) (v2 : Value) (M2 : Own), m = s.length ∧ Sfx s t ∧ TR s out = strR t ∧ Buf 5 v2 out M2 ∧ out.length + 4 * s.length ≤ 4 * t.length ∧
    env = [(0, .pointer (some ⟨r, 0, none⟩)), (4, v2)] ∧ L = (r, rdr (.slice (some ⟨db, off, none⟩) xs.length c) (posR xs s) d) :: M2 ∧ J = I) t.length ⟨t, [], _, [], rfl, Sfx.refl _, rfl, Buf.nil _, by simp, rfl, rfl, rfl⟩ ?_
  rintro m env L J ⟨s, out, v2, M2, rfl, hs, htr, hB, hob, rfl, rfl, rfl⟩ ih
  have hob2 : out.length ≤ 549755813888 := by simp only [List.length_cons] at htl; omega
  have hsx := hs.trans ht1
  have hlt := le hs
  cases s with
  | nil =>
    repeat (first | refine Run.seq ?_)
    refine Run.regionQ (D := [some 20, some 21, some 22, some 23, some 24, some 25, some 26, some 27, some 28, some 29]) [true, true, true, true, true, true, true, true, true, true] (bl 10 1023) (by kernel_rfl) (by kernel_rfl) (by kernel_rfl) (by kernel_rfl) rfl (fun Z hZ => ?_)
    refine QD.ev T (by decide) rfl rfl ?_
    refine QD.ev T (by decide) rfl rfl ?_
    refine QD.ev T (by decide) rfl rfl ?_
    first | refine QD.yv (by decide) rfl (Yv.load 0 T rfl rfl rfl rfl) ?_ | refine QD.yv (by decide) rfl (Yv.load 1 T rfl rfl rfl rfl) ?_ | refine QD.yv (by decide) rfl (Yv.load 2 T rfl rfl rfl rfl) ?_
    refine QD.ev T (by decide) rfl rfl ?_
    refine QD.ev T (by decide) rfl rfl ?_
    refine QD.ev T (by decide) rfl rfl ?_
    first | refine QD.yv (by decide) rfl (Yv.load 0 T rfl rfl rfl rfl) ?_ | refine QD.yv (by decide) rfl (Yv.load 1 T rfl rfl rfl rfl) ?_ | refine QD.yv (by decide) rfl (Yv.load 2 T rfl rfl rfl rfl) ?_
    refine QD.ev T (by decide) rfl rfl ?_
    refine QD.e ((Ev.lss rfl rfl).as (show _ = Value.bool false from congrArg Value.bool (decide_eq_false (by simp [posR])))) (by decide) rfl ?_
    refine QD.nil (hZ _ ?_)
    clear hZ Z
    repeat (first | refine Run.seq ?_ | refine Run.exit rfl ?_ | refine Run.cond_f rfl ?_)
    refine Run.regionO (D := [some 2, some 3]) [true, true] rfl rfl rfl (fun Z hZ => ?_)
    refine QD.ev T (by decide) rfl rfl ?_
    refine QD.ev T (by decide) rfl rfl ?_
    refine QD.nil (hZ _ ?_)
    clear hZ Z
    skip
    refine Run.dropL (L' := [(r, _)]) (List.Sublist.cons_cons _ (List.nil_sublist _)) ?_
    refine Run.ret2 (by rw [hCf]; exact func141) results141 rfl rfl (hR _ _ _ ?_)
    rw [← htr, show TR ([] : Bs) out = none from rfl]
    exact ⟨rfl, _, hlt.1, hlt.2, rfl, rfl⟩
  | cons e s =>
    obtain ⟨g1, g2, g3⟩ := sfx_getD hsx
    have hA := hR0.at' _ g1
    rw [g2] at hA
    have hsl := hsx.len
    simp only [List.length_cons] at htl hsl
    have hsx1 : Sfx s xs := (Sfx.cons e s).trans hsx
    have hst1 : Sfx s t := (Sfx.cons e s).trans hs
    have hcut := hR0.cut (p := posR xs (e :: s)) (q := xs.length) (by omega) (Nat.le_refl _) (by omega)
    rw [List.take_length, (sfx_drop (s := []) hsx).1] at hcut
    repeat (first | refine Run.seq ?_)
    refine Run.regionQ (D := [some 20, some 21, some 22, some 23, some 24, some 25, some 26, some 27, some 28, some 29]) [true, true, true, true, true, true, true, true, true, true] (bl 10 1023) (by kernel_rfl) (by kernel_rfl) (by kernel_rfl) (by kernel_rfl) rfl (fun Z hZ => ?_)
    refine QD.ev T (by decide) rfl rfl ?_
    refine QD.ev T (by decide) rfl rfl ?_
    refine QD.ev T (by decide) rfl rfl ?_
    first | refine QD.yv (by decide) rfl (Yv.load 0 T rfl rfl rfl rfl) ?_ | refine QD.yv (by decide) rfl (Yv.load 1 T rfl rfl rfl rfl) ?_ | refine QD.yv (by decide) rfl (Yv.load 2 T rfl rfl rfl rfl) ?_
    refine QD.ev T (by decide) rfl rfl ?_
    refine QD.ev T (by decide) rfl rfl ?_
    refine QD.ev T (by decide) rfl rfl ?_
    first | refine QD.yv (by decide) rfl (Yv.load 0 T rfl rfl rfl rfl) ?_ | refine QD.yv (by decide) rfl (Yv.load 1 T rfl rfl rfl rfl) ?_ | refine QD.yv (by decide) rfl (Yv.load 2 T rfl rfl rfl rfl) ?_
    refine QD.ev T (by decide) rfl rfl ?_
    refine QD.e ((Ev.lss rfl rfl).as (show _ = Value.bool true from congrArg Value.bool (decide_eq_true (by omega)))) (by decide) rfl ?_
    refine QD.nil (hZ _ ?_)
    clear hZ Z
    repeat (first | refine Run.seq ?_ | refine Run.skip ?_ | refine Run.block ?_ | refine Run.cond_t rfl ?_)
    generalize hp : posR xs (e :: s) = p at *
    refine Run.regionQ (D := [some 30, some 31, some 32, some 33, some 34, some 35, some 36, some 37, some 38, some 39, some 5]) [true, true, true, true, true, true, true, true, true, true, true] (bl 11 2047) (by kernel_rfl) (by kernel_rfl) (by kernel_rfl) (by kernel_rfl) rfl (fun Z hZ => ?_)
    refine QD.ev T (by decide) rfl rfl ?_
    refine QD.ev T (by decide) rfl rfl ?_
    refine QD.ev T (by decide) rfl rfl ?_
    first | refine QD.yv (by decide) rfl (Yv.load 0 T rfl rfl rfl rfl) ?_ | refine QD.yv (by decide) rfl (Yv.load 1 T rfl rfl rfl rfl) ?_ | refine QD.yv (by decide) rfl (Yv.load 2 T rfl rfl rfl rfl) ?_ | refine QD.yv (by decide) rfl (Yv.loadI T hA rfl rfl) ?_
    refine QD.ev T (by decide) rfl rfl ?_
    refine QD.ev T (by decide) rfl rfl ?_
    refine QD.ev T (by decide) rfl rfl ?_
    first | refine QD.yv (by decide) rfl (Yv.load 0 T rfl rfl rfl rfl) ?_ | refine QD.yv (by decide) rfl (Yv.load 1 T rfl rfl rfl rfl) ?_ | refine QD.yv (by decide) rfl (Yv.load 2 T rfl rfl rfl rfl) ?_ | refine QD.yv (by decide) rfl (Yv.loadI T hA rfl rfl) ?_
    refine QD.e (Ev.indexS T rfl rfl rfl rfl (by first | omega | (simp only [List.length_cons, List.length_nil] ; omega) | (simp; omega)) (by first | omega | (simp only [List.length_cons, List.length_nil] ; omega) | (simp; omega))) (by decide) rfl ?_
    first | refine QD.yv (by decide) rfl (Yv.load 0 T rfl rfl rfl rfl) ?_ | refine QD.yv (by decide) rfl (Yv.load 1 T rfl rfl rfl rfl) ?_ | refine QD.yv (by decide) rfl (Yv.load 2 T rfl rfl rfl rfl) ?_ | refine QD.yv (by decide) rfl (Yv.loadI T hA rfl rfl) ?_
    refine QD.ev T (by decide) rfl rfl ?_
    refine QD.nil (hZ _ ?_)
    clear hZ Z
    repeat (first | refine Run.seq ?_ | refine Run.block ?_)
    by_cases e1 : e = 34
    · subst e1
      refine Run.regionO (D := [some 41, some 42, some 40]) [true, true, true] rfl rfl rfl (fun Z hZ => ?_)
      refine QD.ev T (by decide) rfl rfl ?_
      refine QD.e (Ev.eqlI rfl rfl) (by decide) rfl ?_
      refine QD.ev T (by decide) rfl rfl ?_
      refine QD.nil (hZ _ ?_)
      clear hZ Z
      repeat (first | refine Run.seq ?_ | refine Run.cond_t rfl ?_)
      refine Run.regionP (D := [some 43, some 44, some 45, some 46, some 47, some 48, some 49, none]) [true, true, true, true, true, true, true] 7 rfl rfl rfl (by simp only [List.drop_succ_cons, List.drop_zero]; rfl) (fun Z hZ => ?_)
      refine QD.ev T (by decide) rfl rfl ?_
      refine QD.ev T (by decide) rfl rfl ?_
      refine QD.ev T (by decide) rfl rfl ?_
      first | refine QD.yv (by decide) rfl (Yv.load 0 T rfl rfl rfl rfl) ?_ | refine QD.yv (by decide) rfl (Yv.load 1 T rfl rfl rfl rfl) ?_ | refine QD.yv (by decide) rfl (Yv.load 2 T rfl rfl rfl rfl) ?_
      refine QD.e (Ev.addK (r := (posR xs s : Int)) rfl rfl (by rw [wI (by omega) (by omega), g3]; omega)) (by decide) rfl ?_
      refine QD.ev T (by decide) rfl rfl ?_
      refine QD.ev T (by decide) rfl rfl ?_
      refine QD.nil (hZ _ ?_)
      clear hZ Z
      first | refine Ops.store 0 rfl rfl rfl rfl rfl (T.sizeOk rfl) rfl (Nat.le_of_ble_eq_true rfl) rfl rfl ?_ | refine Ops.store 1 rfl rfl rfl rfl rfl (T.sizeOk rfl) rfl (Nat.le_of_ble_eq_true rfl) rfl rfl ?_ | refine Ops.store 2 rfl rfl rfl rfl rfl (T.sizeOk rfl) rfl (Nat.le_of_ble_eq_true rfl) rfl rfl ?_
      refine Ops.nil ?_
      repeat (first | refine Run.seq ?_)
      refine Run.regionO (D := [some 50, some 51, some 2, some 3]) [true, true, true, true] rfl rfl rfl (fun Z hZ => ?_)
      refine QD.ev T (by decide) rfl rfl ?_
      refine QD.yv (by decide) rfl (Yv.bytesBuf T hB (fun x hx => List.mem_cons_of_mem _ hx) rfl rfl rfl rfl) ?_
      refine QD.ev T (by decide) rfl rfl ?_
      refine QD.ev T (by decide) rfl rfl ?_
      refine QD.nil (hZ _ ?_)
      clear hZ Z
      skip
      refine Run.dropL (L' := [(r, _)]) (List.Sublist.cons_cons _ (List.nil_sublist _)) ?_
      refine Run.ret2 (by rw [hCf]; exact func141) results141 rfl rfl (hR _ _ _ ?_)
      rw [← htr, TR_end]
      exact ⟨rfl, rfl, rfl⟩
    have n1 : e.toNat ≠ 34 := fun h => e1 (UInt8.toNat_inj.1 h)
    refine Run.regionO (D := [some 41, some 42, some 40]) [true, true, true] rfl rfl rfl (fun Z hZ => ?_)
    refine QD.ev T (by decide) rfl rfl ?_
    refine QD.e ((Ev.eqlI rfl rfl).as (show _ = Value.bool false from congrArg Value.bool (decide_eq_false (by omega)))) (by decide) rfl ?_
    refine QD.ev T (by decide) rfl rfl ?_
    refine QD.nil (hZ _ ?_)
    clear hZ Z
    repeat (first | refine Run.seq ?_ | refine Run.cond_f rfl ?_)
    by_cases e2 : e.toNat < 32
    · skip
      refine Run.regionO (D := [some 53, some 54, some 52]) [true, true, true] rfl rfl rfl (fun Z hZ => ?_)
      refine QD.ev T (by decide) rfl rfl ?_
      refine QD.e ((Ev.lss rfl rfl).as (show _ = Value.bool true from congrArg Value.bool (decide_eq_true (by omega)))) (by decide) rfl ?_
      refine QD.ev T (by decide) rfl rfl ?_
      refine QD.nil (hZ _ ?_)
      clear hZ Z
      repeat (first | refine Run.seq ?_ | refine Run.cond_t rfl ?_)
      refine Run.regionO (D := [some 2, some 3]) [true, true] rfl rfl rfl (fun Z hZ => ?_)
      refine QD.ev T (by decide) rfl rfl ?_
      refine QD.ev T (by decide) rfl rfl ?_
      refine QD.nil (hZ _ ?_)
      clear hZ Z
      skip
      refine Run.dropL (L' := [(r, _)]) (List.Sublist.cons_cons _ (List.nil_sublist _)) ?_
      refine Run.ret2 (by rw [hCf]; exact func141) results141 rfl rfl (hR _ _ _ ?_)
      rw [← htr, show TR (e :: s) out = none from by rw [TR]; exact (textR_cons _ _ _ _).trans (by rw [if_neg e1, if_pos e2])]
      exact ⟨rfl, _, hlt.1, hlt.2, rfl, rfl⟩
    refine Run.regionO (D := [some 53, some 54, some 52]) [true, true, true] rfl rfl rfl (fun Z hZ => ?_)
    refine QD.ev T (by decide) rfl rfl ?_
    refine QD.e ((Ev.lss rfl rfl).as (show _ = Value.bool false from congrArg Value.bool (decide_eq_false (by omega)))) (by decide) rfl ?_
    refine QD.ev T (by decide) rfl rfl ?_
    refine QD.nil (hZ _ ?_)
    clear hZ Z
    repeat (first | refine Run.seq ?_ | refine Run.cond_f rfl ?_)
    by_cases e3 : e ≠ 92
    · have n3 : e.toNat ≠ 92 := fun h => e3 (UInt8.toNat_inj.1 h)
      refine Run.regionO (D := [some 56, some 57, some 55]) [true, true, true] rfl rfl rfl (fun Z hZ => ?_)
      refine QD.ev T (by decide) rfl rfl ?_
      refine QD.e ((Ev.neqI rfl rfl).as (show _ = Value.bool true from congrArg Value.bool (by rw [decide_eq_false (by omega)]; rfl))) (by decide) rfl ?_
      refine QD.ev T (by decide) rfl rfl ?_
      refine QD.nil (hZ _ ?_)
      clear hZ Z
      repeat (first | refine Run.seq ?_ | refine Run.cond_t rfl ?_)
      have htr2 := TR_raw out e1 e2 e3 (s := s)
      have hw := runeAt_width (e :: s) 0
      obtain ⟨hk, hr⟩ := runeAt_le (s := e :: s) (by simp)
      have hdec := utf8_Decode J hU (e :: s) _ db (off + p) (c - p) hcut (by simp)
      generalize runeAt (e :: s) 0 = rk at *
      obtain ⟨ru, k⟩ := rk
      simp only at hw hk hr htr2 hdec
      have hsd : Sfx ((e :: s).drop k) (e :: s) := Sfx.dropN _ _
      have hpos : posR xs ((e :: s).drop k) = p + k := by
        rw [← hp]
        unfold posR
        rw [List.length_drop]; simp only [List.length_cons] at hk ⊢; omega
      refine Run.regionQ (D := [some 59, some 60, some 61, some 62, some 63, some 64, some 65, some 66, some 67, some 68, some 58, some 69, some 70, some 6, some 7]) [true, true, true, true, true, true, true, true, true, true, true, true, true, true, true] (bl 15 32767) (by kernel_rfl) (by kernel_rfl) (by kernel_rfl) (by kernel_rfl) rfl (fun Z hZ => ?_)
      refine QD.ev T (by decide) rfl rfl ?_
      refine QD.ev T (by decide) rfl rfl ?_
      refine QD.ev T (by decide) rfl rfl ?_
      first | refine QD.yv (by decide) rfl (Yv.load 0 T rfl rfl rfl rfl) ?_ | refine QD.yv (by decide) rfl (Yv.load 1 T rfl rfl rfl rfl) ?_ | refine QD.yv (by decide) rfl (Yv.load 2 T rfl rfl rfl rfl) ?_
      refine QD.ev T (by decide) rfl rfl ?_
      refine QD.ev T (by decide) rfl rfl ?_
      refine QD.ev T (by decide) rfl rfl ?_
      first | refine QD.yv (by decide) rfl (Yv.load 0 T rfl rfl rfl rfl) ?_ | refine QD.yv (by decide) rfl (Yv.load 1 T rfl rfl rfl rfl) ?_ | refine QD.yv (by decide) rfl (Yv.load 2 T rfl rfl rfl rfl) ?_
      refine QD.e (Ev.sliceLo (j := p) T rfl rfl rfl rfl (by omega) hcap) (by decide) rfl ?_
      refine QD.call (hdec.mono fun _ _ _ h => h.1) (by decide) rfl call147 rfl ?_
      refine QD.ev T (by decide) rfl rfl ?_
      refine QD.ev T (by decide) rfl rfl ?_
      refine QD.ev T (by decide) rfl rfl ?_
      refine QD.ev T (by decide) rfl rfl ?_
      refine QD.ev T (by decide) rfl rfl ?_
      refine QD.nil (hZ _ ?_)
      clear hZ Z
      repeat (first | refine Run.seq ?_)
      refine Run.regionP (D := [some 71, some 72, some 73, some 74, some 75, some 76, some 77, some 78, none]) [true, true, true, true, true, true, true, true] 8 rfl rfl rfl (by simp only [List.drop_succ_cons, List.drop_zero]; rfl) (fun Z hZ => ?_)
      refine QD.ev T (by decide) rfl rfl ?_
      refine QD.ev T (by decide) rfl rfl ?_
      refine QD.ev T (by decide) rfl rfl ?_
      first | refine QD.yv (by decide) rfl (Yv.load 0 T rfl rfl rfl rfl) ?_ | refine QD.yv (by decide) rfl (Yv.load 1 T rfl rfl rfl rfl) ?_ | refine QD.yv (by decide) rfl (Yv.load 2 T rfl rfl rfl rfl) ?_
      refine QD.ev T (by decide) rfl rfl ?_
      refine QD.e (Ev.addK (r := (posR xs ((e :: s).drop k) : Int)) rfl rfl (by rw [hpos, wI (by omega) (by omega)]; omega)) (by decide) rfl ?_
      refine QD.ev T (by decide) rfl rfl ?_
      refine QD.ev T (by decide) rfl rfl ?_
      refine QD.nil (hZ _ ?_)
      clear hZ Z
      first | refine Ops.store 0 rfl rfl rfl rfl rfl (T.sizeOk rfl) rfl (Nat.le_of_ble_eq_true rfl) rfl rfl ?_ | refine Ops.store 1 rfl rfl rfl rfl rfl (T.sizeOk rfl) rfl (Nat.le_of_ble_eq_true rfl) rfl rfl ?_ | refine Ops.store 2 rfl rfl rfl rfl rfl (T.sizeOk rfl) rfl (Nat.le_of_ble_eq_true rfl) rfl rfl ?_
      refine Ops.nil ?_
      repeat (first | refine Run.seq ?_)
      refine Run.regionP (D := [some 79, some 80, some 81, some 4]) [true, true] 2 rfl rfl rfl (by simp only [List.drop_succ_cons, List.drop_zero]; rfl) (fun Z hZ => ?_)
      refine QD.ev T (by decide) rfl rfl ?_
      refine QD.ev T (by decide) rfl rfl ?_
      refine QD.nil (hZ _ ?_)
      clear hZ Z
      refine Ops.callP (N := [_]) ((utf8_Append J v2 out ru M2 hB (by omega) hr)) (.refl _) rfl (by decide) call148 rfl ?_
      rintro w J3 M3 l3 ⟨hB3, rfl⟩
      refine Ops.pure T rfl (by decide) rfl ?_
      refine Ops.nil ?_
      repeat (first | refine Run.exit rfl ?_)
      refine Run.keep [0, 4] [_, _] rfl ?_
      have hel := encR_pos ru
      exact ih ((e :: s).drop k).length _ _ _ (by rw [List.length_drop]; simp only [List.length_cons]; omega) ⟨(e :: s).drop k, out ++ encR (ru : Int), w, M3, rfl, hsd.trans hs, by rw [← htr2, htr], hB3, by
        rw [List.length_append, List.length_drop]; simp only [List.length_cons] at hob hk ⊢; omega, rfl, rfl, rfl⟩
    obtain rfl : e = 92 := Classical.not_not.1 e3
    refine Run.regionO (D := [some 56, some 57, some 55]) [true, true, true] rfl rfl rfl (fun Z hZ => ?_)
    refine QD.ev T (by decide) rfl rfl ?_
    refine QD.e (Ev.neqI rfl rfl) (by decide) rfl ?_
    refine QD.ev T (by decide) rfl rfl ?_
    refine QD.nil (hZ _ ?_)
    clear hZ Z
    repeat (first | refine Run.seq ?_ | refine Run.skip ?_ | refine Run.inBlock ?_ | refine Run.cond_f rfl ?_)
    refine Run.regionP (D := [some 82, some 83, some 84, some 85, some 86, some 87, some 88, none]) [true, true, true, true, true, true, true] 7 rfl rfl rfl (by simp only [List.drop_succ_cons, List.drop_zero]; rfl) (fun Z hZ => ?_)
    refine QD.ev T (by decide) rfl rfl ?_
    refine QD.ev T (by decide) rfl rfl ?_
    refine QD.ev T (by decide) rfl rfl ?_
    first | refine QD.yv (by decide) rfl (Yv.load 0 T rfl rfl rfl rfl) ?_ | refine QD.yv (by decide) rfl (Yv.load 1 T rfl rfl rfl rfl) ?_ | refine QD.yv (by decide) rfl (Yv.load 2 T rfl rfl rfl rfl) ?_
    refine QD.e (Ev.addK (r := (posR xs s : Int)) rfl rfl (by rw [wI (by omega) (by omega), g3]; omega)) (by decide) rfl ?_
    refine QD.ev T (by decide) rfl rfl ?_
    refine QD.ev T (by decide) rfl rfl ?_
    refine QD.nil (hZ _ ?_)
    clear hZ Z
    first | refine Ops.store 0 rfl rfl rfl rfl rfl (T.sizeOk rfl) rfl (Nat.le_of_ble_eq_true rfl) rfl rfl ?_ | refine Ops.store 1 rfl rfl rfl rfl rfl (T.sizeOk rfl) rfl (Nat.le_of_ble_eq_true rfl) rfl rfl ?_ | refine Ops.store 2 rfl rfl rfl rfl rfl (T.sizeOk rfl) rfl (Nat.le_of_ble_eq_true rfl) rfl rfl ?_
    refine Ops.nil ?_
    repeat (first | refine Run.seq ?_)
    cases s with
    | nil =>
      refine Run.regionQ (D := [some 89, some 90, some 91, some 92, some 93, some 94, some 95, some 96, some 97, some 98]) [true, true, true, true, true, true, true, true, true, true] (bl 10 1023) (by kernel_rfl) (by kernel_rfl) (by kernel_rfl) (by kernel_rfl) rfl (fun Z hZ => ?_)
      refine QD.ev T (by decide) rfl rfl ?_
      refine QD.ev T (by decide) rfl rfl ?_
      refine QD.ev T (by decide) rfl rfl ?_
      first | refine QD.yv (by decide) rfl (Yv.load 0 T rfl rfl rfl rfl) ?_ | refine QD.yv (by decide) rfl (Yv.load 1 T rfl rfl rfl rfl) ?_ | refine QD.yv (by decide) rfl (Yv.load 2 T rfl rfl rfl rfl) ?_
      refine QD.ev T (by decide) rfl rfl ?_
      refine QD.ev T (by decide) rfl rfl ?_
      refine QD.ev T (by decide) rfl rfl ?_
      first | refine QD.yv (by decide) rfl (Yv.load 0 T rfl rfl rfl rfl) ?_ | refine QD.yv (by decide) rfl (Yv.load 1 T rfl rfl rfl rfl) ?_ | refine QD.yv (by decide) rfl (Yv.load 2 T rfl rfl rfl rfl) ?_
      refine QD.ev T (by decide) rfl rfl ?_
      refine QD.e ((Ev.geq rfl rfl).as (show _ = Value.bool true from congrArg Value.bool (decide_eq_true (by simp [posR])))) (by decide) rfl ?_
      refine QD.nil (hZ _ ?_)
      clear hZ Z
      repeat (first | refine Run.seq ?_ | refine Run.cond_t rfl ?_)
      refine Run.regionO (D := [some 2, some 3]) [true, true] rfl rfl rfl (fun Z hZ => ?_)
      refine QD.ev T (by decide) rfl rfl ?_
      refine QD.ev T (by decide) rfl rfl ?_
      refine QD.nil (hZ _ ?_)
      clear hZ Z
      skip
      refine Run.dropL (L' := [(r, _)]) (List.Sublist.cons_cons _ (List.nil_sublist _)) ?_
      refine Run.ret2 (by rw [hCf]; exact func141) results141 rfl rfl (hR _ _ _ ?_)
      rw [← htr, show TR ([92] : Bs) out = none from rfl]
      exact ⟨rfl, _, (le hst1).1, (le hst1).2, rfl, rfl⟩
    | cons f u =>
      obtain ⟨f1, f2, f3⟩ := sfx_getD hsx1
      have hA2 := hR0.at' _ f1
      rw [f2] at hA2
      have hu1 : Sfx u t := (Sfx.cons f u).trans hst1
      have hux : Sfx u xs := hu1.trans ht1
      have hlu := le hu1
      have huu := hux.len
      simp only [List.length_cons] at hsl hob
      refine Run.regionQ (D := [some 89, some 90, some 91, some 92, some 93, some 94, some 95, some 96, some 97, some 98]) [true, true, true, true, true, true, true, true, true, true] (bl 10 1023) (by kernel_rfl) (by kernel_rfl) (by kernel_rfl) (by kernel_rfl) rfl (fun Z hZ => ?_)
      refine QD.ev T (by decide) rfl rfl ?_
      refine QD.ev T (by decide) rfl rfl ?_
      refine QD.ev T (by decide) rfl rfl ?_
      first | refine QD.yv (by decide) rfl (Yv.load 0 T rfl rfl rfl rfl) ?_ | refine QD.yv (by decide) rfl (Yv.load 1 T rfl rfl rfl rfl) ?_ | refine QD.yv (by decide) rfl (Yv.load 2 T rfl rfl rfl rfl) ?_
      refine QD.ev T (by decide) rfl rfl ?_
      refine QD.ev T (by decide) rfl rfl ?_
      refine QD.ev T (by decide) rfl rfl ?_
      first | refine QD.yv (by decide) rfl (Yv.load 0 T rfl rfl rfl rfl) ?_ | refine QD.yv (by decide) rfl (Yv.load 1 T rfl rfl rfl rfl) ?_ | refine QD.yv (by decide) rfl (Yv.load 2 T rfl rfl rfl rfl) ?_
      refine QD.ev T (by decide) rfl rfl ?_
      refine QD.e ((Ev.geq rfl rfl).as (show _ = Value.bool false from congrArg Value.bool (decide_eq_false (by omega)))) (by decide) rfl ?_
      refine QD.nil (hZ _ ?_)
      clear hZ Z
      repeat (first | refine Run.seq ?_ | refine Run.skip ?_ | refine Run.cond_f rfl ?_)
      generalize hp2 : posR xs (f :: u) = p2 at *
      refine Run.regionQ (D := [some 99, some 100, some 101, some 102, some 103, some 104, some 105, some 106, some 107, some 108, some 5]) [true, true, true, true, true, true, true, true, true, true, true] (bl 11 2047) (by kernel_rfl) (by kernel_rfl) (by kernel_rfl) (by kernel_rfl) rfl (fun Z hZ => ?_)
      refine QD.ev T (by decide) rfl rfl ?_
      refine QD.ev T (by decide) rfl rfl ?_
      refine QD.ev T (by decide) rfl rfl ?_
      first | refine QD.yv (by decide) rfl (Yv.load 0 T rfl rfl rfl rfl) ?_ | refine QD.yv (by decide) rfl (Yv.load 1 T rfl rfl rfl rfl) ?_ | refine QD.yv (by decide) rfl (Yv.load 2 T rfl rfl rfl rfl) ?_ | refine QD.yv (by decide) rfl (Yv.loadI T hA2 rfl rfl) ?_
      refine QD.ev T (by decide) rfl rfl ?_
      refine QD.ev T (by decide) rfl rfl ?_
      refine QD.ev T (by decide) rfl rfl ?_
      first | refine QD.yv (by decide) rfl (Yv.load 0 T rfl rfl rfl rfl) ?_ | refine QD.yv (by decide) rfl (Yv.load 1 T rfl rfl rfl rfl) ?_ | refine QD.yv (by decide) rfl (Yv.load 2 T rfl rfl rfl rfl) ?_ | refine QD.yv (by decide) rfl (Yv.loadI T hA2 rfl rfl) ?_
      refine QD.e (Ev.indexS T rfl rfl rfl rfl (by first | omega | (simp only [List.length_cons, List.length_nil] ; omega) | (simp; omega)) (by first | omega | (simp only [List.length_cons, List.length_nil] ; omega) | (simp; omega))) (by decide) rfl ?_
      first | refine QD.yv (by decide) rfl (Yv.load 0 T rfl rfl rfl rfl) ?_ | refine QD.yv (by decide) rfl (Yv.load 1 T rfl rfl rfl rfl) ?_ | refine QD.yv (by decide) rfl (Yv.load 2 T rfl rfl rfl rfl) ?_ | refine QD.yv (by decide) rfl (Yv.loadI T hA2 rfl rfl) ?_
      refine QD.ev T (by decide) rfl rfl ?_
      refine QD.nil (hZ _ ?_)
      clear hZ Z
      repeat (first | refine Run.seq ?_)
      refine Run.regionP (D := [some 109, some 110, some 111, some 112, some 113, some 114, some 115, none]) [true, true, true, true, true, true, true] 7 rfl rfl rfl (by simp only [List.drop_succ_cons, List.drop_zero]; rfl) (fun Z hZ => ?_)
      refine QD.ev T (by decide) rfl rfl ?_
      refine QD.ev T (by decide) rfl rfl ?_
      refine QD.ev T (by decide) rfl rfl ?_
      first | refine QD.yv (by decide) rfl (Yv.load 0 T rfl rfl rfl rfl) ?_ | refine QD.yv (by decide) rfl (Yv.load 1 T rfl rfl rfl rfl) ?_ | refine QD.yv (by decide) rfl (Yv.load 2 T rfl rfl rfl rfl) ?_
      refine QD.e (Ev.addK (r := (posR xs u : Int)) rfl rfl (by rw [wI (by omega) (by omega), f3]; omega)) (by decide) rfl ?_
      refine QD.ev T (by decide) rfl rfl ?_
      refine QD.ev T (by decide) rfl rfl ?_
      refine QD.nil (hZ _ ?_)
      clear hZ Z
      first | refine Ops.store 0 rfl rfl rfl rfl rfl (T.sizeOk rfl) rfl (Nat.le_of_ble_eq_true rfl) rfl rfl ?_ | refine Ops.store 1 rfl rfl rfl rfl rfl (T.sizeOk rfl) rfl (Nat.le_of_ble_eq_true rfl) rfl rfl ?_ | refine Ops.store 2 rfl rfl rfl rfl rfl (T.sizeOk rfl) rfl (Nat.le_of_ble_eq_true rfl) rfl rfl ?_
      refine Ops.nil ?_
      repeat (first | refine Run.seq ?_)
      refine Run.regionO (D := [some 116]) [true] rfl rfl rfl (fun Z hZ => ?_)
      refine QD.ev T (by decide) rfl rfl ?_
      refine QD.nil (hZ _ ?_)
      clear hZ Z
      repeat (first | refine Run.seq ?_ | refine Run.block ?_)
      have nn : ∀ (k : UInt8) (m : Int), (k.toNat : Int) = m → f ≠ k → decide ((f.toNat : Int) = m) = false := fun k m hm h => decide_eq_false fun e => h (UInt8.toNat_inj.1 (by omega))
      by_cases k1 : f = 34
      · subst k1
        refine Run.regionO (D := [some 118, some 117]) [true, true] rfl rfl rfl (fun Z hZ => ?_)
        refine QD.e (Ev.eqlI rfl rfl) (by decide) rfl ?_
        refine QD.ev T (by decide) rfl rfl ?_
        refine QD.nil (hZ _ ?_)
        clear hZ Z
        repeat (first | refine Run.skip ?_ | refine Run.cond_t rfl ?_)
        refine Run.regionP (D := [some 121, some 122, some 123, some 124, some 4]) [true, true] 2 rfl rfl rfl (by simp only [List.drop_succ_cons, List.drop_zero]; rfl) (fun Z hZ => ?_)
        refine QD.ev T (by decide) rfl rfl ?_
        refine QD.ev T (by decide) rfl rfl ?_
        refine QD.nil (hZ _ ?_)
        clear hZ Z
        refine Ops.lit T rfl rfl rfl (by decide) rfl (by decide) (by decide) rfl rfl rfl rfl rfl (fun bq => ?_)
        refine Ops.appLit [34] (N := [_]) btB hB rfl (by decide) rfl rfl rfl rfl rfl (by simp; omega) fun v3 M3 hB3 => ?_
        refine Ops.pure T rfl (by decide) rfl ?_
        refine Ops.nil ?_
        repeat (first | refine Run.inBlock ?_)
        refine Run.keep [0, 4] [_, _] rfl ?_
        exact ih u.length _ _ _ (by simp only [List.length_cons]; omega) ⟨u, out ++ [34], v3, M3, rfl, hu1, by rw [← htr]; exact (TR_esc out rfl).symm, hB3, by simp only [List.length_append, List.length_cons, List.length_nil] at hob ⊢; omega, rfl, rfl, rfl⟩
      by_cases k2 : f = 92
      · subst k2
        refine Run.regionO (D := [some 118, some 117]) [true, true] rfl rfl rfl (fun Z hZ => ?_)
        refine QD.e (Ev.eqlI rfl rfl) (by decide) rfl ?_
        refine QD.ev T (by decide) rfl rfl ?_
        refine QD.nil (hZ _ ?_)
        clear hZ Z
        repeat (first | refine Run.seq ?_ | refine Run.cond_f rfl ?_)
        refine Run.regionO (D := [some 119, some 117]) [true, true] rfl rfl rfl (fun Z hZ => ?_)
        refine QD.e (Ev.eqlI rfl rfl) (by decide) rfl ?_
        refine QD.ev T (by decide) rfl rfl ?_
        refine QD.nil (hZ _ ?_)
        clear hZ Z
        repeat (first | refine Run.skip ?_ | refine Run.cond_t rfl ?_)
        refine Run.regionP (D := [some 121, some 122, some 123, some 124, some 4]) [true, true] 2 rfl rfl rfl (by simp only [List.drop_succ_cons, List.drop_zero]; rfl) (fun Z hZ => ?_)
        refine QD.ev T (by decide) rfl rfl ?_
        refine QD.ev T (by decide) rfl rfl ?_
        refine QD.nil (hZ _ ?_)
        clear hZ Z
        refine Ops.lit T rfl rfl rfl (by decide) rfl (by decide) (by decide) rfl rfl rfl rfl rfl (fun bq => ?_)
        refine Ops.appLit [92] (N := [_]) btB hB rfl (by decide) rfl rfl rfl rfl rfl (by simp; omega) fun v3 M3 hB3 => ?_
        refine Ops.pure T rfl (by decide) rfl ?_
        refine Ops.nil ?_
        repeat (first | refine Run.inBlock ?_)
        refine Run.keep [0, 4] [_, _] rfl ?_
        exact ih u.length _ _ _ (by simp only [List.length_cons]; omega) ⟨u, out ++ [92], v3, M3, rfl, hu1, by rw [← htr]; exact (TR_esc out rfl).symm, hB3, by simp only [List.length_append, List.length_cons, List.length_nil] at hob ⊢; omega, rfl, rfl, rfl⟩
      by_cases k3 : f = 47
      · subst k3
        refine Run.regionO (D := [some 118, some 117]) [true, true] rfl rfl rfl (fun Z hZ => ?_)
        refine QD.e (Ev.eqlI rfl rfl) (by decide) rfl ?_
        refine QD.ev T (by decide) rfl rfl ?_
        refine QD.nil (hZ _ ?_)
        clear hZ Z
        repeat (first | refine Run.seq ?_ | refine Run.cond_f rfl ?_)
        refine Run.regionO (D := [some 119, some 117]) [true, true] rfl rfl rfl (fun Z hZ => ?_)
        refine QD.e (Ev.eqlI rfl rfl) (by decide) rfl ?_
        refine QD.ev T (by decide) rfl rfl ?_
        refine QD.nil (hZ _ ?_)
        clear hZ Z
        repeat (first | refine Run.cond_f rfl ?_)
        refine Run.regionO (D := [some 120, some 117]) [true, true] rfl rfl rfl (fun Z hZ => ?_)
        refine QD.e (Ev.eqlI rfl rfl) (by decide) rfl ?_
        refine QD.ev T (by decide) rfl rfl ?_
        refine QD.nil (hZ _ ?_)
        clear hZ Z
        repeat (first | refine Run.cond_t rfl ?_)
        refine Run.regionP (D := [some 121, some 122, some 123, some 124, some 4]) [true, true] 2 rfl rfl rfl (by simp only [List.drop_succ_cons, List.drop_zero]; rfl) (fun Z hZ => ?_)
        refine QD.ev T (by decide) rfl rfl ?_
        refine QD.ev T (by decide) rfl rfl ?_
        refine QD.nil (hZ _ ?_)
        clear hZ Z
        refine Ops.lit T rfl rfl rfl (by decide) rfl (by decide) (by decide) rfl rfl rfl rfl rfl (fun bq => ?_)
        refine Ops.appLit [47] (N := [_]) btB hB rfl (by decide) rfl rfl rfl rfl rfl (by simp; omega) fun v3 M3 hB3 => ?_
        refine Ops.pure T rfl (by decide) rfl ?_
        refine Ops.nil ?_
        repeat (first | refine Run.inBlock ?_)
        refine Run.keep [0, 4] [_, _] rfl ?_
        exact ih u.length _ _ _ (by simp only [List.length_cons]; omega) ⟨u, out ++ [47], v3, M3, rfl, hu1, by rw [← htr]; exact (TR_esc out rfl).symm, hB3, by simp only [List.length_append, List.length_cons, List.length_nil] at hob ⊢; omega, rfl, rfl, rfl⟩
      by_cases k4 : f = 98
      · subst k4
        refine Run.regionO (D := [some 118, some 117]) [true, true] rfl rfl rfl (fun Z hZ => ?_)
        refine QD.e (Ev.eqlI rfl rfl) (by decide) rfl ?_
        refine QD.ev T (by decide) rfl rfl ?_
        refine QD.nil (hZ _ ?_)
        clear hZ Z
        repeat (first | refine Run.seq ?_ | refine Run.cond_f rfl ?_)
        refine Run.regionO (D := [some 119, some 117]) [true, true] rfl rfl rfl (fun Z hZ => ?_)
        refine QD.e (Ev.eqlI rfl rfl) (by decide) rfl ?_
        refine QD.ev T (by decide) rfl rfl ?_
        refine QD.nil (hZ _ ?_)
        clear hZ Z
        repeat (first | refine Run.cond_f rfl ?_)
        refine Run.regionO (D := [some 120, some 117]) [true, true] rfl rfl rfl (fun Z hZ => ?_)
        refine QD.e (Ev.eqlI rfl rfl) (by decide) rfl ?_
        refine QD.ev T (by decide) rfl rfl ?_
        refine QD.nil (hZ _ ?_)
        clear hZ Z
        repeat (first | refine Run.seq ?_ | refine Run.cond_f rfl ?_)
        refine Run.regionO (D := [some 126, some 125]) [true, true] rfl rfl rfl (fun Z hZ => ?_)
        refine QD.e (Ev.eqlI rfl rfl) (by decide) rfl ?_
        refine QD.ev T (by decide) rfl rfl ?_
        refine QD.nil (hZ _ ?_)
        clear hZ Z
        repeat (first | refine Run.cond_t rfl ?_)
        refine Run.regionP (D := [some 127, some 128, some 129, some 4]) [true] 1 rfl rfl rfl (by simp only [List.drop_succ_cons, List.drop_zero]; rfl) (fun Z hZ => ?_)
        refine QD.ev T (by decide) rfl rfl ?_
        refine QD.nil (hZ _ ?_)
        clear hZ Z
        refine Ops.lit T rfl rfl rfl (by decide) rfl (by decide) (by decide) rfl rfl rfl rfl rfl (fun bq => ?_)
        refine Ops.appLit [8] (N := [_]) btB hB rfl (by decide) rfl rfl rfl rfl rfl (by simp; omega) fun v3 M3 hB3 => ?_
        refine Ops.pure T rfl (by decide) rfl ?_
        refine Ops.nil ?_
        repeat (first | refine Run.inBlock ?_)
        refine Run.keep [0, 4] [_, _] rfl ?_
        exact ih u.length _ _ _ (by simp only [List.length_cons]; omega) ⟨u, out ++ [8], v3, M3, rfl, hu1, by rw [← htr]; exact (TR_esc out rfl).symm, hB3, by simp only [List.length_append, List.length_cons, List.length_nil] at hob ⊢; omega, rfl, rfl, rfl⟩
      by_cases k5 : f = 102
      · subst k5
        refine Run.regionO (D := [some 118, some 117]) [true, true] rfl rfl rfl (fun Z hZ => ?_)
        refine QD.e (Ev.eqlI rfl rfl) (by decide) rfl ?_
        refine QD.ev T (by decide) rfl rfl ?_
        refine QD.nil (hZ _ ?_)
        clear hZ Z
        repeat (first | refine Run.seq ?_ | refine Run.cond_f rfl ?_)
        refine Run.regionO (D := [some 119, some 117]) [true, true] rfl rfl rfl (fun Z hZ => ?_)
        refine QD.e (Ev.eqlI rfl rfl) (by decide) rfl ?_
        refine QD.ev T (by decide) rfl rfl ?_
        refine QD.nil (hZ _ ?_)
        clear hZ Z
        repeat (first | refine Run.cond_f rfl ?_)
        refine Run.regionO (D := [some 120, some 117]) [true, true] rfl rfl rfl (fun Z hZ => ?_)
        refine QD.e (Ev.eqlI rfl rfl) (by decide) rfl ?_
        refine QD.ev T (by decide) rfl rfl ?_
        refine QD.nil (hZ _ ?_)
        clear hZ Z
        repeat (first | refine Run.seq ?_ | refine Run.cond_f rfl ?_)
        refine Run.regionO (D := [some 126, some 125]) [true, true] rfl rfl rfl (fun Z hZ => ?_)
        refine QD.e (Ev.eqlI rfl rfl) (by decide) rfl ?_
        refine QD.ev T (by decide) rfl rfl ?_
        refine QD.nil (hZ _ ?_)
        clear hZ Z
        repeat (first | refine Run.seq ?_ | refine Run.cond_f rfl ?_)
        refine Run.regionO (D := [some 131, some 130]) [true, true] rfl rfl rfl (fun Z hZ => ?_)
        refine QD.e (Ev.eqlI rfl rfl) (by decide) rfl ?_
        refine QD.ev T (by decide) rfl rfl ?_
        refine QD.nil (hZ _ ?_)
        clear hZ Z
        repeat (first | refine Run.cond_t rfl ?_)
        refine Run.regionP (D := [some 132, some 133, some 134, some 4]) [true] 1 rfl rfl rfl (by simp only [List.drop_succ_cons, List.drop_zero]; rfl) (fun Z hZ => ?_)
        refine QD.ev T (by decide) rfl rfl ?_
        refine QD.nil (hZ _ ?_)
        clear hZ Z
        refine Ops.lit T rfl rfl rfl (by decide) rfl (by decide) (by decide) rfl rfl rfl rfl rfl (fun bq => ?_)
        refine Ops.appLit [12] (N := [_]) btB hB rfl (by decide) rfl rfl rfl rfl rfl (by simp; omega) fun v3 M3 hB3 => ?_
        refine Ops.pure T rfl (by decide) rfl ?_
        refine Ops.nil ?_
        repeat (first | refine Run.inBlock ?_)
        refine Run.keep [0, 4] [_, _] rfl ?_
        exact ih u.length _ _ _ (by simp only [List.length_cons]; omega) ⟨u, out ++ [12], v3, M3, rfl, hu1, by rw [← htr]; exact (TR_esc out rfl).symm, hB3, by simp only [List.length_append, List.length_cons, List.length_nil] at hob ⊢; omega, rfl, rfl, rfl⟩
      by_cases k6 : f = 110
      · subst k6
        refine Run.regionO (D := [some 118, some 117]) [true, true] rfl rfl rfl (fun Z hZ => ?_)
        refine QD.e (Ev.eqlI rfl rfl) (by decide) rfl ?_
        refine QD.ev T (by decide) rfl rfl ?_
        refine QD.nil (hZ _ ?_)
        clear hZ Z
        repeat (first | refine Run.seq ?_ | refine Run.cond_f rfl ?_)
        refine Run.regionO (D := [some 119, some 117]) [true, true] rfl rfl rfl (fun Z hZ => ?_)
        refine QD.e (Ev.eqlI rfl rfl) (by decide) rfl ?_
        refine QD.ev T (by decide) rfl rfl ?_
        refine QD.nil (hZ _ ?_)
        clear hZ Z
        repeat (first | refine Run.cond_f rfl ?_)
        refine Run.regionO (D := [some 120, some 117]) [true, true] rfl rfl rfl (fun Z hZ => ?_)
        refine QD.e (Ev.eqlI rfl rfl) (by decide) rfl ?_
        refine QD.ev T (by decide) rfl rfl ?_
        refine QD.nil (hZ _ ?_)
        clear hZ Z
        repeat (first | refine Run.seq ?_ | refine Run.cond_f rfl ?_)
        refine Run.regionO (D := [some 126, some 125]) [true, true] rfl rfl rfl (fun Z hZ => ?_)
        refine QD.e (Ev.eqlI rfl rfl) (by decide) rfl ?_
        refine QD.ev T (by decide) rfl rfl ?_
        refine QD.nil (hZ _ ?_)
        clear hZ Z
        repeat (first | refine Run.seq ?_ | refine Run.cond_f rfl ?_)
        refine Run.regionO (D := [some 131, some 130]) [true, true] rfl rfl rfl (fun Z hZ => ?_)
        refine QD.e (Ev.eqlI rfl rfl) (by decide) rfl ?_
        refine QD.ev T (by decide) rfl rfl ?_
        refine QD.nil (hZ _ ?_)
        clear hZ Z
        repeat (first | refine Run.seq ?_ | refine Run.cond_f rfl ?_)
        refine Run.regionO (D := [some 136, some 135]) [true, true] rfl rfl rfl (fun Z hZ => ?_)
        refine QD.e (Ev.eqlI rfl rfl) (by decide) rfl ?_
        refine QD.ev T (by decide) rfl rfl ?_
        refine QD.nil (hZ _ ?_)
        clear hZ Z
        repeat (first | refine Run.cond_t rfl ?_)
        refine Run.regionP (D := [some 137, some 138, some 139, some 4]) [true] 1 rfl rfl rfl (by simp only [List.drop_succ_cons, List.drop_zero]; rfl) (fun Z hZ => ?_)
        refine QD.ev T (by decide) rfl rfl ?_
        refine QD.nil (hZ _ ?_)
        clear hZ Z
        refine Ops.lit T rfl rfl rfl (by decide) rfl (by decide) (by decide) rfl rfl rfl rfl rfl (fun bq => ?_)
        refine Ops.appLit [10] (N := [_]) btB hB rfl (by decide) rfl rfl rfl rfl rfl (by simp; omega) fun v3 M3 hB3 => ?_
        refine Ops.pure T rfl (by decide) rfl ?_
        refine Ops.nil ?_
        repeat (first | refine Run.inBlock ?_)
        refine Run.keep [0, 4] [_, _] rfl ?_
        exact ih u.length _ _ _ (by simp only [List.length_cons]; omega) ⟨u, out ++ [10], v3, M3, rfl, hu1, by rw [← htr]; exact (TR_esc out rfl).symm, hB3, by simp only [List.length_append, List.length_cons, List.length_nil] at hob ⊢; omega, rfl, rfl, rfl⟩
      by_cases k7 : f = 114
      · subst k7
        refine Run.regionO (D := [some 118, some 117]) [true, true] rfl rfl rfl (fun Z hZ => ?_)
        refine QD.e (Ev.eqlI rfl rfl) (by decide) rfl ?_
        refine QD.ev T (by decide) rfl rfl ?_
        refine QD.nil (hZ _ ?_)
        clear hZ Z
        repeat (first | refine Run.seq ?_ | refine Run.cond_f rfl ?_)
        refine Run.regionO (D := [some 119, some 117]) [true, true] rfl rfl rfl (fun Z hZ => ?_)
        refine QD.e (Ev.eqlI rfl rfl) (by decide) rfl ?_
        refine QD.ev T (by decide) rfl rfl ?_
        refine QD.nil (hZ _ ?_)
        clear hZ Z
        repeat (first | refine Run.cond_f rfl ?_)
        refine Run.regionO (D := [some 120, some 117]) [true, true] rfl rfl rfl (fun Z hZ => ?_)
        refine QD.e (Ev.eqlI rfl rfl) (by decide) rfl ?_
        refine QD.ev T (by decide) rfl rfl ?_
        refine QD.nil (hZ _ ?_)
        clear hZ Z
        repeat (first | refine Run.seq ?_ | refine Run.cond_f rfl ?_)
        refine Run.regionO (D := [some 126, some 125]) [true, true] rfl rfl rfl (fun Z hZ => ?_)
        refine QD.e (Ev.eqlI rfl rfl) (by decide) rfl ?_
        refine QD.ev T (by decide) rfl rfl ?_
        refine QD.nil (hZ _ ?_)
        clear hZ Z
        repeat (first | refine Run.seq ?_ | refine Run.cond_f rfl ?_)
        refine Run.regionO (D := [some 131, some 130]) [true, true] rfl rfl rfl (fun Z hZ => ?_)
        refine QD.e (Ev.eqlI rfl rfl) (by decide) rfl ?_
        refine QD.ev T (by decide) rfl rfl ?_
        refine QD.nil (hZ _ ?_)
        clear hZ Z
        repeat (first | refine Run.seq ?_ | refine Run.cond_f rfl ?_)
        refine Run.regionO (D := [some 136, some 135]) [true, true] rfl rfl rfl (fun Z hZ => ?_)
        refine QD.e (Ev.eqlI rfl rfl) (by decide) rfl ?_
        refine QD.ev T (by decide) rfl rfl ?_
        refine QD.nil (hZ _ ?_)
        clear hZ Z
        repeat (first | refine Run.seq ?_ | refine Run.cond_f rfl ?_)
        refine Run.regionO (D := [some 141, some 140]) [true, true] rfl rfl rfl (fun Z hZ => ?_)
        refine QD.e (Ev.eqlI rfl rfl) (by decide) rfl ?_
        refine QD.ev T (by decide) rfl rfl ?_
        refine QD.nil (hZ _ ?_)
        clear hZ Z
        repeat (first | refine Run.cond_t rfl ?_)
        refine Run.regionP (D := [some 142, some 143, some 144, some 4]) [true] 1 rfl rfl rfl (by simp only [List.drop_succ_cons, List.drop_zero]; rfl) (fun Z hZ => ?_)
        refine QD.ev T (by decide) rfl rfl ?_
        refine QD.nil (hZ _ ?_)
        clear hZ Z
        refine Ops.lit T rfl rfl rfl (by decide) rfl (by decide) (by decide) rfl rfl rfl rfl rfl (fun bq => ?_)
        refine Ops.appLit [13] (N := [_]) btB hB rfl (by decide) rfl rfl rfl rfl rfl (by simp; omega) fun v3 M3 hB3 => ?_
        refine Ops.pure T rfl (by decide) rfl ?_
        refine Ops.nil ?_
        repeat (first | refine Run.inBlock ?_)
        refine Run.keep [0, 4] [_, _] rfl ?_
        exact ih u.length _ _ _ (by simp only [List.length_cons]; omega) ⟨u, out ++ [13], v3, M3, rfl, hu1, by rw [← htr]; exact (TR_esc out rfl).symm, hB3, by simp only [List.length_append, List.length_cons, List.length_nil] at hob ⊢; omega, rfl, rfl, rfl⟩
      by_cases k8 : f = 116
      · subst k8
        refine Run.regionO (D := [some 118, some 117]) [true, true] rfl rfl rfl (fun Z hZ => ?_)
        refine QD.e (Ev.eqlI rfl rfl) (by decide) rfl ?_
        refine QD.ev T (by decide) rfl rfl ?_
        refine QD.nil (hZ _ ?_)
        clear hZ Z
        repeat (first | refine Run.seq ?_ | refine Run.cond_f rfl ?_)
        refine Run.regionO (D := [some 119, some 117]) [true, true] rfl rfl rfl (fun Z hZ => ?_)
        refine QD.e (Ev.eqlI rfl rfl) (by decide) rfl ?_
        refine QD.ev T (by decide) rfl rfl ?_
        refine QD.nil (hZ _ ?_)
        clear hZ Z
        repeat (first | refine Run.cond_f rfl ?_)
        refine Run.regionO (D := [some 120, some 117]) [true, true] rfl rfl rfl (fun Z hZ => ?_)
        refine QD.e (Ev.eqlI rfl rfl) (by decide) rfl ?_
        refine QD.ev T (by decide) rfl rfl ?_
        refine QD.nil (hZ _ ?_)
        clear hZ Z
        repeat (first | refine Run.seq ?_ | refine Run.cond_f rfl ?_)
        refine Run.regionO (D := [some 126, some 125]) [true, true] rfl rfl rfl (fun Z hZ => ?_)
        refine QD.e (Ev.eqlI rfl rfl) (by decide) rfl ?_
        refine QD.ev T (by decide) rfl rfl ?_
        refine QD.nil (hZ _ ?_)
        clear hZ Z
        repeat (first | refine Run.seq ?_ | refine Run.cond_f rfl ?_)
        refine Run.regionO (D := [some 131, some 130]) [true, true] rfl rfl rfl (fun Z hZ => ?_)
        refine QD.e (Ev.eqlI rfl rfl) (by decide) rfl ?_
        refine QD.ev T (by decide) rfl rfl ?_
        refine QD.nil (hZ _ ?_)
        clear hZ Z
        repeat (first | refine Run.seq ?_ | refine Run.cond_f rfl ?_)
        refine Run.regionO (D := [some 136, some 135]) [true, true] rfl rfl rfl (fun Z hZ => ?_)
        refine QD.e (Ev.eqlI rfl rfl) (by decide) rfl ?_
        refine QD.ev T (by decide) rfl rfl ?_
        refine QD.nil (hZ _ ?_)
        clear hZ Z
        repeat (first | refine Run.seq ?_ | refine Run.cond_f rfl ?_)
        refine Run.regionO (D := [some 141, some 140]) [true, true] rfl rfl rfl (fun Z hZ => ?_)
        refine QD.e (Ev.eqlI rfl rfl) (by decide) rfl ?_
        refine QD.ev T (by decide) rfl rfl ?_
        refine QD.nil (hZ _ ?_)
        clear hZ Z
        repeat (first | refine Run.seq ?_ | refine Run.cond_f rfl ?_)
        refine Run.regionO (D := [some 146, some 145]) [true, true] rfl rfl rfl (fun Z hZ => ?_)
        refine QD.e (Ev.eqlI rfl rfl) (by decide) rfl ?_
        refine QD.ev T (by decide) rfl rfl ?_
        refine QD.nil (hZ _ ?_)
        clear hZ Z
        repeat (first | refine Run.cond_t rfl ?_)
        refine Run.regionP (D := [some 147, some 148, some 149, some 4]) [true] 1 rfl rfl rfl (by simp only [List.drop_succ_cons, List.drop_zero]; rfl) (fun Z hZ => ?_)
        refine QD.ev T (by decide) rfl rfl ?_
        refine QD.nil (hZ _ ?_)
        clear hZ Z
        refine Ops.lit T rfl rfl rfl (by decide) rfl (by decide) (by decide) rfl rfl rfl rfl rfl (fun bq => ?_)
        refine Ops.appLit [9] (N := [_]) btB hB rfl (by decide) rfl rfl rfl rfl rfl (by simp; omega) fun v3 M3 hB3 => ?_
        refine Ops.pure T rfl (by decide) rfl ?_
        refine Ops.nil ?_
        repeat (first | refine Run.inBlock ?_)
        refine Run.keep [0, 4] [_, _] rfl ?_
        exact ih u.length _ _ _ (by simp only [List.length_cons]; omega) ⟨u, out ++ [9], v3, M3, rfl, hu1, by rw [← htr]; exact (TR_esc out rfl).symm, hB3, by simp only [List.length_append, List.length_cons, List.length_nil] at hob ⊢; omega, rfl, rfl, rfl⟩
      by_cases k9 : f = 117
      · subst k9
        refine Run.regionO (D := [some 118, some 117]) [true, true] rfl rfl rfl (fun Z hZ => ?_)
        refine QD.e (Ev.eqlI rfl rfl) (by decide) rfl ?_
        refine QD.ev T (by decide) rfl rfl ?_
        refine QD.nil (hZ _ ?_)
        clear hZ Z
        repeat (first | refine Run.seq ?_ | refine Run.cond_f rfl ?_)
        refine Run.regionO (D := [some 119, some 117]) [true, true] rfl rfl rfl (fun Z hZ => ?_)
        refine QD.e (Ev.eqlI rfl rfl) (by decide) rfl ?_
        refine QD.ev T (by decide) rfl rfl ?_
        refine QD.nil (hZ _ ?_)
        clear hZ Z
        repeat (first | refine Run.cond_f rfl ?_)
        refine Run.regionO (D := [some 120, some 117]) [true, true] rfl rfl rfl (fun Z hZ => ?_)
        refine QD.e (Ev.eqlI rfl rfl) (by decide) rfl ?_
        refine QD.ev T (by decide) rfl rfl ?_
        refine QD.nil (hZ _ ?_)
        clear hZ Z
        repeat (first | refine Run.seq ?_ | refine Run.cond_f rfl ?_)
        refine Run.regionO (D := [some 126, some 125]) [true, true] rfl rfl rfl (fun Z hZ => ?_)
        refine QD.e (Ev.eqlI rfl rfl) (by decide) rfl ?_
        refine QD.ev T (by decide) rfl rfl ?_
        refine QD.nil (hZ _ ?_)
        clear hZ Z
        repeat (first | refine Run.seq ?_ | refine Run.cond_f rfl ?_)
        refine Run.regionO (D := [some 131, some 130]) [true, true] rfl rfl rfl (fun Z hZ => ?_)
        refine QD.e (Ev.eqlI rfl rfl) (by decide) rfl ?_
        refine QD.ev T (by decide) rfl rfl ?_
        refine QD.nil (hZ _ ?_)
        clear hZ Z
        repeat (first | refine Run.seq ?_ | refine Run.cond_f rfl ?_)
        refine Run.regionO (D := [some 136, some 135]) [true, true] rfl rfl rfl (fun Z hZ => ?_)
        refine QD.e (Ev.eqlI rfl rfl) (by decide) rfl ?_
        refine QD.ev T (by decide) rfl rfl ?_
        refine QD.nil (hZ _ ?_)
        clear hZ Z
        repeat (first | refine Run.seq ?_ | refine Run.cond_f rfl ?_)
        refine Run.regionO (D := [some 141, some 140]) [true, true] rfl rfl rfl (fun Z hZ => ?_)
        refine QD.e (Ev.eqlI rfl rfl) (by decide) rfl ?_
        refine QD.ev T (by decide) rfl rfl ?_
        refine QD.nil (hZ _ ?_)
        clear hZ Z
        repeat (first | refine Run.seq ?_ | refine Run.cond_f rfl ?_)
        refine Run.regionO (D := [some 146, some 145]) [true, true] rfl rfl rfl (fun Z hZ => ?_)
        refine QD.e (Ev.eqlI rfl rfl) (by decide) rfl ?_
        refine QD.ev T (by decide) rfl rfl ?_
        refine QD.nil (hZ _ ?_)
        clear hZ Z
        repeat (first | refine Run.seq ?_ | refine Run.cond_f rfl ?_)
        refine Run.regionO (D := [some 151, some 150]) [true, true] rfl rfl rfl (fun Z hZ => ?_)
        refine QD.e (Ev.eqlI rfl rfl) (by decide) rfl ?_
        refine QD.ev T (by decide) rfl rfl ?_
        refine QD.nil (hZ _ ?_)
        clear hZ Z
        repeat (first | refine Run.seq ?_ | refine Run.cond_t rfl ?_)
        have hU1 := hUn u hux
        refine Run.regionP (D := [some 153, some 154, some 152, some 155, some 156, some 8, some 9]) [true] 1 rfl rfl rfl (by simp only [List.drop_succ_cons, List.drop_zero]; rfl) (fun Z hZ => ?_)
        refine QD.ev T (by decide) rfl rfl ?_
        refine QD.nil (hZ _ ?_)
        clear hZ Z
        cases h4 : unitR 4 0 u with
        | none =>
          rw [h4] at hU1
          refine Ops.callM (M := [_]) (hU1) (.refl _) rfl (by decide) call149 rfl ?_
          rintro x J1 M1 l1 ⟨rfl, p3, hp3, hp4, rfl, rfl⟩
          refine Ops.pure T rfl (by decide) rfl ?_
          refine Ops.pure T rfl (by decide) rfl ?_
          refine Ops.pure T rfl (by decide) rfl ?_
          refine Ops.pure T rfl (by decide) rfl ?_
          refine Ops.pure T rfl (by decide) rfl ?_
          refine Ops.nil ?_
          repeat (first | refine Run.seq ?_)
          refine Run.regionO (D := [some 157, some 158]) [true, true] rfl rfl rfl (fun Z hZ => ?_)
          refine QD.ev T (by decide) rfl rfl ?_
          refine QD.ev T (by decide) rfl rfl ?_
          refine QD.nil (hZ _ ?_)
          clear hZ Z
          repeat (first | refine Run.seq ?_ | refine Run.cond_t rfl ?_)
          refine Run.regionO (D := [some 2, some 3]) [true, true] rfl rfl rfl (fun Z hZ => ?_)
          refine QD.ev T (by decide) rfl rfl ?_
          refine QD.ev T (by decide) rfl rfl ?_
          refine QD.nil (hZ _ ?_)
          clear hZ Z
          have hx : TR (92 :: 117 :: u) out = none := by
            show TR (92 :: 117 :: u) out = none
            unfold TR
            rw [textR_cons, if_neg (by decide), if_neg (by decide), if_pos rfl]
            simp only [escR_u, escU, h4, Option.map_none]
          skip
          refine Run.dropL (L' := [(r, _)]) (List.Sublist.cons_cons _ (List.nil_sublist _)) ?_
          refine Run.ret2 (by rw [hCf]; exact func141) results141 rfl rfl (hR _ _ _ ?_)
          rw [← htr, hx]
          exact ⟨rfl, _, by omega, hp4, rfl, rfl⟩
        | some pr =>
          obtain ⟨y, s1⟩ := pr
          rw [h4] at hU1
          have k1 := unit_sfx _ _ _ h4
          refine Ops.callM (M := [_]) (hU1) (.refl _) rfl (by decide) call149 rfl ?_
          rintro x J1 M1 l1 ⟨rfl, rfl, rfl, hy⟩
          skip
          refine Ops.pure T rfl (by decide) rfl ?_
          refine Ops.pure T rfl (by decide) rfl ?_
          refine Ops.pure T rfl (by decide) rfl ?_
          refine Ops.pure T rfl (by decide) rfl ?_
          refine Ops.pure T rfl (by decide) rfl ?_
          refine Ops.nil ?_
          repeat (first | refine Run.seq ?_)
          refine Run.regionO (D := [some 157, some 158]) [true, true] rfl rfl rfl (fun Z hZ => ?_)
          refine QD.ev T (by decide) rfl rfl ?_
          refine QD.ev T (by decide) rfl rfl ?_
          refine QD.nil (hZ _ ?_)
          clear hZ Z
          repeat (first | refine Run.seq ?_ | refine Run.skip ?_ | refine Run.cond_f rfl ?_)
          by_cases y1 : y < 55296
          · have he : escU u = some (y, s1) := by unfold escU; rw [h4]; simp only; rw [if_neg (by omega)]
            refine Run.regionO (D := [some 159, some 160, some 161, some 162, some 163, some 164]) [true, true, true, true, true, true] rfl rfl rfl (fun Z hZ => ?_)
            refine QD.ev T (by decide) rfl rfl ?_
            refine QD.e ((Ev.geq rfl rfl).as (show _ = Value.bool false from congrArg Value.bool (decide_eq_false (by omega)))) (by decide) rfl ?_
            refine QD.ev T (by decide) rfl rfl ?_
            first | refine QD.ev T (by decide) rfl rfl ?_ | refine QD.off (by decide) rfl ?_
            first | refine QD.e (Ev.lss rfl rfl) (by decide) rfl ?_ | refine QD.off (by decide) rfl ?_
            refine QD.ev T (by decide) rfl rfl ?_
            refine QD.nil (hZ _ ?_)
            clear hZ Z
            repeat (first | refine Run.skip ?_ | refine Run.cond_f rfl ?_)
            skip
            refine Run.regionP (D := [some 195, some 196, some 197, some 4]) [true, true] 2 rfl rfl rfl (by simp only [List.drop_succ_cons, List.drop_zero]; rfl) (fun Z hZ => ?_)
            refine QD.ev T (by decide) rfl rfl ?_
            refine QD.ev T (by decide) rfl rfl ?_
            refine QD.nil (hZ _ ?_)
            clear hZ Z
            refine Ops.callP (N := [_]) ((utf8_Append _ v2 out y M2 hB (by omega) (by omega))) (.refl _) rfl (by decide) call148 rfl ?_
            rintro w J3 M3 l3 ⟨hB3, rfl⟩
            refine Ops.pure T rfl (by decide) rfl ?_
            refine Ops.nil ?_
            repeat (first | refine Run.inBlock ?_)
            refine Run.keep [0, 4] [_, _] rfl ?_
            have hel := encR_pos y
            have hsl2 := k1.len
            exact ih s1.length _ _ _ (by simp only [List.length_cons]; omega) ⟨s1, out ++ encR ((y : Nat) : Int), w, M3, rfl, k1.trans hu1, by rw [← htr]; exact (TR_esc out (by rw [escR_u, he]; rfl)).symm, hB3, by
              simp only [List.length_append, List.length_cons, List.length_nil] at hob ⊢; omega, rfl, rfl, rfl⟩
          by_cases y2 : 56320 ≤ y
          · have he : escU u = some (y, s1) := by unfold escU; rw [h4]; simp only; rw [if_neg (by omega)]
            refine Run.regionO (D := [some 159, some 160, some 161, some 162, some 163, some 164]) [true, true, true, true, true, true] rfl rfl rfl (fun Z hZ => ?_)
            refine QD.ev T (by decide) rfl rfl ?_
            refine QD.e ((Ev.geq rfl rfl).as (show _ = Value.bool true from congrArg Value.bool (decide_eq_true (by omega)))) (by decide) rfl ?_
            refine QD.ev T (by decide) rfl rfl ?_
            first | refine QD.ev T (by decide) rfl rfl ?_ | refine QD.off (by decide) rfl ?_
            refine QD.e ((Ev.lss rfl rfl).as (show _ = Value.bool false from congrArg Value.bool (decide_eq_false (by omega)))) (by decide) rfl ?_
            refine QD.ev T (by decide) rfl rfl ?_
            refine QD.nil (hZ _ ?_)
            clear hZ Z
            repeat (first | refine Run.skip ?_ | refine Run.cond_f rfl ?_)
            skip
            refine Run.regionP (D := [some 195, some 196, some 197, some 4]) [true, true] 2 rfl rfl rfl (by simp only [List.drop_succ_cons, List.drop_zero]; rfl) (fun Z hZ => ?_)
            refine QD.ev T (by decide) rfl rfl ?_
            refine QD.ev T (by decide) rfl rfl ?_
            refine QD.nil (hZ _ ?_)
            clear hZ Z
            refine Ops.callP (N := [_]) ((utf8_Append _ v2 out y M2 hB (by omega) (by omega))) (.refl _) rfl (by decide) call148 rfl ?_
            rintro w J3 M3 l3 ⟨hB3, rfl⟩
            refine Ops.pure T rfl (by decide) rfl ?_
            refine Ops.nil ?_
            repeat (first | refine Run.inBlock ?_)
            refine Run.keep [0, 4] [_, _] rfl ?_
            have hel := encR_pos y
            have hsl2 := k1.len
            exact ih s1.length _ _ _ (by simp only [List.length_cons]; omega) ⟨s1, out ++ encR ((y : Nat) : Int), w, M3, rfl, k1.trans hu1, by rw [← htr]; exact (TR_esc out (by rw [escR_u, he]; rfl)).symm, hB3, by
              simp only [List.length_append, List.length_cons, List.length_nil] at hob ⊢; omega, rfl, rfl, rfl⟩
          refine Run.regionO (D := [some 159, some 160, some 161, some 162, some 163, some 164]) [true, true, true, true, true, true] rfl rfl rfl (fun Z hZ => ?_)
          refine QD.ev T (by decide) rfl rfl ?_
          refine QD.e ((Ev.geq rfl rfl).as (show _ = Value.bool true from congrArg Value.bool (decide_eq_true (by omega)))) (by decide) rfl ?_
          refine QD.ev T (by decide) rfl rfl ?_
          first | refine QD.ev T (by decide) rfl rfl ?_ | refine QD.off (by decide) rfl ?_
          refine QD.e ((Ev.lss rfl rfl).as (show _ = Value.bool true from congrArg Value.bool (decide_eq_true (by omega)))) (by decide) rfl ?_
          refine QD.ev T (by decide) rfl rfl ?_
          refine QD.nil (hZ _ ?_)
          clear hZ Z
          repeat (first | refine Run.seq ?_ | refine Run.cond_t rfl ?_)
          refine Run.regionO (D := [some 165, some 166, some 167, some 168, some 10]) [true, true, true, true, true] rfl rfl rfl (fun Z hZ => ?_)
          refine QD.ev T (by decide) rfl rfl ?_
          refine QD.ev T (by decide) rfl rfl ?_
          refine QD.ev T (by decide) rfl rfl ?_
          first | refine QD.yv (by decide) rfl (Yv.load 0 T rfl rfl rfl rfl) ?_ | refine QD.yv (by decide) rfl (Yv.load 1 T rfl rfl rfl rfl) ?_ | refine QD.yv (by decide) rfl (Yv.load 2 T rfl rfl rfl rfl) ?_
          refine QD.ev T (by decide) rfl rfl ?_
          refine QD.nil (hZ _ ?_)
          clear hZ Z
          repeat (first | refine Run.seq ?_)
          refine Run.regionP (D := [some 169, some 170]) [true] 1 rfl rfl rfl (by simp only [List.drop_succ_cons, List.drop_zero]; rfl) (fun Z hZ => ?_)
          refine QD.ev T (by decide) rfl rfl ?_
          refine QD.nil (hZ _ ?_)
          clear hZ Z
          have hW1 := hWd s1 (k1.trans hux)
          cases h5 : wordR [92, 117] s1 with
          | none =>
            rw [h5] at hW1
            have he : escU u = some (y, s1) := by unfold escU; rw [h4]; simp only; rw [if_pos (by omega), h5]
            refine Ops.callM (M := [_]) (hW1) (.refl _) rfl (by decide) call142 rfl ?_
            rintro x J2 M3 l2 ⟨rfl, rfl, rfl⟩
            refine Ops.nil ?_
            repeat (first | refine Run.skip ?_ | refine Run.cond_f rfl ?_)
            skip
            refine Run.regionP (D := [some 195, some 196, some 197, some 4]) [true, true] 2 rfl rfl rfl (by simp only [List.drop_succ_cons, List.drop_zero]; rfl) (fun Z hZ => ?_)
            refine QD.ev T (by decide) rfl rfl ?_
            refine QD.ev T (by decide) rfl rfl ?_
            refine QD.nil (hZ _ ?_)
            clear hZ Z
            refine Ops.callP (N := [_]) ((utf8_Append _ v2 out y M2 hB (by omega) (by omega))) (.refl _) rfl (by decide) call148 rfl ?_
            rintro w J3 M3 l3 ⟨hB3, rfl⟩
            refine Ops.pure T rfl (by decide) rfl ?_
            refine Ops.nil ?_
            repeat (first | refine Run.inBlock ?_)
            refine Run.keep [0, 4] [_, _] rfl ?_
            have hel := encR_pos y
            have hsl2 := k1.len
            exact ih s1.length _ _ _ (by simp only [List.length_cons]; omega) ⟨s1, out ++ encR ((y : Nat) : Int), w, M3, rfl, k1.trans hu1, by rw [← htr]; exact (TR_esc out (by rw [escR_u, he]; rfl)).symm, hB3, by
              simp only [List.length_append, List.length_cons, List.length_nil] at hob ⊢; omega, rfl, rfl, rfl⟩
          | some s2 =>
            rw [h5] at hW1
            have k2 := (word_sfx h5).1.trans k1
            refine Ops.callM (M := [_]) (hW1) (.refl _) rfl (by decide) call142 rfl ?_
            rintro x J2 M3 l2 ⟨rfl, rfl, rfl⟩
            refine Ops.nil ?_
            repeat (first | refine Run.seq ?_ | refine Run.cond_t rfl ?_)
            have hU2 := hUn s2 (k2.trans hux)
            refine Run.regionP (D := [some 172, some 173, some 171, some 174, some 175, some 11, some 12]) [true] 1 rfl rfl rfl (by simp only [List.drop_succ_cons, List.drop_zero]; rfl) (fun Z hZ => ?_)
            refine QD.ev T (by decide) rfl rfl ?_
            refine QD.nil (hZ _ ?_)
            clear hZ Z
            cases h6 : unitR 4 0 s2 with
            | none =>
              rw [h6] at hU2
              refine Ops.callM (M := [_]) (hU2) (.refl _) rfl (by decide) call149 rfl ?_
              rintro x J1 M1 l1 ⟨rfl, p3, hp3, hp4, rfl, rfl⟩
              refine Ops.pure T rfl (by decide) rfl ?_
              refine Ops.pure T rfl (by decide) rfl ?_
              refine Ops.pure T rfl (by decide) rfl ?_
              refine Ops.pure T rfl (by decide) rfl ?_
              refine Ops.pure T rfl (by decide) rfl ?_
              refine Ops.nil ?_
              repeat (first | refine Run.seq ?_)
              refine Run.regionO (D := [some 176, some 177]) [true, true] rfl rfl rfl (fun Z hZ => ?_)
              refine QD.ev T (by decide) rfl rfl ?_
              refine QD.ev T (by decide) rfl rfl ?_
              refine QD.nil (hZ _ ?_)
              clear hZ Z
              repeat (first | refine Run.seq ?_ | refine Run.cond_t rfl ?_)
              refine Run.regionO (D := [some 2, some 3]) [true, true] rfl rfl rfl (fun Z hZ => ?_)
              refine QD.ev T (by decide) rfl rfl ?_
              refine QD.ev T (by decide) rfl rfl ?_
              refine QD.nil (hZ _ ?_)
              clear hZ Z
              have hx : TR (92 :: 117 :: u) out = none := by
                unfold TR
                rw [textR_cons, if_neg (by decide), if_neg (by decide), if_pos rfl]
                have : escU u = none := by unfold escU; rw [h4]; simp only; rw [if_pos (by omega), h5]; simp only; rw [h6]
                simp only [escR_u, this, Option.map_none]
              have := (le (k2.trans hu1)).1
              skip
              refine Run.dropL (L' := [(r, _)]) (List.Sublist.cons_cons _ (List.nil_sublist _)) ?_
              refine Run.ret2 (by rw [hCf]; exact func141) results141 rfl rfl (hR _ _ _ ?_)
              rw [← htr, hx]
              exact ⟨rfl, _, Nat.le_trans this hp3, hp4, rfl, rfl⟩
            | some pr2 =>
              obtain ⟨z, s3⟩ := pr2
              rw [h6] at hU2
              have k3 := (unit_sfx _ _ _ h6).trans k2
              refine Ops.callM (M := [_]) (hU2) (.refl _) rfl (by decide) call149 rfl ?_
              rintro x J1 M1 l1 ⟨rfl, rfl, rfl, hz⟩
              skip
              refine Ops.pure T rfl (by decide) rfl ?_
              refine Ops.pure T rfl (by decide) rfl ?_
              refine Ops.pure T rfl (by decide) rfl ?_
              refine Ops.pure T rfl (by decide) rfl ?_
              refine Ops.pure T rfl (by decide) rfl ?_
              refine Ops.nil ?_
              repeat (first | refine Run.seq ?_)
              refine Run.regionO (D := [some 176, some 177]) [true, true] rfl rfl rfl (fun Z hZ => ?_)
              refine QD.ev T (by decide) rfl rfl ?_
              refine QD.ev T (by decide) rfl rfl ?_
              refine QD.nil (hZ _ ?_)
              clear hZ Z
              repeat (first | refine Run.seq ?_ | refine Run.skip ?_ | refine Run.cond_f rfl ?_)
              by_cases z1 : z < 56320
              · have he : escU u = some (y, s1) := by unfold escU; rw [h4]; simp only; rw [if_pos (by omega), h5]; simp only; rw [h6]; simp only; rw [if_neg (by omega)]
                refine Run.regionO (D := [some 178, some 179, some 180, some 181, some 182, some 183]) [true, true, true, true, true, true] rfl rfl rfl (fun Z hZ => ?_)
                refine QD.ev T (by decide) rfl rfl ?_
                refine QD.e ((Ev.geq rfl rfl).as (show _ = Value.bool false from congrArg Value.bool (decide_eq_false (by omega)))) (by decide) rfl ?_
                refine QD.ev T (by decide) rfl rfl ?_
                first | refine QD.ev T (by decide) rfl rfl ?_ | refine QD.off (by decide) rfl ?_
                first | refine QD.e (Ev.lss rfl rfl) (by decide) rfl ?_ | refine QD.off (by decide) rfl ?_
                refine QD.ev T (by decide) rfl rfl ?_
                refine QD.nil (hZ _ ?_)
                clear hZ Z
                repeat (first | refine Run.cond_f rfl ?_)
                refine Run.regionP (D := [some 191, some 192, some 193, some 194, none]) [true, true, true, true] 4 rfl rfl rfl (by simp only [List.drop_succ_cons, List.drop_zero]; rfl) (fun Z hZ => ?_)
                refine QD.ev T (by decide) rfl rfl ?_
                refine QD.ev T (by decide) rfl rfl ?_
                refine QD.ev T (by decide) rfl rfl ?_
                refine QD.ev T (by decide) rfl rfl ?_
                refine QD.nil (hZ _ ?_)
                clear hZ Z
                first | refine Ops.store 0 rfl rfl rfl rfl rfl (T.sizeOk rfl) rfl (Nat.le_of_ble_eq_true rfl) rfl rfl ?_ | refine Ops.store 1 rfl rfl rfl rfl rfl (T.sizeOk rfl) rfl (Nat.le_of_ble_eq_true rfl) rfl rfl ?_ | refine Ops.store 2 rfl rfl rfl rfl rfl (T.sizeOk rfl) rfl (Nat.le_of_ble_eq_true rfl) rfl rfl ?_
                refine Ops.nil ?_
                skip
                refine Run.regionP (D := [some 195, some 196, some 197, some 4]) [true, true] 2 rfl rfl rfl (by simp only [List.drop_succ_cons, List.drop_zero]; rfl) (fun Z hZ => ?_)
                refine QD.ev T (by decide) rfl rfl ?_
                refine QD.ev T (by decide) rfl rfl ?_
                refine QD.nil (hZ _ ?_)
                clear hZ Z
                refine Ops.callP (N := [_]) ((utf8_Append _ v2 out y M2 hB (by omega) (by omega))) (.refl _) rfl (by decide) call148 rfl ?_
                rintro w J3 M3 l3 ⟨hB3, rfl⟩
                refine Ops.pure T rfl (by decide) rfl ?_
                refine Ops.nil ?_
                repeat (first | refine Run.inBlock ?_)
                refine Run.keep [0, 4] [_, _] rfl ?_
                have hel := encR_pos y
                have hsl2 := k1.len
                exact ih s1.length _ _ _ (by simp only [List.length_cons]; omega) ⟨s1, out ++ encR ((y : Nat) : Int), w, M3, rfl, k1.trans hu1, by rw [← htr]; exact (TR_esc out (by rw [escR_u, he]; rfl)).symm, hB3, by
                  simp only [List.length_append, List.length_cons, List.length_nil] at hob ⊢; omega, rfl, rfl, rfl⟩
              by_cases z2 : 57344 ≤ z
              · have he : escU u = some (y, s1) := by unfold escU; rw [h4]; simp only; rw [if_pos (by omega), h5]; simp only; rw [h6]; simp only; rw [if_neg (by omega)]
                refine Run.regionO (D := [some 178, some 179, some 180, some 181, some 182, some 183]) [true, true, true, true, true, true] rfl rfl rfl (fun Z hZ => ?_)
                refine QD.ev T (by decide) rfl rfl ?_
                refine QD.e ((Ev.geq rfl rfl).as (show _ = Value.bool true from congrArg Value.bool (decide_eq_true (by omega)))) (by decide) rfl ?_
                refine QD.ev T (by decide) rfl rfl ?_
                first | refine QD.ev T (by decide) rfl rfl ?_ | refine QD.off (by decide) rfl ?_
                refine QD.e ((Ev.lss rfl rfl).as (show _ = Value.bool false from congrArg Value.bool (decide_eq_false (by omega)))) (by decide) rfl ?_
                refine QD.ev T (by decide) rfl rfl ?_
                refine QD.nil (hZ _ ?_)
                clear hZ Z
                repeat (first | refine Run.cond_f rfl ?_)
                refine Run.regionP (D := [some 191, some 192, some 193, some 194, none]) [true, true, true, true] 4 rfl rfl rfl (by simp only [List.drop_succ_cons, List.drop_zero]; rfl) (fun Z hZ => ?_)
                refine QD.ev T (by decide) rfl rfl ?_
                refine QD.ev T (by decide) rfl rfl ?_
                refine QD.ev T (by decide) rfl rfl ?_
                refine QD.ev T (by decide) rfl rfl ?_
                refine QD.nil (hZ _ ?_)
                clear hZ Z
                first | refine Ops.store 0 rfl rfl rfl rfl rfl (T.sizeOk rfl) rfl (Nat.le_of_ble_eq_true rfl) rfl rfl ?_ | refine Ops.store 1 rfl rfl rfl rfl rfl (T.sizeOk rfl) rfl (Nat.le_of_ble_eq_true rfl) rfl rfl ?_ | refine Ops.store 2 rfl rfl rfl rfl rfl (T.sizeOk rfl) rfl (Nat.le_of_ble_eq_true rfl) rfl rfl ?_
                refine Ops.nil ?_
                skip
                refine Run.regionP (D := [some 195, some 196, some 197, some 4]) [true, true] 2 rfl rfl rfl (by simp only [List.drop_succ_cons, List.drop_zero]; rfl) (fun Z hZ => ?_)
                refine QD.ev T (by decide) rfl rfl ?_
                refine QD.ev T (by decide) rfl rfl ?_
                refine QD.nil (hZ _ ?_)
                clear hZ Z
                refine Ops.callP (N := [_]) ((utf8_Append _ v2 out y M2 hB (by omega) (by omega))) (.refl _) rfl (by decide) call148 rfl ?_
                rintro w J3 M3 l3 ⟨hB3, rfl⟩
                refine Ops.pure T rfl (by decide) rfl ?_
                refine Ops.nil ?_
                repeat (first | refine Run.inBlock ?_)
                refine Run.keep [0, 4] [_, _] rfl ?_
                have hel := encR_pos y
                have hsl2 := k1.len
                exact ih s1.length _ _ _ (by simp only [List.length_cons]; omega) ⟨s1, out ++ encR ((y : Nat) : Int), w, M3, rfl, k1.trans hu1, by rw [← htr]; exact (TR_esc out (by rw [escR_u, he]; rfl)).symm, hB3, by
                  simp only [List.length_append, List.length_cons, List.length_nil] at hob ⊢; omega, rfl, rfl, rfl⟩
              have he : escU u = some (65536 + (y - 55296) * 1024 + (z - 56320), s3) := by unfold escU; rw [h4]; simp only; rw [if_pos (by omega), h5]; simp only; rw [h6]; simp only; rw [if_pos (by omega)]
              refine Run.regionO (D := [some 178, some 179, some 180, some 181, some 182, some 183]) [true, true, true, true, true, true] rfl rfl rfl (fun Z hZ => ?_)
              refine QD.ev T (by decide) rfl rfl ?_
              refine QD.e ((Ev.geq rfl rfl).as (show _ = Value.bool true from congrArg Value.bool (decide_eq_true (by omega)))) (by decide) rfl ?_
              refine QD.ev T (by decide) rfl rfl ?_
              first | refine QD.ev T (by decide) rfl rfl ?_ | refine QD.off (by decide) rfl ?_
              refine QD.e ((Ev.lss rfl rfl).as (show _ = Value.bool true from congrArg Value.bool (decide_eq_true (by omega)))) (by decide) rfl ?_
              refine QD.ev T (by decide) rfl rfl ?_
              refine QD.nil (hZ _ ?_)
              clear hZ Z
              repeat (first | refine Run.cond_t rfl ?_)
              generalize hv : 65536 + (y - 55296) * 1024 + (z - 56320) = vv at he
              have hvv : vv ≤ 1114111 := by omega
              refine Run.regionO (D := [some 184, some 185, some 186, some 187, some 188, some 189, some 190, some 8]) [true, true, true, true, true, true, true, true] rfl rfl rfl (fun Z hZ => ?_)
              refine QD.ev T (by decide) rfl rfl ?_
              refine QD.e (Ev.subK (r := ((y - 55296 : Nat) : Int)) rfl rfl (by rw [wrapI32 (by omega) (by omega)]; omega)) (by decide) rfl ?_
              refine QD.e (Ev.shlK (r := (((y - 55296) * 1024 : Nat) : Int)) rfl rfl (by decide) (by decide) (by rw [shl10, wrapI32 (by omega) (by omega)])) (by decide) rfl ?_
              refine QD.e (Ev.addK (r := ((65536 + (y - 55296) * 1024 : Nat) : Int)) rfl rfl (by rw [wrapI32 (by omega) (by omega)]; omega)) (by decide) rfl ?_
              refine QD.ev T (by decide) rfl rfl ?_
              refine QD.e (Ev.subK (r := ((z - 56320 : Nat) : Int)) rfl rfl (by rw [wrapI32 (by omega) (by omega)]; omega)) (by decide) rfl ?_
              refine QD.e (Ev.addK (r := (vv : Int)) rfl rfl (by rw [wrapI32 (by omega) (by omega)]; omega)) (by decide) rfl ?_
              refine QD.ev T (by decide) rfl rfl ?_
              refine QD.nil (hZ _ ?_)
              clear hZ Z
              skip
              refine Run.regionP (D := [some 195, some 196, some 197, some 4]) [true, true] 2 rfl rfl rfl (by simp only [List.drop_succ_cons, List.drop_zero]; rfl) (fun Z hZ => ?_)
              refine QD.ev T (by decide) rfl rfl ?_
              refine QD.ev T (by decide) rfl rfl ?_
              refine QD.nil (hZ _ ?_)
              clear hZ Z
              refine Ops.callP (N := [_]) ((utf8_Append _ v2 out vv M2 hB (by omega) (by omega))) (.refl _) rfl (by decide) call148 rfl ?_
              rintro w J3 M3 l3 ⟨hB3, rfl⟩
              refine Ops.pure T rfl (by decide) rfl ?_
              refine Ops.nil ?_
              repeat (first | refine Run.inBlock ?_)
              refine Run.keep [0, 4] [_, _] rfl ?_
              have hel := encR_pos vv
              have hsl2 := k3.len
              exact ih s3.length _ _ _ (by simp only [List.length_cons]; omega) ⟨s3, out ++ encR ((vv : Nat) : Int), w, M3, rfl, k3.trans hu1, by rw [← htr]; exact (TR_esc out (by rw [escR_u, he]; rfl)).symm, hB3, by
                simp only [List.length_append, List.length_cons, List.length_nil] at hob ⊢; omega, rfl, rfl, rfl⟩
      refine Run.regionO (D := [some 118, some 117]) [true, true] rfl rfl rfl (fun Z hZ => ?_)
      refine QD.e ((Ev.eqlI rfl rfl).as (show _ = Value.bool false from congrArg Value.bool (nn 34 34 rfl k1))) (by decide) rfl ?_
      refine QD.ev T (by decide) rfl rfl ?_
      refine QD.nil (hZ _ ?_)
      clear hZ Z
      repeat (first | refine Run.seq ?_ | refine Run.cond_f rfl ?_)
      refine Run.regionO (D := [some 119, some 117]) [true, true] rfl rfl rfl (fun Z hZ => ?_)
      refine QD.e ((Ev.eqlI rfl rfl).as (show _ = Value.bool false from congrArg Value.bool (nn 92 92 rfl k2))) (by decide) rfl ?_
      refine QD.ev T (by decide) rfl rfl ?_
      refine QD.nil (hZ _ ?_)
      clear hZ Z
      repeat (first | refine Run.cond_f rfl ?_)
      refine Run.regionO (D := [some 120, some 117]) [true, true] rfl rfl rfl (fun Z hZ => ?_)
      refine QD.e ((Ev.eqlI rfl rfl).as (show _ = Value.bool false from congrArg Value.bool (nn 47 47 rfl k3))) (by decide) rfl ?_
      refine QD.ev T (by decide) rfl rfl ?_
      refine QD.nil (hZ _ ?_)
      clear hZ Z
      repeat (first | refine Run.seq ?_ | refine Run.cond_f rfl ?_)
      refine Run.regionO (D := [some 126, some 125]) [true, true] rfl rfl rfl (fun Z hZ => ?_)
      refine QD.e ((Ev.eqlI rfl rfl).as (show _ = Value.bool false from congrArg Value.bool (nn 98 98 rfl k4))) (by decide) rfl ?_
      refine QD.ev T (by decide) rfl rfl ?_
      refine QD.nil (hZ _ ?_)
      clear hZ Z
      repeat (first | refine Run.seq ?_ | refine Run.cond_f rfl ?_)
      refine Run.regionO (D := [some 131, some 130]) [true, true] rfl rfl rfl (fun Z hZ => ?_)
      refine QD.e ((Ev.eqlI rfl rfl).as (show _ = Value.bool false from congrArg Value.bool (nn 102 102 rfl k5))) (by decide) rfl ?_
      refine QD.ev T (by decide) rfl rfl ?_
      refine QD.nil (hZ _ ?_)
      clear hZ Z
      repeat (first | refine Run.seq ?_ | refine Run.cond_f rfl ?_)
      refine Run.regionO (D := [some 136, some 135]) [true, true] rfl rfl rfl (fun Z hZ => ?_)
      refine QD.e ((Ev.eqlI rfl rfl).as (show _ = Value.bool false from congrArg Value.bool (nn 110 110 rfl k6))) (by decide) rfl ?_
      refine QD.ev T (by decide) rfl rfl ?_
      refine QD.nil (hZ _ ?_)
      clear hZ Z
      repeat (first | refine Run.seq ?_ | refine Run.cond_f rfl ?_)
      refine Run.regionO (D := [some 141, some 140]) [true, true] rfl rfl rfl (fun Z hZ => ?_)
      refine QD.e ((Ev.eqlI rfl rfl).as (show _ = Value.bool false from congrArg Value.bool (nn 114 114 rfl k7))) (by decide) rfl ?_
      refine QD.ev T (by decide) rfl rfl ?_
      refine QD.nil (hZ _ ?_)
      clear hZ Z
      repeat (first | refine Run.seq ?_ | refine Run.cond_f rfl ?_)
      refine Run.regionO (D := [some 146, some 145]) [true, true] rfl rfl rfl (fun Z hZ => ?_)
      refine QD.e ((Ev.eqlI rfl rfl).as (show _ = Value.bool false from congrArg Value.bool (nn 116 116 rfl k8))) (by decide) rfl ?_
      refine QD.ev T (by decide) rfl rfl ?_
      refine QD.nil (hZ _ ?_)
      clear hZ Z
      repeat (first | refine Run.seq ?_ | refine Run.cond_f rfl ?_)
      refine Run.regionO (D := [some 151, some 150]) [true, true] rfl rfl rfl (fun Z hZ => ?_)
      refine QD.e ((Ev.eqlI rfl rfl).as (show _ = Value.bool false from congrArg Value.bool (nn 117 117 rfl k9))) (by decide) rfl ?_
      refine QD.ev T (by decide) rfl rfl ?_
      refine QD.nil (hZ _ ?_)
      clear hZ Z
      repeat (first | refine Run.seq ?_ | refine Run.cond_f rfl ?_)
      refine Run.regionO (D := [some 2, some 3]) [true, true] rfl rfl rfl (fun Z hZ => ?_)
      refine QD.ev T (by decide) rfl rfl ?_
      refine QD.ev T (by decide) rfl rfl ?_
      refine QD.nil (hZ _ ?_)
      clear hZ Z
      have hx : TR (92 :: f :: u) out = none := by
        unfold TR
        rw [textR_cons, if_neg (by decide), if_neg (by decide), if_pos rfl]
        have : escR f u = none := by
          unfold escR
          rw [if_neg (show ¬ (f = 34 ∨ f = 92 ∨ f = 47) from fun h => h.elim k1 fun h => h.elim k2 k3), if_neg k4, if_neg k5, if_neg k6, if_neg k7, if_neg k8, if_neg k9]
        simp only [this]
      skip
      refine Run.dropL (L' := [(r, _)]) (List.Sublist.cons_cons _ (List.nil_sublist _)) ?_
      refine Run.ret2 (by rw [hCf]; exact func141) results141 rfl rfl (hR _ _ _ ?_)
      rw [← htr, hx]
      exact ⟨rfl, _, hlu.1, hlu.2, rfl, rfl⟩
end Go.V
namespace Go.V
open Go.Proofs.Tryz
open Go.RowKit
set_option linter.unusedVariables false
set_option linter.unusedSimpArgs false
set_option maxRecDepth 10000
attribute [local irreducible] Run Ops QD
def tJV0 : Ty JV := ⟨5, fun _ _ _ => False, fun h => h.elim, fun h _ => h⟩
def tJVs (t : Ty JV) : Ty JV := ⟨5, fun I cs v => ∃ vk vn, cs = [.int .u8 (v.kind.toNat : Int), .bool v.plain, str v.text, vk, vn] ∧ Sl t I vk v.kids ∧ Sl tStr I vn v.keys,
  fun ⟨vk, vn, h, _⟩ => by subst h; rfl, fun ⟨vk, vn, h, h1, h2⟩ hle => ⟨vk, vn, h, h1.mono hle, h2.mono hle⟩⟩
def tJV : Nat → Ty JV
  | 0 => tJV0
  | f + 1 => tJVs (tJV f)
theorem tJV_size : ∀ f, (tJV f).size = 5
  | 0 => rfl
  | _ + 1 => rfl
def RdPost (r : Nat) (w : Value) (xs : Bs) (d f : Nat) (res : Option (JV × Bs)) (x : Value) (J : Imm) (M : Own) : Prop := match res with
  | some (v, t) => ∃ cs : List Value, x = .tuple #[.agg cs.toArray, .bool true] ∧ (tJV (f + 1)).rel J cs v ∧ M = [(r, rdr w (posR xs t) d)]
  | none => ∃ (cs : List Value) (p d' : Nat), x = .tuple #[.agg cs.toArray, .bool false] ∧ cs.length = 5 ∧ one cs = true ∧ p ≤ xs.length ∧ M = [(r, rdr w p d')]
def ValSpec (f : Nat) : Prop := ∀ (t : Bs) (I : Imm) (xs : Bs) (w : Value) (db off c r d : Nat), UT I → Rd I w xs db off c → Sfx t xs → xs.length ≤ 137438953472 → d + f = 10000 →
  Spec prog 120 [.pointer (some ⟨r, 0, none⟩)] I [(r, rdr w (posR xs t) d)] (RdPost r w xs d f (rdV f t))
theorem list5 {cs : List Value} (h : cs.length = 5) : ∃ a b c d e, cs = [a, b, c, d, e] := by
  match cs, h with
  | [a, b, c, d, e], _ => exact ⟨a, b, c, d, e, rfl⟩
set_option maxHeartbeats 4000000 in
theorem reader_elements (f : Nat) (hV : ∀ g, f = g + 1 → ValSpec g) (sub : Option (Bs → Option (JV × Bs))) (hsub : (f = 0 ∧ sub = none) ∨ ∃ g, f = g + 1 ∧ sub = some (rdV g)) (q : UInt8) (t : Bs) (I : Imm) (xs : Bs) (w : Value) (db off c r d : Nat) (hU : UT I) (hR0 : Rd I w xs db off c) (ht : Sfx (q :: t) xs)
    (hl : xs.length ≤ 137438953472) (hd : d + f = 10000) :
    Spec prog 140 [.pointer (some ⟨r, 0, none⟩)] I [(r, rdr w (posR xs (q :: t)) d)] (RdPost r w xs d f (sub.bind fun v => listR v t)) := by
  have hBl : ∀ (J : Imm) (d : Nat) (s : Bs), Le I J → Sfx s xs → _ := fun J d s hle hs => blank_at s J xs w db off c r d (hR0.mono hle) hs (by omega)
  have hWd : ∀ (b : UInt8) (J : Imm) (d : Nat) (s : Bs), Le I J → Sfx s xs → _ := fun b J d s hle hs => word_at [b] s J xs w db off c r d (hR0.mono hle) hs (by omega) (by simp) (by simp)
  have hVa : ∀ g (J : Imm) (s : Bs), f = g + 1 → Le I J → Sfx s xs → _ := fun g J s e hle hs => hV g e s J xs w db off c r (d + 1) (hU.mono hle) (hR0.mono hle) hs hl (by omega)
  obtain rfl := hR0.eq
  have hcap := hR0.cap
  obtain ⟨q1, q2, q3⟩ := sfx_getD ht
  have ht1 : Sfx t xs := (Sfx.cons q t).trans ht
  have pl : ∀ s : Bs, posR xs s ≤ xs.length := fun s => by unfold posR; omega
  refine Spec.enter 69 [(0, _)] func140 rfl ntmps140 (by simp) rfl ?_
  intro C hCf hR hCI
  repeat (first | refine Run.seq ?_)
  refine Run.region ?_
  refine Ops.alloc rfl (by decide) (T.zeroOk rfl) rfl (fun b2 => ?_)
  refine Ops.pure T rfl (by decide) rfl ?_
  refine Ops.nil ?_
  repeat (first | refine Run.seq ?_)
  refine Run.region ?_
  refine Ops.pure T rfl (by decide) rfl ?_
  first | refine Ops.store 0 rfl rfl rfl rfl rfl (T.sizeOk rfl) rfl (Nat.le_of_ble_eq_true rfl) rfl rfl ?_ | refine Ops.store 1 rfl rfl rfl rfl rfl (T.sizeOk rfl) rfl (Nat.le_of_ble_eq_true rfl) rfl rfl ?_ | refine Ops.store 2 rfl rfl rfl rfl rfl (T.sizeOk rfl) rfl (Nat.le_of_ble_eq_true rfl) rfl rfl ?_
  refine Ops.nil ?_
  repeat (first | refine Run.seq ?_)
  refine Run.regionP (D := [some 7, some 8, some 9, some 10, some 11, some 12, some 13, none]) [true, true, true, true, true, true, true] 7 rfl rfl rfl (by simp only [List.drop_succ_cons, List.drop_zero]; rfl) (fun Z hZ => ?_)
  refine QD.ev T (by decide) rfl rfl ?_
  refine QD.ev T (by decide) rfl rfl ?_
  refine QD.ev T (by decide) rfl rfl ?_
  first | refine QD.yv (by decide) rfl (Yv.load 0 T rfl rfl rfl rfl) ?_ | refine QD.yv (by decide) rfl (Yv.load 1 T rfl rfl rfl rfl) ?_ | refine QD.yv (by decide) rfl (Yv.load 2 T rfl rfl rfl rfl) ?_
  refine QD.e (Ev.addK (r := (posR xs t : Int)) rfl rfl (by rw [wI (by omega) (by omega), q3]; omega)) (by decide) rfl ?_
  refine QD.ev T (by decide) rfl rfl ?_
  refine QD.ev T (by decide) rfl rfl ?_
  refine QD.nil (hZ _ ?_)
  clear hZ Z
  first | refine Ops.store 0 rfl rfl rfl rfl rfl (T.sizeOk rfl) rfl (Nat.le_of_ble_eq_true rfl) rfl rfl ?_ | refine Ops.store 1 rfl rfl rfl rfl rfl (T.sizeOk rfl) rfl (Nat.le_of_ble_eq_true rfl) rfl rfl ?_ | refine Ops.store 2 rfl rfl rfl rfl rfl (T.sizeOk rfl) rfl (Nat.le_of_ble_eq_true rfl) rfl rfl ?_
  refine Ops.nil ?_
  repeat (first | refine Run.seq ?_)
  refine Run.regionP (D := [some 14, some 15, some 16, some 17, some 18, some 19, some 20, none]) [true, true, true, true, true, true, true] 7 rfl rfl rfl (by simp only [List.drop_succ_cons, List.drop_zero]; rfl) (fun Z hZ => ?_)
  refine QD.ev T (by decide) rfl rfl ?_
  refine QD.ev T (by decide) rfl rfl ?_
  refine QD.ev T (by decide) rfl rfl ?_
  first | refine QD.yv (by decide) rfl (Yv.load 0 T rfl rfl rfl rfl) ?_ | refine QD.yv (by decide) rfl (Yv.load 1 T rfl rfl rfl rfl) ?_ | refine QD.yv (by decide) rfl (Yv.load 2 T rfl rfl rfl rfl) ?_
  refine QD.e (Ev.addK (r := ((d + 1 : Nat) : Int)) rfl rfl (by rw [wI (by omega) (by omega)]; omega)) (by decide) rfl ?_
  refine QD.ev T (by decide) rfl rfl ?_
  refine QD.ev T (by decide) rfl rfl ?_
  refine QD.nil (hZ _ ?_)
  clear hZ Z
  first | refine Ops.store 0 rfl rfl rfl rfl rfl (T.sizeOk rfl) rfl (Nat.le_of_ble_eq_true rfl) rfl rfl ?_ | refine Ops.store 1 rfl rfl rfl rfl rfl (T.sizeOk rfl) rfl (Nat.le_of_ble_eq_true rfl) rfl rfl ?_ | refine Ops.store 2 rfl rfl rfl rfl rfl (T.sizeOk rfl) rfl (Nat.le_of_ble_eq_true rfl) rfl rfl ?_
  refine Ops.nil ?_
  repeat (first | refine Run.seq ?_)
  rcases hsub with ⟨rfl, rfl⟩ | ⟨g, rfl, rfl⟩
  · skip
    refine Run.regionO (D := [some 21, some 22, some 23, some 24, some 25]) [true, true, true, true, true] rfl rfl rfl (fun Z hZ => ?_)
    refine QD.ev T (by decide) rfl rfl ?_
    refine QD.ev T (by decide) rfl rfl ?_
    refine QD.ev T (by decide) rfl rfl ?_
    first | refine QD.yv (by decide) rfl (Yv.load 0 T rfl rfl rfl rfl) ?_ | refine QD.yv (by decide) rfl (Yv.load 1 T rfl rfl rfl rfl) ?_ | refine QD.yv (by decide) rfl (Yv.load 2 T rfl rfl rfl rfl) ?_
    refine QD.e ((Ev.gtr rfl rfl).as (show _ = Value.bool true from congrArg Value.bool (decide_eq_true (by omega)))) (by decide) rfl ?_
    refine QD.nil (hZ _ ?_)
    clear hZ Z
    repeat (first | refine Run.seq ?_ | refine Run.cond_t rfl ?_)
    refine Run.region ?_
    first | refine Ops.loadN 0 rfl (by decide) rfl rfl (T.aggOk rfl) (T.sizeOk rfl) rfl rfl ?_ | refine Ops.loadN 1 rfl (by decide) rfl rfl (T.aggOk rfl) (T.sizeOk rfl) rfl rfl ?_ | refine Ops.loadN 2 rfl (by decide) rfl rfl (T.aggOk rfl) (T.sizeOk rfl) rfl rfl ?_
    first | refine Ops.store 0 rfl rfl rfl rfl rfl (T.sizeOk rfl) rfl (Nat.le_of_ble_eq_true rfl) rfl rfl ?_ | refine Ops.store 1 rfl rfl rfl rfl rfl (T.sizeOk rfl) rfl (Nat.le_of_ble_eq_true rfl) rfl rfl ?_ | refine Ops.store 2 rfl rfl rfl rfl rfl (T.sizeOk rfl) rfl (Nat.le_of_ble_eq_true rfl) rfl rfl ?_
    refine Ops.pure T rfl (by decide) rfl ?_
    refine Ops.nil ?_
    skip
    refine Run.retCTK T 0 (by rw [hCf]; exact func140) results140 rfl rfl rfl rfl rfl rfl rfl (List.Sublist.cons _ (List.Sublist.cons_cons _ (List.nil_sublist _))) (hR _ _ _ ?_)
    show RdPost _ _ _ _ _ (none) _ _ _
    rw [(rfl : (none : Option (JV × Bs)) = none)]
    exact ⟨_, _, _, rfl, rfl, rfl, pl _, rfl⟩
  refine Run.regionO (D := [some 21, some 22, some 23, some 24, some 25]) [true, true, true, true, true] rfl rfl rfl (fun Z hZ => ?_)
  refine QD.ev T (by decide) rfl rfl ?_
  refine QD.ev T (by decide) rfl rfl ?_
  refine QD.ev T (by decide) rfl rfl ?_
  first | refine QD.yv (by decide) rfl (Yv.load 0 T rfl rfl rfl rfl) ?_ | refine QD.yv (by decide) rfl (Yv.load 1 T rfl rfl rfl rfl) ?_ | refine QD.yv (by decide) rfl (Yv.load 2 T rfl rfl rfl rfl) ?_
  refine QD.e ((Ev.gtr rfl rfl).as (show _ = Value.bool false from congrArg Value.bool (decide_eq_false (by omega)))) (by decide) rfl ?_
  refine QD.nil (hZ _ ?_)
  clear hZ Z
  repeat (first | refine Run.seq ?_ | refine Run.skip ?_ | refine Run.cond_f rfl ?_)
  refine Run.regionP (D := [some 27, some 28]) [true] 1 rfl rfl rfl (by simp only [List.drop_succ_cons, List.drop_zero]; rfl) (fun Z hZ => ?_)
  refine QD.ev T (by decide) rfl rfl ?_
  refine QD.nil (hZ _ ?_)
  clear hZ Z
  refine Ops.callP (N := [_]) ((hBl _ _ _ (Le.refl _) ht1)) (.refl _) rfl (by decide) call121 rfl ?_
  rintro x J1 M1 l1 ⟨rfl, rfl⟩
  refine Ops.nil ?_
  have hs1 : Sfx (skipB t) xs := (skip_sfx t).trans ht1
  repeat (first | refine Run.seq ?_)
  refine Run.regionP (D := [some 29, some 30]) [true] 1 rfl rfl rfl (by simp only [List.drop_succ_cons, List.drop_zero]; rfl) (fun Z hZ => ?_)
  refine QD.ev T (by decide) rfl rfl ?_
  refine QD.nil (hZ _ ?_)
  clear hZ Z
  cases hw : wordR [93] (skipB t) with
  | some s2 =>
    have hW1 := hWd 93 J1 (d + 1) (skipB t) (Le.refl _) hs1
    rw [hw] at hW1
    refine Ops.callP (N := [_]) (hW1) (.refl _) rfl (by decide) call142 rfl ?_
    rintro x J2 M2 l2 ⟨rfl, rfl, rfl⟩
    refine Ops.nil ?_
    repeat (first | refine Run.seq ?_ | refine Run.cond_t rfl ?_)
    refine Run.regionP (D := [some 31, some 32, some 33, some 34, some 35, some 36, some 37, none]) [true, true, true, true, true, true, true] 7 rfl rfl rfl (by simp only [List.drop_succ_cons, List.drop_zero]; rfl) (fun Z hZ => ?_)
    refine QD.ev T (by decide) rfl rfl ?_
    refine QD.ev T (by decide) rfl rfl ?_
    refine QD.ev T (by decide) rfl rfl ?_
    first | refine QD.yv (by decide) rfl (Yv.load 0 T rfl rfl rfl rfl) ?_ | refine QD.yv (by decide) rfl (Yv.load 1 T rfl rfl rfl rfl) ?_ | refine QD.yv (by decide) rfl (Yv.load 2 T rfl rfl rfl rfl) ?_
    refine QD.e (Ev.subK (r := (d : Int)) rfl rfl (by rw [wI (by omega) (by omega)]; omega)) (by decide) rfl ?_
    refine QD.ev T (by decide) rfl rfl ?_
    refine QD.ev T (by decide) rfl rfl ?_
    refine QD.nil (hZ _ ?_)
    clear hZ Z
    first | refine Ops.store 0 rfl rfl rfl rfl rfl (T.sizeOk rfl) rfl (Nat.le_of_ble_eq_true rfl) rfl rfl ?_ | refine Ops.store 1 rfl rfl rfl rfl rfl (T.sizeOk rfl) rfl (Nat.le_of_ble_eq_true rfl) rfl rfl ?_ | refine Ops.store 2 rfl rfl rfl rfl rfl (T.sizeOk rfl) rfl (Nat.le_of_ble_eq_true rfl) rfl rfl ?_
    refine Ops.nil ?_
    repeat (first | refine Run.seq ?_)
    refine Run.region ?_
    first | refine Ops.loadN 0 rfl (by decide) rfl rfl (T.aggOk rfl) (T.sizeOk rfl) rfl rfl ?_ | refine Ops.loadN 1 rfl (by decide) rfl rfl (T.aggOk rfl) (T.sizeOk rfl) rfl rfl ?_ | refine Ops.loadN 2 rfl (by decide) rfl rfl (T.aggOk rfl) (T.sizeOk rfl) rfl rfl ?_
    first | refine Ops.store 0 rfl rfl rfl rfl rfl (T.sizeOk rfl) rfl (Nat.le_of_ble_eq_true rfl) rfl rfl ?_ | refine Ops.store 1 rfl rfl rfl rfl rfl (T.sizeOk rfl) rfl (Nat.le_of_ble_eq_true rfl) rfl rfl ?_ | refine Ops.store 2 rfl rfl rfl rfl rfl (T.sizeOk rfl) rfl (Nat.le_of_ble_eq_true rfl) rfl rfl ?_
    refine Ops.pure T rfl (by decide) rfl ?_
    refine Ops.nil ?_
    skip
    refine Run.retCTK T 0 (by rw [hCf]; exact func140) results140 rfl rfl rfl rfl rfl rfl rfl (List.Sublist.cons _ (List.Sublist.cons_cons _ (List.nil_sublist _))) (hR _ _ _ ?_)
    show RdPost _ _ _ _ _ (listR (rdV g) t) _ _ _
    have e : listR (rdV g) t = some (.mk 91 false [] [] [], s2) := by unfold listR; rw [hw]
    rw [e]
    exact ⟨_, rfl, ⟨_, _, rfl, Sl.nil _ _, Sl.nil _ _⟩, rfl⟩
  | none =>
    have hW1 := hWd 93 J1 (d + 1) (skipB t) (Le.refl _) hs1
    rw [hw] at hW1
    refine Ops.callP (N := [_]) (hW1) (.refl _) rfl (by decide) call142 rfl ?_
    rintro x J2 M2 l2 ⟨rfl, rfl, rfl⟩
    refine Ops.nil ?_
    have hL : listR (rdV g) t = (elemsR (rdV g) (t.length + 1) (skipB t) []).map fun p => (.mk 91 false [] p.1 [], p.2) := by unfold listR; rw [hw]
    generalize hR' : elemsR (rdV g) (t.length + 1) (skipB t) [] = res at hL
    have hskl := (skip_sfx t).len
    repeat (first | refine Run.skip ?_ | refine Run.block ?_ | refine Run.cond_f rfl ?_)
    refine Run.keep [0, 2] [_, _] rfl ?_
    refine Run.rounds (fun m env L J => ∃ (n : Nat) (s : Bs) (acc : List JV) (vv : Value) (M1 : Own), m = s.length ∧ Sfx s t ∧ elemsR (rdV g) n s acc = res ∧ s.length < n ∧ acc.length + s.length ≤ t.length ∧ Gr (tJV (g + 1)) J 230 vv acc M1 ∧
      env = [(0, .pointer (some ⟨r, 0, none⟩)), (2, .pointer (some ⟨b2, 0, none⟩))] ∧ L = (b2, blk [.int .u8 91, .bool false, str [], vv, .slice none 0 0] 230) :: (r, rdr (.slice (some ⟨db, off, none⟩) xs.length c) (posR xs s) (d + 1)) :: M1 ∧ Le J2 J) (skipB t).length
      ⟨t.length + 1, skipB t, [], _, [], rfl, skip_sfx t, hR', by omega, by simp only [List.length_nil]; omega, Gr.nil _ _ _, rfl, rfl, Le.refl _⟩ ?_
    rintro m env L J ⟨n, s, acc, vv, M1, rfl, hs, hE, hn, hal, hG, rfl, rfl, hle⟩ ih
    obtain ⟨n, rfl⟩ : ∃ n', n = n' + 1 := ⟨n - 1, by omega⟩
    have hsx := hs.trans ht1
    have htl := ht1.len
    rw [elemsR] at hE
    repeat (first | refine Run.seq ?_ | refine Run.block ?_)
    refine Run.regionP (D := [some 40, some 41, some 39, some 42, some 43, some 4, none, some 5]) [true] 1 rfl rfl rfl (by simp only [List.drop_succ_cons, List.drop_zero]; rfl) (fun Z hZ => ?_)
    refine QD.ev T (by decide) rfl rfl ?_
    refine QD.nil (hZ _ ?_)
    clear hZ Z
    cases hv : rdV g s with
    | none =>
      have hV1 := hVa g J s rfl hle hsx
      rw [hv] at hV1 hE
      refine Ops.callM (M := [_]) (N := _ :: _) (hV1) (List.Perm.swap _ _ _) rfl (by decide) call120 rfl ?_
      rintro x J3 M3 l3 ⟨cs, p, d', rfl, h5, h6, hp, rfl⟩
      refine Ops.perm (List.Perm.swap _ _ _) ?_
      obtain ⟨c1, c2, c3, c4, c5, rfl⟩ := list5 h5
      refine Ops.pure T rfl (by decide) rfl ?_
      refine Ops.pure T rfl (by decide) rfl ?_
      refine Ops.pure T rfl (by decide) rfl ?_
      refine Ops.alloc rfl (by decide) (T.zeroOk rfl) rfl (fun b4 => ?_)
      refine Ops.store 0 rfl rfl rfl rfl rfl (T.sizeOk rfl) rfl (Nat.le_of_ble_eq_true rfl) h6 rfl ?_
      refine Ops.pure T rfl (by decide) rfl ?_
      refine Ops.nil ?_
      repeat (first | refine Run.seq ?_)
      refine Run.regionO (D := [some 44, some 45]) [true, true] rfl rfl rfl (fun Z hZ => ?_)
      refine QD.ev T (by decide) rfl rfl ?_
      refine QD.ev T (by decide) rfl rfl ?_
      refine QD.nil (hZ _ ?_)
      clear hZ Z
      repeat (first | refine Run.seq ?_ | refine Run.cond_t rfl ?_)
      refine Run.dropL (L' := [(b2, _), (r, _)]) (List.Sublist.cons _ (List.Sublist.cons_cons _ (List.Sublist.cons_cons _ (List.nil_sublist _)))) ?_
      obtain ⟨A1, z1, rfl⟩ := hG.isSl
      skip
      refine Run.region ?_
      first | refine Ops.loadN 0 rfl (by decide) rfl rfl (T.aggOk rfl) (T.sizeOk rfl) rfl rfl ?_ | refine Ops.loadN 1 rfl (by decide) rfl rfl (T.aggOk rfl) (T.sizeOk rfl) rfl rfl ?_ | refine Ops.loadN 2 rfl (by decide) rfl rfl (T.aggOk rfl) (T.sizeOk rfl) rfl rfl ?_
      first | refine Ops.store 0 rfl rfl rfl rfl rfl (T.sizeOk rfl) rfl (Nat.le_of_ble_eq_true rfl) rfl rfl ?_ | refine Ops.store 1 rfl rfl rfl rfl rfl (T.sizeOk rfl) rfl (Nat.le_of_ble_eq_true rfl) rfl rfl ?_ | refine Ops.store 2 rfl rfl rfl rfl rfl (T.sizeOk rfl) rfl (Nat.le_of_ble_eq_true rfl) rfl rfl ?_
      refine Ops.pure T rfl (by decide) rfl ?_
      refine Ops.nil ?_
      skip
      refine Run.retCTK T 0 (by rw [hCf]; exact func140) results140 rfl rfl rfl rfl rfl rfl rfl (List.Sublist.cons _ (List.Sublist.cons_cons _ (List.nil_sublist _))) (hR _ _ _ ?_)
      show RdPost _ _ _ _ _ (listR (rdV g) t) _ _ _
      rw [hL, ← hE]
      exact ⟨_, _, _, rfl, rfl, rfl, hp, rfl⟩
    | some pr =>
      obtain ⟨v1, s1⟩ := pr
      obtain ⟨k1, k2⟩ := rdV_fwd g hv
      have hV1 := hVa g J s rfl hle hsx
      rw [hv] at hV1 hE
      refine Ops.callM (M := [_]) (N := _ :: _) (hV1) (List.Perm.swap _ _ _) rfl (by decide) call120 rfl ?_
      rintro x J3 M3 l3 ⟨cs, rfl, hrel, rfl⟩
      refine Ops.perm (List.Perm.swap _ _ _) ?_
      obtain ⟨vk, vn, rfl, hk, hn'⟩ := id hrel
      obtain ⟨A2, z2, rfl⟩ := hk.isSl
      obtain ⟨A3, z3, rfl⟩ := hn'.isSl
      obtain ⟨A1, z1, rfl⟩ := hG.isSl
      skip
      refine Ops.pure T rfl (by decide) rfl ?_
      refine Ops.pure T rfl (by decide) rfl ?_
      refine Ops.pure T rfl (by decide) rfl ?_
      refine Ops.alloc rfl (by decide) (T.zeroOk rfl) rfl (fun b4 => ?_)
      first | refine Ops.store 0 rfl rfl rfl rfl rfl (T.sizeOk rfl) rfl (Nat.le_of_ble_eq_true rfl) rfl rfl ?_ | refine Ops.store 1 rfl rfl rfl rfl rfl (T.sizeOk rfl) rfl (Nat.le_of_ble_eq_true rfl) rfl rfl ?_ | refine Ops.store 2 rfl rfl rfl rfl rfl (T.sizeOk rfl) rfl (Nat.le_of_ble_eq_true rfl) rfl rfl ?_
      refine Ops.pure T rfl (by decide) rfl ?_
      refine Ops.nil ?_
      repeat (first | refine Run.seq ?_)
      refine Run.regionO (D := [some 44, some 45]) [true, true] rfl rfl rfl (fun Z hZ => ?_)
      refine QD.ev T (by decide) rfl rfl ?_
      refine QD.ev T (by decide) rfl rfl ?_
      refine QD.nil (hZ _ ?_)
      clear hZ Z
      repeat (first | refine Run.seq ?_ | refine Run.skip ?_ | refine Run.cond_f rfl ?_)
      refine Run.regionP (D := [some 47, some 48, some 49, some 50, some 51, some 52, none]) [true, true, true] 3 rfl rfl rfl (by simp only [List.drop_succ_cons, List.drop_zero]; rfl) (fun Z hZ => ?_)
      refine QD.ev T (by decide) rfl rfl ?_
      first | refine QD.yv (by decide) rfl (Yv.load 0 T rfl rfl rfl rfl) ?_ | refine QD.yv (by decide) rfl (Yv.load 1 T rfl rfl rfl rfl) ?_ | refine QD.yv (by decide) rfl (Yv.load 2 T rfl rfl rfl rfl) ?_
      first | refine QD.yv (by decide) rfl (Yv.loadN 0 T rfl rfl rfl rfl rfl rfl) ?_ | refine QD.yv (by decide) rfl (Yv.loadN 1 T rfl rfl rfl rfl rfl rfl) ?_ | refine QD.yv (by decide) rfl (Yv.loadN 2 T rfl rfl rfl rfl rfl rfl) ?_
      refine QD.nil (hZ _ ?_)
      clear hZ Z
      refine Ops.lit T rfl rfl rfl (by decide) rfl (by decide) (by decide) rfl rfl rfl rfl rfl (fun bq => ?_)
      refine Ops.appOne (N := [_, _, _]) el228 (hG.mono l3) hrel rfl (by decide) rfl rfl rfl rfl (by omega) (by omega) ?_
      rintro vv2 M4 hG2
      obtain ⟨A4, z4, rfl⟩ := hG2.isSl
      refine Ops.pure T rfl (by decide) rfl ?_
      first | refine Ops.store 0 rfl rfl rfl rfl rfl (T.sizeOk rfl) rfl (Nat.le_of_ble_eq_true rfl) rfl rfl ?_ | refine Ops.store 1 rfl rfl rfl rfl rfl (T.sizeOk rfl) rfl (Nat.le_of_ble_eq_true rfl) rfl rfl ?_ | refine Ops.store 2 rfl rfl rfl rfl rfl (T.sizeOk rfl) rfl (Nat.le_of_ble_eq_true rfl) rfl rfl ?_
      refine Ops.nil ?_
      refine Run.dropL (List.sublist_cons_self _ _) ?_
      repeat (first | refine Run.seq ?_)
      refine Run.regionP (D := [some 53, some 54]) [true] 1 rfl rfl rfl (by simp only [List.drop_succ_cons, List.drop_zero]; rfl) (fun Z hZ => ?_)
      refine QD.ev T (by decide) rfl rfl ?_
      refine QD.nil (hZ _ ?_)
      clear hZ Z
      have hle3 := hle.trans l3
      have hs1x := k1.trans hsx
      refine Ops.callM (M := [_]) (N := _ :: _) ((hBl J3 (d + 1) s1 (by assumption) hs1x)) (List.Perm.swap _ _ _) rfl (by decide) call121 rfl ?_
      rintro x J4 M5 l4 ⟨rfl, rfl⟩
      refine Ops.perm (List.Perm.swap _ _ _) ?_
      refine Ops.nil ?_
      have ks := skip_sfx s1
      have hsk := ks.trans hs1x
      repeat (first | refine Run.seq ?_)
      refine Run.regionP (D := [some 55, some 56]) [true] 1 rfl rfl rfl (by simp only [List.drop_succ_cons, List.drop_zero]; rfl) (fun Z hZ => ?_)
      refine QD.ev T (by decide) rfl rfl ?_
      refine QD.nil (hZ _ ?_)
      clear hZ Z
      simp only at hE
      cases hw2 : wordR [93] (skipB s1) with
      | some s2 =>
        obtain ⟨_, hw3⟩ := word_sfx hw2
        have hW2 := hWd 93 J4 (d + 1) (skipB s1) (by assumption) hsk
        rw [hw2] at hW2
        refine Ops.callM (M := [_]) (N := _ :: _) (hW2) (List.Perm.swap _ _ _) rfl (by decide) call142 rfl ?_
        rintro x J5 M5 l5 ⟨rfl, rfl, rfl⟩
        refine Ops.perm (List.Perm.swap _ _ _) ?_
        refine Ops.nil ?_
        rw [hw3] at hE
        simp only [List.cons_append, List.nil_append, if_true] at hE
        repeat (first | refine Run.seq ?_ | refine Run.cond_t rfl ?_)
        refine Run.regionP (D := [some 57, some 58, some 59, some 60, some 61, some 62, some 63, none]) [true, true, true, true, true, true, true] 7 rfl rfl rfl (by simp only [List.drop_succ_cons, List.drop_zero]; rfl) (fun Z hZ => ?_)
        refine QD.ev T (by decide) rfl rfl ?_
        refine QD.ev T (by decide) rfl rfl ?_
        refine QD.ev T (by decide) rfl rfl ?_
        first | refine QD.yv (by decide) rfl (Yv.load 0 T rfl rfl rfl rfl) ?_ | refine QD.yv (by decide) rfl (Yv.load 1 T rfl rfl rfl rfl) ?_ | refine QD.yv (by decide) rfl (Yv.load 2 T rfl rfl rfl rfl) ?_
        refine QD.e (Ev.subK (r := (d : Int)) rfl rfl (by rw [wI (by omega) (by omega)]; omega)) (by decide) rfl ?_
        refine QD.ev T (by decide) rfl rfl ?_
        refine QD.ev T (by decide) rfl rfl ?_
        refine QD.nil (hZ _ ?_)
        clear hZ Z
        first | refine Ops.store 0 rfl rfl rfl rfl rfl (T.sizeOk rfl) rfl (Nat.le_of_ble_eq_true rfl) rfl rfl ?_ | refine Ops.store 1 rfl rfl rfl rfl rfl (T.sizeOk rfl) rfl (Nat.le_of_ble_eq_true rfl) rfl rfl ?_ | refine Ops.store 2 rfl rfl rfl rfl rfl (T.sizeOk rfl) rfl (Nat.le_of_ble_eq_true rfl) rfl rfl ?_
        refine Ops.nil ?_
        repeat (first | refine Run.seq ?_)
        refine Run.region ?_
        first | refine Ops.loadN 0 rfl (by decide) rfl rfl (T.aggOk rfl) (T.sizeOk rfl) rfl rfl ?_ | refine Ops.loadN 1 rfl (by decide) rfl rfl (T.aggOk rfl) (T.sizeOk rfl) rfl rfl ?_ | refine Ops.loadN 2 rfl (by decide) rfl rfl (T.aggOk rfl) (T.sizeOk rfl) rfl rfl ?_
        first | refine Ops.store 0 rfl rfl rfl rfl rfl (T.sizeOk rfl) rfl (Nat.le_of_ble_eq_true rfl) rfl rfl ?_ | refine Ops.store 1 rfl rfl rfl rfl rfl (T.sizeOk rfl) rfl (Nat.le_of_ble_eq_true rfl) rfl rfl ?_ | refine Ops.store 2 rfl rfl rfl rfl rfl (T.sizeOk rfl) rfl (Nat.le_of_ble_eq_true rfl) rfl rfl ?_
        refine Ops.pure T rfl (by decide) rfl ?_
        refine Ops.nil ?_
        skip
        refine Run.keepGr (M := M4) (N := [(b2, _), (r, _)]) hG2 (List.perm_append_comm (l₁ := [_, _]) (l₂ := M4)) fun J6 l6 hS => ?_
        refine Run.retCTK T 0 (by rw [hCf]; exact func140) results140 rfl rfl rfl rfl rfl rfl rfl (List.Sublist.cons _ (List.Sublist.cons_cons _ (List.nil_sublist _))) (hR _ _ _ ?_)
        show RdPost _ _ _ _ _ (listR (rdV g) t) _ _ _
        rw [hL, ← hE]
        exact ⟨_, rfl, ⟨_, _, rfl, hS, Sl.nil _ _⟩, rfl⟩
      | none =>
        have hW2 := hWd 93 J4 (d + 1) (skipB s1) (by assumption) hsk
        rw [hw2] at hW2
        refine Ops.callM (M := [_]) (N := _ :: _) (hW2) (List.Perm.swap _ _ _) rfl (by decide) call142 rfl ?_
        rintro x J5 M5 l5 ⟨rfl, rfl, rfl⟩
        refine Ops.perm (List.Perm.swap _ _ _) ?_
        refine Ops.nil ?_
        repeat (first | refine Run.seq ?_ | refine Run.skip ?_ | refine Run.cond_f rfl ?_)
        refine Run.regionP (D := [some 65, some 66, some 67]) [true] 1 rfl rfl rfl (by simp only [List.drop_succ_cons, List.drop_zero]; rfl) (fun Z hZ => ?_)
        refine QD.ev T (by decide) rfl rfl ?_
        refine QD.nil (hZ _ ?_)
        clear hZ Z
        cases hw3 : wordR [44] (skipB s1) with
        | some s2 =>
          obtain ⟨hq1, hq2⟩ := word_sfx hw3
          have hW3 := hWd 44 J5 (d + 1) (skipB s1) (by assumption) hsk
          rw [hw3] at hW3
          refine Ops.callM (M := [_]) (N := _ :: _) (hW3) (List.Perm.swap _ _ _) rfl (by decide) call142 rfl ?_
          rintro x J6 M5 l6 ⟨rfl, rfl, rfl⟩
          refine Ops.perm (List.Perm.swap _ _ _) ?_
          refine Ops.pure T rfl (by decide) rfl ?_
          refine Ops.nil ?_
          rw [hq2] at hE
          simp only [List.cons_append, List.nil_append, if_true, show ¬ ((44 : UInt8) = 93) by decide, if_false] at hE
          repeat (first | refine Run.skip ?_ | refine Run.inBlock ?_ | refine Run.cond_f rfl ?_)
          refine Run.keep [0, 2] [_, _] rfl ?_
          have hll := congrArg List.length hq2
          have hkl := ks.len
          simp only [List.cons_append, List.nil_append, List.length_cons] at hll
          exact ih s2.length _ _ _ (by omega) ⟨n, s2, acc ++ [v1], _, M4, rfl, ((hq1.trans ks).trans k1).trans hs, hE, by omega, by simp only [List.length_append, List.length_cons, List.length_nil]; omega, hG2, rfl, rfl, by assumption⟩
        | none =>
          have hW3 := hWd 44 J5 (d + 1) (skipB s1) (by assumption) hsk
          rw [hw3] at hW3
          refine Ops.callM (M := [_]) (N := _ :: _) (hW3) (List.Perm.swap _ _ _) rfl (by decide) call142 rfl ?_
          rintro x J6 M5 l6 ⟨rfl, rfl, rfl⟩
          refine Ops.perm (List.Perm.swap _ _ _) ?_
          skip
          refine Ops.pure T rfl (by decide) rfl ?_
          refine Ops.nil ?_
          have hE2 : none = res := by
            rw [← hE]
            cases hsk1 : skipB s1 with
            | nil => rfl
            | cons e u =>
              rw [hsk1] at hw2 hw3
              have n1 : e ≠ 93 := fun h => by rw [h, word1] at hw2; cases hw2
              have n2 : e ≠ 44 := fun h => by rw [h, word1] at hw3; cases hw3
              simp only [if_neg n1, if_neg n2]
          repeat (first | refine Run.seq ?_ | refine Run.cond_t rfl ?_)
          refine Run.dropL (L' := [(b2, _), (r, _)]) (List.Sublist.cons_cons _ (List.Sublist.cons_cons _ (List.nil_sublist _))) ?_
          skip
          refine Run.region ?_
          first | refine Ops.loadN 0 rfl (by decide) rfl rfl (T.aggOk rfl) (T.sizeOk rfl) rfl rfl ?_ | refine Ops.loadN 1 rfl (by decide) rfl rfl (T.aggOk rfl) (T.sizeOk rfl) rfl rfl ?_ | refine Ops.loadN 2 rfl (by decide) rfl rfl (T.aggOk rfl) (T.sizeOk rfl) rfl rfl ?_
          first | refine Ops.store 0 rfl rfl rfl rfl rfl (T.sizeOk rfl) rfl (Nat.le_of_ble_eq_true rfl) rfl rfl ?_ | refine Ops.store 1 rfl rfl rfl rfl rfl (T.sizeOk rfl) rfl (Nat.le_of_ble_eq_true rfl) rfl rfl ?_ | refine Ops.store 2 rfl rfl rfl rfl rfl (T.sizeOk rfl) rfl (Nat.le_of_ble_eq_true rfl) rfl rfl ?_
          refine Ops.pure T rfl (by decide) rfl ?_
          refine Ops.nil ?_
          skip
          refine Run.retCTK T 0 (by rw [hCf]; exact func140) results140 rfl rfl rfl rfl rfl rfl rfl (List.Sublist.cons _ (List.Sublist.cons_cons _ (List.nil_sublist _))) (hR _ _ _ ?_)
          show RdPost _ _ _ _ _ (listR (rdV g) t) _ _ _
          rw [hL, ← hE2]
          exact ⟨_, _, _, rfl, rfl, rfl, pl _, rfl⟩
end Go.V
