import Derived.Test.YtbalfblfkfbejaaGreatDoorWM10
import Derived.Test.YtbalfblfkfbejaaGreatDoorWM8
import Derived.Test.YtbalfblfkfbejaaGreatDoorWM4
namespace Go.V
open Go.Proofs.Tryz
open Go.RowKit
set_option linter.unusedVariables false
set_option linter.unusedSimpArgs false
set_option maxRecDepth 10000
attribute [local irreducible] Run Ops QD
def subR : Nat → Option (Bs → Option (JV × Bs))
  | 0 => none
  | f + 1 => some (rdV f)
theorem rdV_sub (f : Nat) (t : Bs) : rdV f t = stepR (subR f) t := by cases f <;> rfl
theorem subR_or (f : Nat) : (f = 0 ∧ subR f = none) ∨ ∃ g, f = g + 1 ∧ subR f = some (rdV g) := by
  cases f with
  | zero => exact .inl ⟨rfl, rfl⟩
  | succ f => exact .inr ⟨f, rfl, rfl⟩
theorem cut_eaten {xs t s : Bs} (h : Sfx t xs) (k : Sfx s t) : (xs.take (posR xs s)).drop (posR xs t) = eaten t s := by
  obtain ⟨u, hu⟩ := h
  subst hu
  unfold eaten posR
  have hk := k.len
  rw [List.length_append, Nat.add_sub_cancel, List.drop_take, List.drop_left]
  congr 1; omega
theorem all_next {ys : Bs} {i : Nat} (h : i < ys.length) (p : UInt8 → Bool) : (ys.take (i + 1)).all p = ((ys.take i).all p && p (ys.getD i 0)) := by
  rw [List.take_succ_eq_append_getElem h, List.all_append]
  simp [List.getD_eq_getElem?_getD, h]
set_option maxHeartbeats 4000000 in
theorem value_of (f : Nat) (hV : ∀ g, f = g + 1 → ValSpec g) : ValSpec f := by
  intro t I xs w db off c r d hU hR0 ht hl hd
  have hst : rdV f t = stepR (subR f) t := rdV_sub f t
  have hBl : ∀ (J : Imm) (s : Bs), Le I J → Sfx s xs → _ := fun J s hle hs => blank_at s J xs w db off c r d (hR0.mono hle) hs (by omega)
  have hWd : ∀ (b : Bs) (J : Imm) (s : Bs), Le I J → Sfx s xs → b ≠ [] → b.length ≤ 1000 → _ := fun b J s hle hs h1 h2 => word_at b s J xs w db off c r d (hR0.mono hle) hs (by omega) h1 h2
  have hTx : ∀ (J : Imm) (s : Bs), Le I J → Sfx (34 :: s) xs → _ := fun J s hle hs => reader_text 34 s J (hU.mono hle) xs w db off c r d (hR0.mono hle) hs hl
  have hNu : ∀ (J : Imm) (s : Bs), Le I J → Sfx s xs → _ := fun J s hle hs => reader_number s J xs w db off c r d (hR0.mono hle) hs (by omega)
  have hMe : ∀ (J : Imm) (s : Bs), Le I J → Sfx (123 :: s) xs → _ := fun J s hle hs => reader_members f hV (subR f) (subR_or f) 123 s J xs w db off c r d (hU.mono hle) (hR0.mono hle) hs hl hd
  have hEl : ∀ (J : Imm) (s : Bs), Le I J → Sfx (91 :: s) xs → _ := fun J s hle hs => reader_elements f hV (subR f) (subR_or f) 91 s J xs w db off c r d (hU.mono hle) (hR0.mono hle) hs hl hd
  obtain rfl := hR0.eq
  have hcap := hR0.cap
  have pl : ∀ s : Bs, posR xs s ≤ xs.length := fun s => by unfold posR; omega
  refine Spec.enter 107 [(0, _)] func120 rfl ntmps120 (by simp) rfl ?_
  intro C hCf hR hCI
  repeat (first | refine Run.seq ?_)
  refine Run.region ?_
  refine Ops.alloc rfl (by decide) (T.zeroOk rfl) rfl (fun b2 => ?_)
  refine Ops.pure T rfl (by decide) rfl ?_
  refine Ops.nil ?_
  repeat (first | refine Run.seq ?_)
  refine Run.regionP (D := [some 8, some 9]) [true] 1 rfl rfl rfl (by simp only [List.drop_succ_cons, List.drop_zero]; rfl) (fun Z hZ => ?_)
  refine QD.ev T (by decide) rfl rfl ?_
  refine QD.nil (hZ _ ?_)
  clear hZ Z
  refine Ops.callP (N := [_]) ((hBl _ _ (Le.refl _) ht)) (.refl _) rfl (by decide) call121 rfl ?_
  rintro x J1 M1 l1 ⟨rfl, rfl⟩
  refine Ops.nil ?_
  have hs1 : Sfx (skipB t) xs := (skip_sfx t).trans ht
  repeat (first | refine Run.seq ?_)
  cases hk : skipB t with
  | nil =>
    refine Run.regionQ (D := [some 10, some 11, some 12, some 13, some 14, some 15, some 16, some 17, some 18, some 19]) [true, true, true, true, true, true, true, true, true, true] (bl 10 1023) (by kernel_rfl) (by kernel_rfl) (by kernel_rfl) (by kernel_rfl) rfl (fun Z hZ => ?_)
    refine QD.ev T (by decide) rfl rfl ?_
    refine QD.ev T (by decide) rfl rfl ?_
    refine QD.ev T (by decide) rfl rfl ?_
    first | refine QD.yv (by decide) rfl (Yv.load 0 T rfl rfl rfl rfl) ?_ | refine QD.yv (by decide) rfl (Yv.load 1 T rfl rfl rfl rfl) ?_ | refine QD.yv (by decide) rfl (Yv.load 2 T rfl rfl rfl rfl) ?_
    refine QD.ev T (by decide) rfl rfl ?_
    refine QD.ev T (by decide) rfl rfl ?_
    refine QD.ev T (by decide) rfl rfl ?_
    first | refine QD.yv (by decide) rfl (Yv.load 0 T rfl rfl rfl rfl) ?_ | refine QD.yv (by decide) rfl (Yv.load 1 T rfl rfl rfl rfl) ?_ | refine QD.yv (by decide) rfl (Yv.load 2 T rfl rfl rfl rfl) ?_
    refine QD.ev T (by decide) rfl rfl ?_
    refine QD.e ((Ev.geq rfl rfl).as (show _ = Value.bool true from congrArg Value.bool (decide_eq_true (by simp [posR])))) (by decide) rfl ?_
    refine QD.nil (hZ _ ?_)
    clear hZ Z
    repeat (first | refine Run.seq ?_ | refine Run.cond_t rfl ?_)
    refine Run.region ?_
    first | refine Ops.loadN 0 rfl (by decide) rfl rfl (T.aggOk rfl) (T.sizeOk rfl) rfl rfl ?_ | refine Ops.loadN 1 rfl (by decide) rfl rfl (T.aggOk rfl) (T.sizeOk rfl) rfl rfl ?_ | refine Ops.loadN 2 rfl (by decide) rfl rfl (T.aggOk rfl) (T.sizeOk rfl) rfl rfl ?_
    first | refine Ops.store 0 rfl rfl rfl rfl rfl (T.sizeOk rfl) rfl (Nat.le_of_ble_eq_true rfl) rfl rfl ?_ | refine Ops.store 1 rfl rfl rfl rfl rfl (T.sizeOk rfl) rfl (Nat.le_of_ble_eq_true rfl) rfl rfl ?_ | refine Ops.store 2 rfl rfl rfl rfl rfl (T.sizeOk rfl) rfl (Nat.le_of_ble_eq_true rfl) rfl rfl ?_
    refine Ops.pure T rfl (by decide) rfl ?_
    refine Ops.nil ?_
    skip
    refine Run.retCTK T 0 (by rw [hCf]; exact func120) results120 rfl rfl rfl rfl rfl rfl rfl (List.sublist_cons_self _ _) (hR _ _ _ ?_)
    show RdPost _ _ _ _ _ (rdV f t) _ _ _
    rw [hst]
    rw [show stepR (subR f) t = none from by unfold stepR; rw [hk]]
    exact ⟨_, _, _, rfl, rfl, rfl, pl _, rfl⟩
  | cons e s =>
    rw [hk] at hs1
    obtain ⟨g1, g2, g3⟩ := sfx_getD hs1
    have hA := hR0.at' _ g1
    rw [g2] at hA
    have hsl := hs1.len
    simp only [List.length_cons] at hsl
    refine Run.regionQ (D := [some 10, some 11, some 12, some 13, some 14, some 15, some 16, some 17, some 18, some 19]) [true, true, true, true, true, true, true, true, true, true] (bl 10 1023) (by kernel_rfl) (by kernel_rfl) (by kernel_rfl) (by kernel_rfl) rfl (fun Z hZ => ?_)
    refine QD.ev T (by decide) rfl rfl ?_
    refine QD.ev T (by decide) rfl rfl ?_
    refine QD.ev T (by decide) rfl rfl ?_
    first | refine QD.yv (by decide) rfl (Yv.load 0 T rfl rfl rfl rfl) ?_ | refine QD.yv (by decide) rfl (Yv.load 1 T rfl rfl rfl rfl) ?_ | refine QD.yv (by decide) rfl (Yv.load 2 T rfl rfl rfl rfl) ?_
    refine QD.ev T (by decide) rfl rfl ?_
    refine QD.ev T (by decide) rfl rfl ?_
    refine QD.ev T (by decide) rfl rfl ?_
    first | refine QD.yv (by decide) rfl (Yv.load 0 T rfl rfl rfl rfl) ?_ | refine QD.yv (by decide) rfl (Yv.load 1 T rfl rfl rfl rfl) ?_ | refine QD.yv (by decide) rfl (Yv.load 2 T rfl rfl rfl rfl) ?_
    refine QD.ev T (by decide) rfl rfl ?_
    refine QD.e ((Ev.geq rfl rfl).as (show _ = Value.bool false from congrArg Value.bool (decide_eq_false (by omega)))) (by decide) rfl ?_
    refine QD.nil (hZ _ ?_)
    clear hZ Z
    repeat (first | refine Run.seq ?_ | refine Run.skip ?_ | refine Run.cond_f rfl ?_)
    refine Run.regionQ (D := [some 21, some 22, some 23, some 24, some 25, some 26, some 27, some 28, some 29, some 30, some 4]) [true, true, true, true, true, true, true, true, true, true, true] (bl 11 2047) (by kernel_rfl) (by kernel_rfl) (by kernel_rfl) (by kernel_rfl) rfl (fun Z hZ => ?_)
    refine QD.ev T (by decide) rfl rfl ?_
    refine QD.ev T (by decide) rfl rfl ?_
    refine QD.ev T (by decide) rfl rfl ?_
    first | refine QD.yv (by decide) rfl (Yv.load 0 T rfl rfl rfl rfl) ?_ | refine QD.yv (by decide) rfl (Yv.load 1 T rfl rfl rfl rfl) ?_ | refine QD.yv (by decide) rfl (Yv.load 2 T rfl rfl rfl rfl) ?_ | refine QD.yv (by decide) rfl (Yv.loadI T hA rfl rfl) ?_
    refine QD.ev T (by decide) rfl rfl ?_
    refine QD.ev T (by decide) rfl rfl ?_
    refine QD.ev T (by decide) rfl rfl ?_
    first | refine QD.yv (by decide) rfl (Yv.load 0 T rfl rfl rfl rfl) ?_ | refine QD.yv (by decide) rfl (Yv.load 1 T rfl rfl rfl rfl) ?_ | refine QD.yv (by decide) rfl (Yv.load 2 T rfl rfl rfl rfl) ?_ | refine QD.yv (by decide) rfl (Yv.loadI T hA rfl rfl) ?_
    refine QD.e (Ev.indexS T rfl rfl rfl rfl (by first | omega | (simp only [List.length_cons, List.length_nil] ; omega) | (simp; omega)) (by first | omega | (simp only [List.length_cons, List.length_nil] ; omega) | (simp; omega))) (by decide) rfl ?_
    first | refine QD.yv (by decide) rfl (Yv.load 0 T rfl rfl rfl rfl) ?_ | refine QD.yv (by decide) rfl (Yv.load 1 T rfl rfl rfl rfl) ?_ | refine QD.yv (by decide) rfl (Yv.load 2 T rfl rfl rfl rfl) ?_ | refine QD.yv (by decide) rfl (Yv.loadI T hA rfl rfl) ?_
    refine QD.ev T (by decide) rfl rfl ?_
    refine QD.nil (hZ _ ?_)
    clear hZ Z
    repeat (first | refine Run.seq ?_)
    refine Run.regionO (D := [some 31]) [true] rfl rfl rfl (fun Z hZ => ?_)
    refine QD.ev T (by decide) rfl rfl ?_
    refine QD.nil (hZ _ ?_)
    clear hZ Z
    repeat (first | refine Run.seq ?_ | refine Run.block ?_)
    have nn : ∀ (k : UInt8) (m : Int), (k.toNat : Int) = m → e ≠ k → decide ((e.toNat : Int) = m) = false := fun k m hm h => decide_eq_false fun x => h (UInt8.toNat_inj.1 (by omega))
    by_cases k1 : e = 123
    · subst k1
      refine Run.regionO (D := [some 33, some 32]) [true, true] rfl rfl rfl (fun Z hZ => ?_)
      refine QD.e (Ev.eqlI rfl rfl) (by decide) rfl ?_
      refine QD.ev T (by decide) rfl rfl ?_
      refine QD.nil (hZ _ ?_)
      clear hZ Z
      have hMe2 := fun (J : Imm) s h => hMe J1 s (Le.refl _) h
      repeat (first | refine Run.seq ?_ | refine Run.cond_t rfl ?_)
      refine Run.regionP (D := [some 34, some 35, some 36, some 37, none, some 3]) [true] 1 rfl rfl rfl (by simp only [List.drop_succ_cons, List.drop_zero]; rfl) (fun Z hZ => ?_)
      refine QD.ev T (by decide) rfl rfl ?_
      refine QD.nil (hZ _ ?_)
      clear hZ Z
      have hM := hMe2 J1 s hs1
      cases hm : (subR f).bind (fun v => objR v s) with
      | none =>
        rw [hm] at hM
        refine Ops.callP (N := [_]) (hM) (.refl _) rfl (by decide) call139 rfl ?_
        rintro x J2 M2 l2 ⟨cs, p, d', rfl, h5, h6, hp, rfl⟩
        obtain ⟨c1, c2, c3, c4, c5, rfl⟩ := list5 h5
        refine Ops.pure T rfl (by decide) rfl ?_
        refine Ops.pure T rfl (by decide) rfl ?_
        refine Ops.store 0 rfl rfl rfl rfl rfl (T.sizeOk rfl) rfl (Nat.le_of_ble_eq_true rfl) h6 rfl ?_
        refine Ops.pure T rfl (by decide) rfl ?_
        refine Ops.nil ?_
        skip
        refine Run.retCTK T 0 (by rw [hCf]; exact func120) results120 rfl rfl rfl rfl rfl rfl rfl (List.sublist_cons_self _ _) (hR _ _ _ ?_)
        show RdPost _ _ _ _ _ (rdV f t) _ _ _
        rw [hst]
        rw [show stepR (subR f) t = (subR f).bind (fun v => objR v s) from by unfold stepR; rw [hk]; rfl, hm]
        exact ⟨_, _, _, rfl, rfl, h6, hp, rfl⟩
      | some pr =>
        obtain ⟨v1, s1⟩ := pr
        rw [hm] at hM
        refine Ops.callP (N := [_]) (hM) (.refl _) rfl (by decide) call139 rfl ?_
        rintro x J2 M2 l2 ⟨cs, rfl, hrel, rfl⟩
        obtain ⟨wk, wn, rfl, hwk, hwn⟩ := id hrel
        obtain ⟨A3, z3, rfl⟩ := hwk.isSl
        obtain ⟨A4, z4, rfl⟩ := hwn.isSl
        skip
        refine Ops.pure T rfl (by decide) rfl ?_
        refine Ops.pure T rfl (by decide) rfl ?_
        first | refine Ops.store 0 rfl rfl rfl rfl rfl (T.sizeOk rfl) rfl (Nat.le_of_ble_eq_true rfl) rfl rfl ?_ | refine Ops.store 1 rfl rfl rfl rfl rfl (T.sizeOk rfl) rfl (Nat.le_of_ble_eq_true rfl) rfl rfl ?_ | refine Ops.store 2 rfl rfl rfl rfl rfl (T.sizeOk rfl) rfl (Nat.le_of_ble_eq_true rfl) rfl rfl ?_
        refine Ops.pure T rfl (by decide) rfl ?_
        refine Ops.nil ?_
        skip
        refine Run.retCTK T 0 (by rw [hCf]; exact func120) results120 rfl rfl rfl rfl rfl rfl rfl (List.sublist_cons_self _ _) (hR _ _ _ ?_)
        show RdPost _ _ _ _ _ (rdV f t) _ _ _
        rw [hst]
        rw [show stepR (subR f) t = (subR f).bind (fun v => objR v s) from by unfold stepR; rw [hk]; rfl, hm]
        exact ⟨_, rfl, hrel, rfl⟩
    by_cases k2 : e = 91
    · subst k2
      refine Run.regionO (D := [some 33, some 32]) [true, true] rfl rfl rfl (fun Z hZ => ?_)
      refine QD.e (Ev.eqlI rfl rfl) (by decide) rfl ?_
      refine QD.ev T (by decide) rfl rfl ?_
      refine QD.nil (hZ _ ?_)
      clear hZ Z
      repeat (first | refine Run.seq ?_ | refine Run.cond_f rfl ?_)
      refine Run.regionO (D := [some 39, some 38]) [true, true] rfl rfl rfl (fun Z hZ => ?_)
      refine QD.e (Ev.eqlI rfl rfl) (by decide) rfl ?_
      refine QD.ev T (by decide) rfl rfl ?_
      refine QD.nil (hZ _ ?_)
      clear hZ Z
      have hMe2 := fun (J : Imm) s h => hEl J1 s (Le.refl _) h
      repeat (first | refine Run.seq ?_ | refine Run.cond_t rfl ?_)
      refine Run.regionP (D := [some 40, some 41, some 42, some 43, none, some 3]) [true] 1 rfl rfl rfl (by simp only [List.drop_succ_cons, List.drop_zero]; rfl) (fun Z hZ => ?_)
      refine QD.ev T (by decide) rfl rfl ?_
      refine QD.nil (hZ _ ?_)
      clear hZ Z
      have hM := hMe2 J1 s hs1
      cases hm : (subR f).bind (fun v => listR v s) with
      | none =>
        rw [hm] at hM
        refine Ops.callP (N := [_]) (hM) (.refl _) rfl (by decide) call140 rfl ?_
        rintro x J2 M2 l2 ⟨cs, p, d', rfl, h5, h6, hp, rfl⟩
        obtain ⟨c1, c2, c3, c4, c5, rfl⟩ := list5 h5
        refine Ops.pure T rfl (by decide) rfl ?_
        refine Ops.pure T rfl (by decide) rfl ?_
        refine Ops.store 0 rfl rfl rfl rfl rfl (T.sizeOk rfl) rfl (Nat.le_of_ble_eq_true rfl) h6 rfl ?_
        refine Ops.pure T rfl (by decide) rfl ?_
        refine Ops.nil ?_
        skip
        refine Run.retCTK T 0 (by rw [hCf]; exact func120) results120 rfl rfl rfl rfl rfl rfl rfl (List.sublist_cons_self _ _) (hR _ _ _ ?_)
        show RdPost _ _ _ _ _ (rdV f t) _ _ _
        rw [hst]
        rw [show stepR (subR f) t = (subR f).bind (fun v => listR v s) from by unfold stepR; rw [hk]; rfl, hm]
        exact ⟨_, _, _, rfl, rfl, h6, hp, rfl⟩
      | some pr =>
        obtain ⟨v1, s1⟩ := pr
        rw [hm] at hM
        refine Ops.callP (N := [_]) (hM) (.refl _) rfl (by decide) call140 rfl ?_
        rintro x J2 M2 l2 ⟨cs, rfl, hrel, rfl⟩
        obtain ⟨wk, wn, rfl, hwk, hwn⟩ := id hrel
        obtain ⟨A3, z3, rfl⟩ := hwk.isSl
        obtain ⟨A4, z4, rfl⟩ := hwn.isSl
        skip
        refine Ops.pure T rfl (by decide) rfl ?_
        refine Ops.pure T rfl (by decide) rfl ?_
        first | refine Ops.store 0 rfl rfl rfl rfl rfl (T.sizeOk rfl) rfl (Nat.le_of_ble_eq_true rfl) rfl rfl ?_ | refine Ops.store 1 rfl rfl rfl rfl rfl (T.sizeOk rfl) rfl (Nat.le_of_ble_eq_true rfl) rfl rfl ?_ | refine Ops.store 2 rfl rfl rfl rfl rfl (T.sizeOk rfl) rfl (Nat.le_of_ble_eq_true rfl) rfl rfl ?_
        refine Ops.pure T rfl (by decide) rfl ?_
        refine Ops.nil ?_
        skip
        refine Run.retCTK T 0 (by rw [hCf]; exact func120) results120 rfl rfl rfl rfl rfl rfl rfl (List.sublist_cons_self _ _) (hR _ _ _ ?_)
        show RdPost _ _ _ _ _ (rdV f t) _ _ _
        rw [hst]
        rw [show stepR (subR f) t = (subR f).bind (fun v => listR v s) from by unfold stepR; rw [hk]; rfl, hm]
        exact ⟨_, rfl, hrel, rfl⟩
    by_cases k3 : e = 34
    · subst k3
      refine Run.regionO (D := [some 33, some 32]) [true, true] rfl rfl rfl (fun Z hZ => ?_)
      refine QD.e (Ev.eqlI rfl rfl) (by decide) rfl ?_
      refine QD.ev T (by decide) rfl rfl ?_
      refine QD.nil (hZ _ ?_)
      clear hZ Z
      repeat (first | refine Run.seq ?_ | refine Run.cond_f rfl ?_)
      refine Run.regionO (D := [some 39, some 38]) [true, true] rfl rfl rfl (fun Z hZ => ?_)
      refine QD.e (Ev.eqlI rfl rfl) (by decide) rfl ?_
      refine QD.ev T (by decide) rfl rfl ?_
      refine QD.nil (hZ _ ?_)
      clear hZ Z
      repeat (first | refine Run.seq ?_ | refine Run.cond_f rfl ?_)
      refine Run.regionO (D := [some 45, some 44]) [true, true] rfl rfl rfl (fun Z hZ => ?_)
      refine QD.e (Ev.eqlI rfl rfl) (by decide) rfl ?_
      refine QD.ev T (by decide) rfl rfl ?_
      refine QD.nil (hZ _ ?_)
      clear hZ Z
      repeat (first | refine Run.seq ?_ | refine Run.cond_t rfl ?_)
      refine Run.region ?_
      refine Ops.pure T rfl (by decide) rfl ?_
      first | refine Ops.store 0 rfl rfl rfl rfl rfl (T.sizeOk rfl) rfl (Nat.le_of_ble_eq_true rfl) rfl rfl ?_ | refine Ops.store 1 rfl rfl rfl rfl rfl (T.sizeOk rfl) rfl (Nat.le_of_ble_eq_true rfl) rfl rfl ?_ | refine Ops.store 2 rfl rfl rfl rfl rfl (T.sizeOk rfl) rfl (Nat.le_of_ble_eq_true rfl) rfl rfl ?_
      refine Ops.pure T rfl (by decide) rfl ?_
      first | refine Ops.store 0 rfl rfl rfl rfl rfl (T.sizeOk rfl) rfl (Nat.le_of_ble_eq_true rfl) rfl rfl ?_ | refine Ops.store 1 rfl rfl rfl rfl rfl (T.sizeOk rfl) rfl (Nat.le_of_ble_eq_true rfl) rfl rfl ?_ | refine Ops.store 2 rfl rfl rfl rfl rfl (T.sizeOk rfl) rfl (Nat.le_of_ble_eq_true rfl) rfl rfl ?_
      refine Ops.nil ?_
      repeat (first | refine Run.seq ?_)
      refine Run.regionO (D := [some 48, some 49, some 50, some 51, some 5]) [true, true, true, true, true] rfl rfl rfl (fun Z hZ => ?_)
      refine QD.ev T (by decide) rfl rfl ?_
      refine QD.ev T (by decide) rfl rfl ?_
      refine QD.ev T (by decide) rfl rfl ?_
      first | refine QD.yv (by decide) rfl (Yv.load 0 T rfl rfl rfl rfl) ?_ | refine QD.yv (by decide) rfl (Yv.load 1 T rfl rfl rfl rfl) ?_ | refine QD.yv (by decide) rfl (Yv.load 2 T rfl rfl rfl rfl) ?_
      refine QD.ev T (by decide) rfl rfl ?_
      refine QD.nil (hZ _ ?_)
      clear hZ Z
      repeat (first | refine Run.seq ?_)
      refine Run.regionP (D := [some 53, some 54, some 52, some 55, some 56, some 57, none, some 3]) [true] 1 rfl rfl rfl (by simp only [List.drop_succ_cons, List.drop_zero]; rfl) (fun Z hZ => ?_)
      refine QD.ev T (by decide) rfl rfl ?_
      refine QD.nil (hZ _ ?_)
      clear hZ Z
      refine Ops.callP (N := [_]) ((hTx J1 s (Le.refl _) hs1)) (.refl _) rfl (by decide) call141 rfl ?_
      rintro x J2 M2 l2 ⟨rfl, hm⟩
      obtain ⟨tx, b, p, rfl, rfl, hp1, hp2, hm2⟩ : ∃ (tx : Bs) (b : Bool) (p : Nat), x = .tuple #[str tx, .bool b] ∧ M2 = [(r, rdr (.slice (some ⟨db, off, none⟩) xs.length c) p d)] ∧ posR xs (34 :: s) ≤ p ∧ p ≤ xs.length ∧
          (match strR s with | some (q, s') => tx = q ∧ b = true ∧ p = posR xs s' ∧ Sfx s' (34 :: s) | none => b = false) := by
        cases hq : strR s with
        | none =>
          rw [hq] at hm
          obtain ⟨p, h1, h2, rfl, rfl⟩ := hm
          exact ⟨[], false, p, rfl, rfl, h1, h2, rfl⟩
        | some pr =>
          obtain ⟨q, s'⟩ := pr
          rw [hq] at hm
          obtain ⟨rfl, rfl⟩ := hm
          obtain ⟨k, k'⟩ := str_sfx hq
          exact ⟨q, true, _, rfl, rfl, by unfold posR; simp only [List.length_cons]; omega, pl _, rfl, rfl, rfl, k.trans (Sfx.cons _ _)⟩
      refine Ops.pure T rfl (by decide) rfl ?_
      refine Ops.pure T rfl (by decide) rfl ?_
      refine Ops.pure T rfl (by decide) rfl ?_
      refine Ops.pure T rfl (by decide) rfl ?_
      first | refine Ops.store 0 rfl rfl rfl rfl rfl (T.sizeOk rfl) rfl (Nat.le_of_ble_eq_true rfl) rfl rfl ?_ | refine Ops.store 1 rfl rfl rfl rfl rfl (T.sizeOk rfl) rfl (Nat.le_of_ble_eq_true rfl) rfl rfl ?_ | refine Ops.store 2 rfl rfl rfl rfl rfl (T.sizeOk rfl) rfl (Nat.le_of_ble_eq_true rfl) rfl rfl ?_
      refine Ops.pure T rfl (by decide) rfl ?_
      refine Ops.nil ?_
      repeat (first | refine Run.seq ?_)
      have hcut := hR0.cut (p := posR xs (34 :: s)) (q := p) hp1 hp2 (by omega)
      generalize hys : (xs.take p).drop (posR xs (34 :: s)) = ys at hcut
      have hyl : ys.length = p - posR xs (34 :: s) := by rw [← hys]; simp; omega
      have hycap := hcut.cap
      refine Run.regionQ (D := [some 58, some 59, some 60, some 61, some 62, some 63, some 64, some 65, some 66, some 67, some 68, some 69]) [true, true, true, true, true, true, true, true, true, true, true, true] (bl 12 4095) (by kernel_rfl) (by kernel_rfl) (by kernel_rfl) (by kernel_rfl) rfl (fun Z hZ => ?_)
      refine QD.ev T (by decide) rfl rfl ?_
      refine QD.ev T (by decide) rfl rfl ?_
      refine QD.ev T (by decide) rfl rfl ?_
      first | refine QD.yv (by decide) rfl (Yv.load 0 T rfl rfl rfl rfl) ?_ | refine QD.yv (by decide) rfl (Yv.load 1 T rfl rfl rfl rfl) ?_ | refine QD.yv (by decide) rfl (Yv.load 2 T rfl rfl rfl rfl) ?_
      refine QD.ev T (by decide) rfl rfl ?_
      refine QD.ev T (by decide) rfl rfl ?_
      refine QD.ev T (by decide) rfl rfl ?_
      refine QD.ev T (by decide) rfl rfl ?_
      first | refine QD.yv (by decide) rfl (Yv.load 0 T rfl rfl rfl rfl) ?_ | refine QD.yv (by decide) rfl (Yv.load 1 T rfl rfl rfl rfl) ?_ | refine QD.yv (by decide) rfl (Yv.load 2 T rfl rfl rfl rfl) ?_
      refine QD.e ((Ev.sliceLH (p := posR xs (34 :: s)) (q := p) T rfl rfl rfl rfl rfl hp1 (by omega)).as hcut.eq) (by decide) rfl ?_
      refine QD.ev T (by decide) rfl rfl ?_
      refine QD.ev T (by decide) rfl rfl ?_
      refine QD.nil (hZ _ ?_)
      clear hZ Z
      repeat (first | refine Run.block ?_)
      refine Run.keep [0, 2, 3, 67, 68, 69] [_, _, _, _, _, _] rfl ?_
      refine Run.rounds (fun m env L J => ∃ i : Nat, m = ys.length - i ∧ i ≤ ys.length ∧
        env = [(0, .pointer (some ⟨r, 0, none⟩)), (2, .pointer (some ⟨b2, 0, none⟩)), (3, .bool b), (67, .slice (some ⟨db, off + posR xs (34 :: s), none⟩) ys.length (c - posR xs (34 :: s))), (68, .int .i64 (ys.length : Int)), (69, .int .i64 (i : Int))] ∧
        L = [(b2, blk [.int .u8 34, .bool ((ys.take i).all fun b => !(b == 92)), str tx, .slice none 0 0, .slice none 0 0] 230), (r, rdr (.slice (some ⟨db, off, none⟩) xs.length c) p d)] ∧ J2 = J) ys.length ⟨0, by omega, by omega, rfl, rfl, rfl⟩ ?_
      rintro m env L J ⟨i, rfl, hi, rfl, rfl, rfl⟩ ih
      repeat (first | refine Run.seq ?_)
      by_cases hlt : i < ys.length
      · have hA2 := hcut.at' i hlt
        have hnext := all_next hlt fun b => !(b == 92)
        refine Run.regionO (D := [some 70]) [true] rfl rfl rfl (fun Z hZ => ?_)
        refine QD.e ((Ev.lss rfl rfl).as (show _ = Value.bool true from congrArg Value.bool (decide_eq_true (by omega)))) (by decide) rfl ?_
        refine QD.nil (hZ _ ?_)
        clear hZ Z
        repeat (first | refine Run.seq ?_ | refine Run.skip ?_ | refine Run.block ?_ | refine Run.cond_t rfl ?_)
        generalize ys.getD i 0 = y at hA2 hnext
        refine Run.regionO (D := [some 71, some 72, some 7]) [true, true, true] rfl rfl rfl (fun Z hZ => ?_)
        refine QD.e (Ev.indexS T rfl rfl rfl rfl (by first | omega | (simp only [List.length_cons, List.length_nil] ; omega) | (simp; omega)) (by first | omega | (simp only [List.length_cons, List.length_nil] ; omega) | (simp; omega))) (by decide) rfl ?_
        first | refine QD.yv (by decide) rfl (Yv.load 0 T rfl rfl rfl rfl) ?_ | refine QD.yv (by decide) rfl (Yv.load 1 T rfl rfl rfl rfl) ?_ | refine QD.yv (by decide) rfl (Yv.load 2 T rfl rfl rfl rfl) ?_ | refine QD.yv (by decide) rfl (Yv.loadI T hA2 rfl rfl) ?_
        refine QD.ev T (by decide) rfl rfl ?_
        refine QD.nil (hZ _ ?_)
        clear hZ Z
        skip
        cases hP : (ys.take i).all fun b => !(b == 92) with
        | false =>
          rw [hP, Bool.false_and] at hnext
          refine Run.regionP (D := [some 73, some 74, some 75, some 76, some 77, some 78, some 79, none]) [true, true, true, true, true, true, true] 7 rfl rfl rfl (by simp only [List.drop_succ_cons, List.drop_zero]; rfl) (fun Z hZ => ?_)
          refine QD.ev T (by decide) rfl rfl ?_
          first | refine QD.yv (by decide) rfl (Yv.load 0 T rfl rfl rfl rfl) ?_ | refine QD.yv (by decide) rfl (Yv.load 1 T rfl rfl rfl rfl) ?_ | refine QD.yv (by decide) rfl (Yv.load 2 T rfl rfl rfl rfl) ?_
          refine QD.ev T (by decide) rfl rfl ?_
          first | refine QD.ev T (by decide) rfl rfl ?_ | refine QD.off (by decide) rfl ?_
          first | refine QD.e (Ev.neqI rfl rfl) (by decide) rfl ?_ | refine QD.off (by decide) rfl ?_
          refine QD.ev T (by decide) rfl rfl ?_
          refine QD.ev T (by decide) rfl rfl ?_
          refine QD.nil (hZ _ ?_)
          clear hZ Z
          first | refine Ops.store 0 rfl rfl rfl rfl rfl (T.sizeOk rfl) rfl (Nat.le_of_ble_eq_true rfl) rfl rfl ?_ | refine Ops.store 1 rfl rfl rfl rfl rfl (T.sizeOk rfl) rfl (Nat.le_of_ble_eq_true rfl) rfl rfl ?_ | refine Ops.store 2 rfl rfl rfl rfl rfl (T.sizeOk rfl) rfl (Nat.le_of_ble_eq_true rfl) rfl rfl ?_
          refine Ops.nil ?_
          repeat (first | refine Run.inBlock ?_)
          refine Run.regionO (D := [some 80, some 69]) [true, true] rfl rfl rfl (fun Z hZ => ?_)
          refine QD.e (Ev.addK (r := ((i + 1 : Nat) : Int)) rfl rfl (by rw [wI (by omega) (by omega)]; omega)) (by decide) rfl ?_
          refine QD.ev T (by decide) rfl rfl ?_
          refine QD.nil (hZ _ ?_)
          clear hZ Z
          skip
          refine Run.keep [0, 2, 3, 67, 68, 69] [_, _, _, _, _, _] rfl ?_
          exact ih (ys.length - (i + 1)) _ _ _ (by omega) ⟨i + 1, rfl, by omega, rfl, by rw [hnext]; rfl, rfl⟩
        | true =>
          rw [hP, Bool.true_and] at hnext
          by_cases hy : y = 92
          · subst hy
            refine Run.regionP (D := [some 73, some 74, some 75, some 76, some 77, some 78, some 79, none]) [true, true, true, true, true, true, true] 7 rfl rfl rfl (by simp only [List.drop_succ_cons, List.drop_zero]; rfl) (fun Z hZ => ?_)
            refine QD.ev T (by decide) rfl rfl ?_
            first | refine QD.yv (by decide) rfl (Yv.load 0 T rfl rfl rfl rfl) ?_ | refine QD.yv (by decide) rfl (Yv.load 1 T rfl rfl rfl rfl) ?_ | refine QD.yv (by decide) rfl (Yv.load 2 T rfl rfl rfl rfl) ?_
            refine QD.ev T (by decide) rfl rfl ?_
            first | refine QD.ev T (by decide) rfl rfl ?_ | refine QD.off (by decide) rfl ?_
            first | refine QD.e (Ev.neqI rfl rfl) (by decide) rfl ?_ | refine QD.off (by decide) rfl ?_
            refine QD.ev T (by decide) rfl rfl ?_
            refine QD.ev T (by decide) rfl rfl ?_
            refine QD.nil (hZ _ ?_)
            clear hZ Z
            first | refine Ops.store 0 rfl rfl rfl rfl rfl (T.sizeOk rfl) rfl (Nat.le_of_ble_eq_true rfl) rfl rfl ?_ | refine Ops.store 1 rfl rfl rfl rfl rfl (T.sizeOk rfl) rfl (Nat.le_of_ble_eq_true rfl) rfl rfl ?_ | refine Ops.store 2 rfl rfl rfl rfl rfl (T.sizeOk rfl) rfl (Nat.le_of_ble_eq_true rfl) rfl rfl ?_
            refine Ops.nil ?_
            repeat (first | refine Run.inBlock ?_)
            refine Run.regionO (D := [some 80, some 69]) [true, true] rfl rfl rfl (fun Z hZ => ?_)
            refine QD.e (Ev.addK (r := ((i + 1 : Nat) : Int)) rfl rfl (by rw [wI (by omega) (by omega)]; omega)) (by decide) rfl ?_
            refine QD.ev T (by decide) rfl rfl ?_
            refine QD.nil (hZ _ ?_)
            clear hZ Z
            skip
            refine Run.keep [0, 2, 3, 67, 68, 69] [_, _, _, _, _, _] rfl ?_
            exact ih (ys.length - (i + 1)) _ _ _ (by omega) ⟨i + 1, rfl, by omega, rfl, by rw [hnext]; rfl, rfl⟩
          · have ne : y.toNat ≠ 92 := fun h => hy (UInt8.toNat_inj.1 h)
            have hb : (!(y == 92)) = true := by simp [hy]
            rw [hb] at hnext
            refine Run.regionP (D := [some 73, some 74, some 75, some 76, some 77, some 78, some 79, none]) [true, true, true, true, true, true, true] 7 rfl rfl rfl (by simp only [List.drop_succ_cons, List.drop_zero]; rfl) (fun Z hZ => ?_)
            refine QD.ev T (by decide) rfl rfl ?_
            first | refine QD.yv (by decide) rfl (Yv.load 0 T rfl rfl rfl rfl) ?_ | refine QD.yv (by decide) rfl (Yv.load 1 T rfl rfl rfl rfl) ?_ | refine QD.yv (by decide) rfl (Yv.load 2 T rfl rfl rfl rfl) ?_
            refine QD.ev T (by decide) rfl rfl ?_
            first | refine QD.ev T (by decide) rfl rfl ?_ | refine QD.off (by decide) rfl ?_
            refine QD.e ((Ev.neqI rfl rfl).as (show _ = Value.bool true from congrArg Value.bool (by rw [decide_eq_false (by omega)]; rfl))) (by decide) rfl ?_
            refine QD.ev T (by decide) rfl rfl ?_
            refine QD.ev T (by decide) rfl rfl ?_
            refine QD.nil (hZ _ ?_)
            clear hZ Z
            first | refine Ops.store 0 rfl rfl rfl rfl rfl (T.sizeOk rfl) rfl (Nat.le_of_ble_eq_true rfl) rfl rfl ?_ | refine Ops.store 1 rfl rfl rfl rfl rfl (T.sizeOk rfl) rfl (Nat.le_of_ble_eq_true rfl) rfl rfl ?_ | refine Ops.store 2 rfl rfl rfl rfl rfl (T.sizeOk rfl) rfl (Nat.le_of_ble_eq_true rfl) rfl rfl ?_
            refine Ops.nil ?_
            repeat (first | refine Run.inBlock ?_)
            refine Run.regionO (D := [some 80, some 69]) [true, true] rfl rfl rfl (fun Z hZ => ?_)
            refine QD.e (Ev.addK (r := ((i + 1 : Nat) : Int)) rfl rfl (by rw [wI (by omega) (by omega)]; omega)) (by decide) rfl ?_
            refine QD.ev T (by decide) rfl rfl ?_
            refine QD.nil (hZ _ ?_)
            clear hZ Z
            skip
            refine Run.keep [0, 2, 3, 67, 68, 69] [_, _, _, _, _, _] rfl ?_
            exact ih (ys.length - (i + 1)) _ _ _ (by omega) ⟨i + 1, rfl, by omega, rfl, by rw [hnext]; rfl, rfl⟩
      · have hil : i = ys.length := by omega
        refine Run.regionO (D := [some 70]) [true] rfl rfl rfl (fun Z hZ => ?_)
        refine QD.e ((Ev.lss rfl rfl).as (show _ = Value.bool false from congrArg Value.bool (decide_eq_false (by omega)))) (by decide) rfl ?_
        refine QD.nil (hZ _ ?_)
        clear hZ Z
        repeat (first | refine Run.seq ?_ | refine Run.exit rfl ?_ | refine Run.cond_f rfl ?_)
        refine Run.region ?_
        first | refine Ops.loadN 0 rfl (by decide) rfl rfl (T.aggOk rfl) (T.sizeOk rfl) rfl rfl ?_ | refine Ops.loadN 1 rfl (by decide) rfl rfl (T.aggOk rfl) (T.sizeOk rfl) rfl rfl ?_ | refine Ops.loadN 2 rfl (by decide) rfl rfl (T.aggOk rfl) (T.sizeOk rfl) rfl rfl ?_
        refine Ops.pure T rfl (by decide) rfl ?_
        first | refine Ops.store 0 rfl rfl rfl rfl rfl (T.sizeOk rfl) rfl (Nat.le_of_ble_eq_true rfl) rfl rfl ?_ | refine Ops.store 1 rfl rfl rfl rfl rfl (T.sizeOk rfl) rfl (Nat.le_of_ble_eq_true rfl) rfl rfl ?_ | refine Ops.store 2 rfl rfl rfl rfl rfl (T.sizeOk rfl) rfl (Nat.le_of_ble_eq_true rfl) rfl rfl ?_
        refine Ops.pure T rfl (by decide) rfl ?_
        refine Ops.nil ?_
        skip
        refine Run.retCTK T 0 (by rw [hCf]; exact func120) results120 rfl rfl rfl rfl rfl rfl rfl (List.sublist_cons_self _ _) (hR _ _ _ ?_)
        show RdPost _ _ _ _ _ (rdV f t) _ _ _
        rw [hst]
        rw [show stepR (subR f) t = (strR s).map fun p => (.mk 34 ((eaten (34 :: s) p.2).all fun b => !(b == 92)) p.1 [] [], p.2) from by unfold stepR; rw [hk]; rfl]
        cases hq : strR s with
        | none =>
          rw [hq] at hm2
          obtain rfl : b = false := hm2
          exact ⟨_, _, _, rfl, rfl, rfl, hp2, rfl⟩
        | some pr =>
          obtain ⟨q, s'⟩ := pr
          rw [hq] at hm2
          obtain ⟨rfl, rfl, rfl, hsf⟩ := hm2
          have hy2 : ys = eaten (34 :: s) s' := by rw [← hys]; exact cut_eaten hs1 hsf
          rw [hil, List.take_length, hy2]
          exact ⟨_, rfl, ⟨_, _, rfl, Sl.nil _ _, Sl.nil _ _⟩, rfl⟩
    by_cases k4 : e = 116
    · subst k4
      refine Run.regionO (D := [some 33, some 32]) [true, true] rfl rfl rfl (fun Z hZ => ?_)
      refine QD.e (Ev.eqlI rfl rfl) (by decide) rfl ?_
      refine QD.ev T (by decide) rfl rfl ?_
      refine QD.nil (hZ _ ?_)
      clear hZ Z
      repeat (first | refine Run.seq ?_ | refine Run.cond_f rfl ?_)
      refine Run.regionO (D := [some 39, some 38]) [true, true] rfl rfl rfl (fun Z hZ => ?_)
      refine QD.e (Ev.eqlI rfl rfl) (by decide) rfl ?_
      refine QD.ev T (by decide) rfl rfl ?_
      refine QD.nil (hZ _ ?_)
      clear hZ Z
      repeat (first | refine Run.seq ?_ | refine Run.cond_f rfl ?_)
      refine Run.regionO (D := [some 45, some 44]) [true, true] rfl rfl rfl (fun Z hZ => ?_)
      refine QD.e (Ev.eqlI rfl rfl) (by decide) rfl ?_
      refine QD.ev T (by decide) rfl rfl ?_
      refine QD.nil (hZ _ ?_)
      clear hZ Z
      repeat (first | refine Run.seq ?_ | refine Run.cond_f rfl ?_)
      refine Run.regionO (D := [some 84, some 83]) [true, true] rfl rfl rfl (fun Z hZ => ?_)
      refine QD.e (Ev.eqlI rfl rfl) (by decide) rfl ?_
      refine QD.ev T (by decide) rfl rfl ?_
      refine QD.nil (hZ _ ?_)
      clear hZ Z
      repeat (first | refine Run.seq ?_ | refine Run.cond_t rfl ?_)
      refine Run.region ?_
      refine Ops.buildL bd230 rfl (by decide) rfl rfl ?_
      refine Ops.pure T rfl (by decide) rfl ?_
      refine Ops.callP (N := [_]) ((hWd [116, 114, 117, 101] J1 (116 :: s) (Le.refl _) hs1 (by decide) (by decide))) (.refl _) rfl (by decide) call142 rfl ?_
      rintro x J2 M2 l2 ⟨rfl, rfl, rfl⟩
      first | refine Ops.store 0 rfl rfl rfl rfl rfl (T.sizeOk rfl) rfl (Nat.le_of_ble_eq_true rfl) rfl rfl ?_ | refine Ops.store 1 rfl rfl rfl rfl rfl (T.sizeOk rfl) rfl (Nat.le_of_ble_eq_true rfl) rfl rfl ?_ | refine Ops.store 2 rfl rfl rfl rfl rfl (T.sizeOk rfl) rfl (Nat.le_of_ble_eq_true rfl) rfl rfl ?_
      refine Ops.pure T rfl (by decide) rfl ?_
      refine Ops.nil ?_
      skip
      refine Run.retCTK T 0 (by rw [hCf]; exact func120) results120 rfl rfl rfl rfl rfl rfl rfl (List.sublist_cons_self _ _) (hR _ _ _ ?_)
      show RdPost _ _ _ _ _ (rdV f t) _ _ _
      rw [hst]
      rw [show stepR (subR f) t = (wordR [116, 114, 117, 101] (116 :: s)).map fun r => (.mk 116 false [] [] [], r) from by unfold stepR; rw [hk]; rfl]
      cases hw : wordR [116, 114, 117, 101] (116 :: s) with
      | some s2 => exact ⟨_, rfl, ⟨_, _, rfl, Sl.nil _ _, Sl.nil _ _⟩, rfl⟩
      | none => exact ⟨_, _, _, rfl, rfl, rfl, pl _, rfl⟩
    by_cases k5 : e = 102
    · subst k5
      refine Run.regionO (D := [some 33, some 32]) [true, true] rfl rfl rfl (fun Z hZ => ?_)
      refine QD.e (Ev.eqlI rfl rfl) (by decide) rfl ?_
      refine QD.ev T (by decide) rfl rfl ?_
      refine QD.nil (hZ _ ?_)
      clear hZ Z
      repeat (first | refine Run.seq ?_ | refine Run.cond_f rfl ?_)
      refine Run.regionO (D := [some 39, some 38]) [true, true] rfl rfl rfl (fun Z hZ => ?_)
      refine QD.e (Ev.eqlI rfl rfl) (by decide) rfl ?_
      refine QD.ev T (by decide) rfl rfl ?_
      refine QD.nil (hZ _ ?_)
      clear hZ Z
      repeat (first | refine Run.seq ?_ | refine Run.cond_f rfl ?_)
      refine Run.regionO (D := [some 45, some 44]) [true, true] rfl rfl rfl (fun Z hZ => ?_)
      refine QD.e (Ev.eqlI rfl rfl) (by decide) rfl ?_
      refine QD.ev T (by decide) rfl rfl ?_
      refine QD.nil (hZ _ ?_)
      clear hZ Z
      repeat (first | refine Run.seq ?_ | refine Run.cond_f rfl ?_)
      refine Run.regionO (D := [some 84, some 83]) [true, true] rfl rfl rfl (fun Z hZ => ?_)
      refine QD.e (Ev.eqlI rfl rfl) (by decide) rfl ?_
      refine QD.ev T (by decide) rfl rfl ?_
      refine QD.nil (hZ _ ?_)
      clear hZ Z
      repeat (first | refine Run.seq ?_ | refine Run.cond_f rfl ?_)
      refine Run.regionO (D := [some 89, some 88]) [true, true] rfl rfl rfl (fun Z hZ => ?_)
      refine QD.e (Ev.eqlI rfl rfl) (by decide) rfl ?_
      refine QD.ev T (by decide) rfl rfl ?_
      refine QD.nil (hZ _ ?_)
      clear hZ Z
      repeat (first | refine Run.seq ?_ | refine Run.cond_t rfl ?_)
      refine Run.region ?_
      refine Ops.buildL bd230 rfl (by decide) rfl rfl ?_
      refine Ops.pure T rfl (by decide) rfl ?_
      refine Ops.callP (N := [_]) ((hWd [102, 97, 108, 115, 101] J1 (102 :: s) (Le.refl _) hs1 (by decide) (by decide))) (.refl _) rfl (by decide) call142 rfl ?_
      rintro x J2 M2 l2 ⟨rfl, rfl, rfl⟩
      first | refine Ops.store 0 rfl rfl rfl rfl rfl (T.sizeOk rfl) rfl (Nat.le_of_ble_eq_true rfl) rfl rfl ?_ | refine Ops.store 1 rfl rfl rfl rfl rfl (T.sizeOk rfl) rfl (Nat.le_of_ble_eq_true rfl) rfl rfl ?_ | refine Ops.store 2 rfl rfl rfl rfl rfl (T.sizeOk rfl) rfl (Nat.le_of_ble_eq_true rfl) rfl rfl ?_
      refine Ops.pure T rfl (by decide) rfl ?_
      refine Ops.nil ?_
      skip
      refine Run.retCTK T 0 (by rw [hCf]; exact func120) results120 rfl rfl rfl rfl rfl rfl rfl (List.sublist_cons_self _ _) (hR _ _ _ ?_)
      show RdPost _ _ _ _ _ (rdV f t) _ _ _
      rw [hst]
      rw [show stepR (subR f) t = (wordR [102, 97, 108, 115, 101] (102 :: s)).map fun r => (.mk 102 false [] [] [], r) from by unfold stepR; rw [hk]; rfl]
      cases hw : wordR [102, 97, 108, 115, 101] (102 :: s) with
      | some s2 => exact ⟨_, rfl, ⟨_, _, rfl, Sl.nil _ _, Sl.nil _ _⟩, rfl⟩
      | none => exact ⟨_, _, _, rfl, rfl, rfl, pl _, rfl⟩
    by_cases k6 : e = 110
    · subst k6
      refine Run.regionO (D := [some 33, some 32]) [true, true] rfl rfl rfl (fun Z hZ => ?_)
      refine QD.e (Ev.eqlI rfl rfl) (by decide) rfl ?_
      refine QD.ev T (by decide) rfl rfl ?_
      refine QD.nil (hZ _ ?_)
      clear hZ Z
      repeat (first | refine Run.seq ?_ | refine Run.cond_f rfl ?_)
      refine Run.regionO (D := [some 39, some 38]) [true, true] rfl rfl rfl (fun Z hZ => ?_)
      refine QD.e (Ev.eqlI rfl rfl) (by decide) rfl ?_
      refine QD.ev T (by decide) rfl rfl ?_
      refine QD.nil (hZ _ ?_)
      clear hZ Z
      repeat (first | refine Run.seq ?_ | refine Run.cond_f rfl ?_)
      refine Run.regionO (D := [some 45, some 44]) [true, true] rfl rfl rfl (fun Z hZ => ?_)
      refine QD.e (Ev.eqlI rfl rfl) (by decide) rfl ?_
      refine QD.ev T (by decide) rfl rfl ?_
      refine QD.nil (hZ _ ?_)
      clear hZ Z
      repeat (first | refine Run.seq ?_ | refine Run.cond_f rfl ?_)
      refine Run.regionO (D := [some 84, some 83]) [true, true] rfl rfl rfl (fun Z hZ => ?_)
      refine QD.e (Ev.eqlI rfl rfl) (by decide) rfl ?_
      refine QD.ev T (by decide) rfl rfl ?_
      refine QD.nil (hZ _ ?_)
      clear hZ Z
      repeat (first | refine Run.seq ?_ | refine Run.cond_f rfl ?_)
      refine Run.regionO (D := [some 89, some 88]) [true, true] rfl rfl rfl (fun Z hZ => ?_)
      refine QD.e (Ev.eqlI rfl rfl) (by decide) rfl ?_
      refine QD.ev T (by decide) rfl rfl ?_
      refine QD.nil (hZ _ ?_)
      clear hZ Z
      repeat (first | refine Run.seq ?_ | refine Run.cond_f rfl ?_)
      refine Run.regionO (D := [some 94, some 93]) [true, true] rfl rfl rfl (fun Z hZ => ?_)
      refine QD.e (Ev.eqlI rfl rfl) (by decide) rfl ?_
      refine QD.ev T (by decide) rfl rfl ?_
      refine QD.nil (hZ _ ?_)
      clear hZ Z
      repeat (first | refine Run.seq ?_ | refine Run.cond_t rfl ?_)
      refine Run.region ?_
      refine Ops.buildL bd230 rfl (by decide) rfl rfl ?_
      refine Ops.pure T rfl (by decide) rfl ?_
      refine Ops.callP (N := [_]) ((hWd [110, 117, 108, 108] J1 (110 :: s) (Le.refl _) hs1 (by decide) (by decide))) (.refl _) rfl (by decide) call142 rfl ?_
      rintro x J2 M2 l2 ⟨rfl, rfl, rfl⟩
      first | refine Ops.store 0 rfl rfl rfl rfl rfl (T.sizeOk rfl) rfl (Nat.le_of_ble_eq_true rfl) rfl rfl ?_ | refine Ops.store 1 rfl rfl rfl rfl rfl (T.sizeOk rfl) rfl (Nat.le_of_ble_eq_true rfl) rfl rfl ?_ | refine Ops.store 2 rfl rfl rfl rfl rfl (T.sizeOk rfl) rfl (Nat.le_of_ble_eq_true rfl) rfl rfl ?_
      refine Ops.pure T rfl (by decide) rfl ?_
      refine Ops.nil ?_
      skip
      refine Run.retCTK T 0 (by rw [hCf]; exact func120) results120 rfl rfl rfl rfl rfl rfl rfl (List.sublist_cons_self _ _) (hR _ _ _ ?_)
      show RdPost _ _ _ _ _ (rdV f t) _ _ _
      rw [hst]
      rw [show stepR (subR f) t = (wordR [110, 117, 108, 108] (110 :: s)).map fun r => (.mk 110 false [] [] [], r) from by unfold stepR; rw [hk]; rfl]
      cases hw : wordR [110, 117, 108, 108] (110 :: s) with
      | some s2 => exact ⟨_, rfl, ⟨_, _, rfl, Sl.nil _ _, Sl.nil _ _⟩, rfl⟩
      | none => exact ⟨_, _, _, rfl, rfl, rfl, pl _, rfl⟩
    refine Run.regionO (D := [some 33, some 32]) [true, true] rfl rfl rfl (fun Z hZ => ?_)
    refine QD.e ((Ev.eqlI rfl rfl).as (show _ = Value.bool false from congrArg Value.bool (nn 123 123 rfl k1))) (by decide) rfl ?_
    refine QD.ev T (by decide) rfl rfl ?_
    refine QD.nil (hZ _ ?_)
    clear hZ Z
    repeat (first | refine Run.seq ?_ | refine Run.cond_f rfl ?_)
    refine Run.regionO (D := [some 39, some 38]) [true, true] rfl rfl rfl (fun Z hZ => ?_)
    refine QD.e ((Ev.eqlI rfl rfl).as (show _ = Value.bool false from congrArg Value.bool (nn 91 91 rfl k2))) (by decide) rfl ?_
    refine QD.ev T (by decide) rfl rfl ?_
    refine QD.nil (hZ _ ?_)
    clear hZ Z
    repeat (first | refine Run.seq ?_ | refine Run.cond_f rfl ?_)
    refine Run.regionO (D := [some 45, some 44]) [true, true] rfl rfl rfl (fun Z hZ => ?_)
    refine QD.e ((Ev.eqlI rfl rfl).as (show _ = Value.bool false from congrArg Value.bool (nn 34 34 rfl k3))) (by decide) rfl ?_
    refine QD.ev T (by decide) rfl rfl ?_
    refine QD.nil (hZ _ ?_)
    clear hZ Z
    repeat (first | refine Run.seq ?_ | refine Run.cond_f rfl ?_)
    refine Run.regionO (D := [some 84, some 83]) [true, true] rfl rfl rfl (fun Z hZ => ?_)
    refine QD.e ((Ev.eqlI rfl rfl).as (show _ = Value.bool false from congrArg Value.bool (nn 116 116 rfl k4))) (by decide) rfl ?_
    refine QD.ev T (by decide) rfl rfl ?_
    refine QD.nil (hZ _ ?_)
    clear hZ Z
    repeat (first | refine Run.seq ?_ | refine Run.cond_f rfl ?_)
    refine Run.regionO (D := [some 89, some 88]) [true, true] rfl rfl rfl (fun Z hZ => ?_)
    refine QD.e ((Ev.eqlI rfl rfl).as (show _ = Value.bool false from congrArg Value.bool (nn 102 102 rfl k5))) (by decide) rfl ?_
    refine QD.ev T (by decide) rfl rfl ?_
    refine QD.nil (hZ _ ?_)
    clear hZ Z
    repeat (first | refine Run.seq ?_ | refine Run.cond_f rfl ?_)
    refine Run.regionO (D := [some 94, some 93]) [true, true] rfl rfl rfl (fun Z hZ => ?_)
    refine QD.e ((Ev.eqlI rfl rfl).as (show _ = Value.bool false from congrArg Value.bool (nn 110 110 rfl k6))) (by decide) rfl ?_
    refine QD.ev T (by decide) rfl rfl ?_
    refine QD.nil (hZ _ ?_)
    clear hZ Z
    repeat (first | refine Run.seq ?_ | refine Run.skip ?_ | refine Run.inBlock ?_ | refine Run.cond_f rfl ?_)
    refine Run.region ?_
    refine Ops.pure T rfl (by decide) rfl ?_
    first | refine Ops.store 0 rfl rfl rfl rfl rfl (T.sizeOk rfl) rfl (Nat.le_of_ble_eq_true rfl) rfl rfl ?_ | refine Ops.store 1 rfl rfl rfl rfl rfl (T.sizeOk rfl) rfl (Nat.le_of_ble_eq_true rfl) rfl rfl ?_ | refine Ops.store 2 rfl rfl rfl rfl rfl (T.sizeOk rfl) rfl (Nat.le_of_ble_eq_true rfl) rfl rfl ?_
    refine Ops.nil ?_
    repeat (first | refine Run.seq ?_)
    refine Run.regionP (D := [some 100, some 101, some 99, some 102, some 103, some 104, none, some 3]) [true] 1 rfl rfl rfl (by simp only [List.drop_succ_cons, List.drop_zero]; rfl) (fun Z hZ => ?_)
    refine QD.ev T (by decide) rfl rfl ?_
    refine QD.nil (hZ _ ?_)
    clear hZ Z
    have hN := hNu J1 (e :: s) (Le.refl _) hs1
    have hst2 : stepR (subR f) t = (numR (e :: s)).map fun r => (.mk 48 false (eaten (e :: s) r) [] [], r) := by
      unfold stepR; rw [hk]; simp only [if_neg k1, if_neg k2, if_neg k3, if_neg k4, if_neg k5, if_neg k6]
    cases hn : numR (e :: s) with
    | none =>
      rw [hn] at hN
      refine Ops.callP (N := [_]) (hN) (.refl _) rfl (by decide) call143 rfl ?_
      rintro x J2 M2 l2 ⟨rfl, p, hp1, hp2, rfl, rfl⟩
      refine Ops.pure T rfl (by decide) rfl ?_
      refine Ops.pure T rfl (by decide) rfl ?_
      refine Ops.pure T rfl (by decide) rfl ?_
      refine Ops.pure T rfl (by decide) rfl ?_
      first | refine Ops.store 0 rfl rfl rfl rfl rfl (T.sizeOk rfl) rfl (Nat.le_of_ble_eq_true rfl) rfl rfl ?_ | refine Ops.store 1 rfl rfl rfl rfl rfl (T.sizeOk rfl) rfl (Nat.le_of_ble_eq_true rfl) rfl rfl ?_ | refine Ops.store 2 rfl rfl rfl rfl rfl (T.sizeOk rfl) rfl (Nat.le_of_ble_eq_true rfl) rfl rfl ?_
      refine Ops.pure T rfl (by decide) rfl ?_
      refine Ops.nil ?_
      repeat (first | refine Run.seq ?_)
      refine Run.region ?_
      first | refine Ops.loadN 0 rfl (by decide) rfl rfl (T.aggOk rfl) (T.sizeOk rfl) rfl rfl ?_ | refine Ops.loadN 1 rfl (by decide) rfl rfl (T.aggOk rfl) (T.sizeOk rfl) rfl rfl ?_ | refine Ops.loadN 2 rfl (by decide) rfl rfl (T.aggOk rfl) (T.sizeOk rfl) rfl rfl ?_
      refine Ops.pure T rfl (by decide) rfl ?_
      first | refine Ops.store 0 rfl rfl rfl rfl rfl (T.sizeOk rfl) rfl (Nat.le_of_ble_eq_true rfl) rfl rfl ?_ | refine Ops.store 1 rfl rfl rfl rfl rfl (T.sizeOk rfl) rfl (Nat.le_of_ble_eq_true rfl) rfl rfl ?_ | refine Ops.store 2 rfl rfl rfl rfl rfl (T.sizeOk rfl) rfl (Nat.le_of_ble_eq_true rfl) rfl rfl ?_
      refine Ops.pure T rfl (by decide) rfl ?_
      refine Ops.nil ?_
      skip
      refine Run.retCTK T 0 (by rw [hCf]; exact func120) results120 rfl rfl rfl rfl rfl rfl rfl (List.sublist_cons_self _ _) (hR _ _ _ ?_)
      show RdPost _ _ _ _ _ (rdV f t) _ _ _
      rw [hst]
      rw [hst2, hn]
      exact ⟨_, _, _, rfl, rfl, rfl, hp2, rfl⟩
    | some s2 =>
      rw [hn] at hN
      refine Ops.callP (N := [_]) (hN) (.refl _) rfl (by decide) call143 rfl ?_
      rintro x J2 M2 l2 ⟨rfl, rfl, rfl⟩
      skip
      refine Ops.pure T rfl (by decide) rfl ?_
      refine Ops.pure T rfl (by decide) rfl ?_
      refine Ops.pure T rfl (by decide) rfl ?_
      refine Ops.pure T rfl (by decide) rfl ?_
      first | refine Ops.store 0 rfl rfl rfl rfl rfl (T.sizeOk rfl) rfl (Nat.le_of_ble_eq_true rfl) rfl rfl ?_ | refine Ops.store 1 rfl rfl rfl rfl rfl (T.sizeOk rfl) rfl (Nat.le_of_ble_eq_true rfl) rfl rfl ?_ | refine Ops.store 2 rfl rfl rfl rfl rfl (T.sizeOk rfl) rfl (Nat.le_of_ble_eq_true rfl) rfl rfl ?_
      refine Ops.pure T rfl (by decide) rfl ?_
      refine Ops.nil ?_
      repeat (first | refine Run.seq ?_)
      refine Run.region ?_
      first | refine Ops.loadN 0 rfl (by decide) rfl rfl (T.aggOk rfl) (T.sizeOk rfl) rfl rfl ?_ | refine Ops.loadN 1 rfl (by decide) rfl rfl (T.aggOk rfl) (T.sizeOk rfl) rfl rfl ?_ | refine Ops.loadN 2 rfl (by decide) rfl rfl (T.aggOk rfl) (T.sizeOk rfl) rfl rfl ?_
      refine Ops.pure T rfl (by decide) rfl ?_
      first | refine Ops.store 0 rfl rfl rfl rfl rfl (T.sizeOk rfl) rfl (Nat.le_of_ble_eq_true rfl) rfl rfl ?_ | refine Ops.store 1 rfl rfl rfl rfl rfl (T.sizeOk rfl) rfl (Nat.le_of_ble_eq_true rfl) rfl rfl ?_ | refine Ops.store 2 rfl rfl rfl rfl rfl (T.sizeOk rfl) rfl (Nat.le_of_ble_eq_true rfl) rfl rfl ?_
      refine Ops.pure T rfl (by decide) rfl ?_
      refine Ops.nil ?_
      skip
      refine Run.retCTK T 0 (by rw [hCf]; exact func120) results120 rfl rfl rfl rfl rfl rfl rfl (List.sublist_cons_self _ _) (hR _ _ _ ?_)
      show RdPost _ _ _ _ _ (rdV f t) _ _ _
      rw [hst]
      rw [hst2, hn]
      exact ⟨_, rfl, ⟨_, _, rfl, Sl.nil _ _, Sl.nil _ _⟩, rfl⟩
theorem reader_value : ∀ f, ValSpec f
  | 0 => value_of 0 fun g h => by omega
  | f + 1 => value_of (f + 1) fun g h => by
    obtain rfl : f = g := by omega
    exact reader_value f
end Go.V
namespace Go.V
open Go.Proofs.Tryz
open Go.RowKit
set_option linter.unusedVariables false
set_option linter.unusedSimpArgs false
set_option maxRecDepth 10000
attribute [local irreducible] Run Ops QD
def foldR (r : Nat) : Nat := if 65 ≤ r ∧ r ≤ 90 then r + 32 else if r = 383 then 115 else if r = 8490 then 107 else r
theorem zz_fold (I : Imm) (r : Nat) (hr : r < 2147480000) : Pure prog 227 [.int .i32 (r : Int)] I fun w J => w = .int .i32 (foldR r : Int) := by
  refine Spec.enter 19 [(0, _)] func227 rfl ntmps227 (by simp) rfl ?_
  intro C hCf hR hCI
  repeat (first | refine Run.seq ?_)
  refine Run.regionO (D := [some 2]) [true] rfl rfl rfl (fun Z hZ => ?_)
  refine QD.ev T (by decide) rfl rfl ?_
  refine QD.nil (hZ _ ?_)
  clear hZ Z
  repeat (first | refine Run.seq ?_ | refine Run.block ?_)
  by_cases h1 : 65 ≤ r
  · by_cases h2 : r ≤ 90
    · skip
      refine Run.regionO (D := [some 4, some 5, some 6, some 7, some 8, some 9, some 3]) [true, true, true, true, true, true, true] rfl rfl rfl (fun Z hZ => ?_)
      refine QD.ev T (by decide) rfl rfl ?_
      refine QD.e ((Ev.geq rfl rfl).as (show _ = Value.bool true from congrArg Value.bool (decide_eq_true (by omega)))) (by decide) rfl ?_
      refine QD.ev T (by decide) rfl rfl ?_
      first | refine QD.ev T (by decide) rfl rfl ?_ | refine QD.off (by decide) rfl ?_
      refine QD.e ((Ev.leq rfl rfl).as (show _ = Value.bool true from congrArg Value.bool (decide_eq_true (by omega)))) (by decide) rfl ?_
      refine QD.ev T (by decide) rfl rfl ?_
      refine QD.ev T (by decide) rfl rfl ?_
      refine QD.nil (hZ _ ?_)
      clear hZ Z
      repeat (first | refine Run.seq ?_ | refine Run.cond_t rfl ?_)
      refine Run.regionO (D := [some 10, some 11, some 2]) [true, true, true] rfl rfl rfl (fun Z hZ => ?_)
      refine QD.ev T (by decide) rfl rfl ?_
      refine QD.e (Ev.addK (r := (foldR r : Int)) rfl rfl (by rw [wrapI32 (by omega) (by omega), foldR, if_pos ⟨h1, h2⟩]; omega)) (by decide) rfl ?_
      refine QD.ev T (by decide) rfl rfl ?_
      refine QD.nil (hZ _ ?_)
      clear hZ Z
      skip
      refine Run.fin (Run.ret1 (by rw [hCf]; exact func227) results227 rfl (hR _ _ _ ?_))
      exact ⟨rfl, rfl⟩
    · skip
      refine Run.regionO (D := [some 4, some 5, some 6, some 7, some 8, some 9, some 3]) [true, true, true, true, true, true, true] rfl rfl rfl (fun Z hZ => ?_)
      refine QD.ev T (by decide) rfl rfl ?_
      refine QD.e ((Ev.geq rfl rfl).as (show _ = Value.bool true from congrArg Value.bool (decide_eq_true (by omega)))) (by decide) rfl ?_
      refine QD.ev T (by decide) rfl rfl ?_
      first | refine QD.ev T (by decide) rfl rfl ?_ | refine QD.off (by decide) rfl ?_
      refine QD.e ((Ev.leq rfl rfl).as (show _ = Value.bool false from congrArg Value.bool (decide_eq_false (by omega)))) (by decide) rfl ?_
      refine QD.ev T (by decide) rfl rfl ?_
      refine QD.ev T (by decide) rfl rfl ?_
      refine QD.nil (hZ _ ?_)
      clear hZ Z
      repeat (first | refine Run.seq ?_ | refine Run.cond_f rfl ?_)
      by_cases h3 : r = 383
      · subst h3
        refine Run.regionO (D := [some 13, some 14, some 12]) [true, true, true] rfl rfl rfl (fun Z hZ => ?_)
        refine QD.ev T (by decide) rfl rfl ?_
        refine QD.e (Ev.eqlI rfl rfl) (by decide) rfl ?_
        refine QD.ev T (by decide) rfl rfl ?_
        refine QD.nil (hZ _ ?_)
        clear hZ Z
        repeat (first | refine Run.seq ?_ | refine Run.cond_t rfl ?_)
        refine Run.regionO (D := [some 2]) [true] rfl rfl rfl (fun Z hZ => ?_)
        refine QD.ev T (by decide) rfl rfl ?_
        refine QD.nil (hZ _ ?_)
        clear hZ Z
        skip
        refine Run.fin (Run.ret1 (by rw [hCf]; exact func227) results227 rfl (hR _ _ _ ?_))
        exact ⟨rfl, rfl⟩
      refine Run.regionO (D := [some 13, some 14, some 12]) [true, true, true] rfl rfl rfl (fun Z hZ => ?_)
      refine QD.ev T (by decide) rfl rfl ?_
      refine QD.e ((Ev.eqlI rfl rfl).as (show _ = Value.bool false from congrArg Value.bool (decide_eq_false (by omega)))) (by decide) rfl ?_
      refine QD.ev T (by decide) rfl rfl ?_
      refine QD.nil (hZ _ ?_)
      clear hZ Z
      repeat (first | refine Run.seq ?_ | refine Run.cond_f rfl ?_)
      by_cases h4 : r = 8490
      · subst h4
        refine Run.regionO (D := [some 16, some 17, some 15]) [true, true, true] rfl rfl rfl (fun Z hZ => ?_)
        refine QD.ev T (by decide) rfl rfl ?_
        refine QD.e (Ev.eqlI rfl rfl) (by decide) rfl ?_
        refine QD.ev T (by decide) rfl rfl ?_
        refine QD.nil (hZ _ ?_)
        clear hZ Z
        repeat (first | refine Run.seq ?_ | refine Run.cond_t rfl ?_)
        refine Run.regionO (D := [some 2]) [true] rfl rfl rfl (fun Z hZ => ?_)
        refine QD.ev T (by decide) rfl rfl ?_
        refine QD.nil (hZ _ ?_)
        clear hZ Z
        skip
        refine Run.fin (Run.ret1 (by rw [hCf]; exact func227) results227 rfl (hR _ _ _ ?_))
        exact ⟨rfl, rfl⟩
      refine Run.regionO (D := [some 16, some 17, some 15]) [true, true, true] rfl rfl rfl (fun Z hZ => ?_)
      refine QD.ev T (by decide) rfl rfl ?_
      refine QD.e ((Ev.eqlI rfl rfl).as (show _ = Value.bool false from congrArg Value.bool (decide_eq_false (by omega)))) (by decide) rfl ?_
      refine QD.ev T (by decide) rfl rfl ?_
      refine QD.nil (hZ _ ?_)
      clear hZ Z
      repeat (first | refine Run.seq ?_ | refine Run.skip ?_ | refine Run.inBlock ?_ | refine Run.cond_f rfl ?_)
      refine Run.regionO (D := [some 18, some 2]) [true, true] rfl rfl rfl (fun Z hZ => ?_)
      refine QD.ev T (by decide) rfl rfl ?_
      refine QD.ev T (by decide) rfl rfl ?_
      refine QD.nil (hZ _ ?_)
      clear hZ Z
      skip
      refine Run.fin (Run.ret1 (by rw [hCf]; exact func227) results227 rfl (hR _ _ _ ?_))
      exact ⟨rfl, by rw [foldR, if_neg (fun h => h2 h.2), if_neg h3, if_neg h4]⟩
  · skip
    refine Run.regionO (D := [some 4, some 5, some 6, some 7, some 8, some 9, some 3]) [true, true, true, true, true, true, true] rfl rfl rfl (fun Z hZ => ?_)
    refine QD.ev T (by decide) rfl rfl ?_
    refine QD.e ((Ev.geq rfl rfl).as (show _ = Value.bool false from congrArg Value.bool (decide_eq_false (by omega)))) (by decide) rfl ?_
    refine QD.ev T (by decide) rfl rfl ?_
    first | refine QD.ev T (by decide) rfl rfl ?_ | refine QD.off (by decide) rfl ?_
    first | refine QD.e (Ev.leq rfl rfl) (by decide) rfl ?_ | refine QD.off (by decide) rfl ?_
    refine QD.ev T (by decide) rfl rfl ?_
    refine QD.ev T (by decide) rfl rfl ?_
    refine QD.nil (hZ _ ?_)
    clear hZ Z
    repeat (first | refine Run.seq ?_ | refine Run.cond_f rfl ?_)
    refine Run.regionO (D := [some 13, some 14, some 12]) [true, true, true] rfl rfl rfl (fun Z hZ => ?_)
    refine QD.ev T (by decide) rfl rfl ?_
    refine QD.e ((Ev.eqlI rfl rfl).as (show _ = Value.bool false from congrArg Value.bool (decide_eq_false (by omega)))) (by decide) rfl ?_
    refine QD.ev T (by decide) rfl rfl ?_
    refine QD.nil (hZ _ ?_)
    clear hZ Z
    repeat (first | refine Run.seq ?_ | refine Run.cond_f rfl ?_)
    refine Run.regionO (D := [some 16, some 17, some 15]) [true, true, true] rfl rfl rfl (fun Z hZ => ?_)
    refine QD.ev T (by decide) rfl rfl ?_
    refine QD.e ((Ev.eqlI rfl rfl).as (show _ = Value.bool false from congrArg Value.bool (decide_eq_false (by omega)))) (by decide) rfl ?_
    refine QD.ev T (by decide) rfl rfl ?_
    refine QD.nil (hZ _ ?_)
    clear hZ Z
    repeat (first | refine Run.seq ?_ | refine Run.skip ?_ | refine Run.inBlock ?_ | refine Run.cond_f rfl ?_)
    refine Run.regionO (D := [some 18, some 2]) [true, true] rfl rfl rfl (fun Z hZ => ?_)
    refine QD.ev T (by decide) rfl rfl ?_
    refine QD.ev T (by decide) rfl rfl ?_
    refine QD.nil (hZ _ ?_)
    clear hZ Z
    skip
    refine Run.fin (Run.ret1 (by rw [hCf]; exact func227) results227 rfl (hR _ _ _ ?_))
    exact ⟨rfl, by rw [foldR, if_neg (fun h => h1 h.1), if_neg (by omega), if_neg (by omega)]⟩
def alikeR : Nat → Bs → Bs → Bool
  | 0, _, _ => false
  | n + 1, a, b => if a = [] ∨ b = [] then decide (a = []) && decide (b = []) else if foldR (runeAt a 0).1 = foldR (runeAt b 0).1 then alikeR n (a.drop (runeAt a 0).2) (b.drop (runeAt b 0).2) else false
theorem alikeR_fuel : ∀ (n m : Nat) (a b : Bs), a.length < n → a.length < m → alikeR n a b = alikeR m a b
  | 0, m, a, b, h, _ => by omega
  | n + 1, 0, a, b, _, h => by omega
  | n + 1, m + 1, a, b, h1, h2 => by
    simp only [alikeR]
    split
    · rfl
    · rename_i h
      have hw := runeAt_width a 0
      have : 0 < a.length := List.length_pos_iff.2 fun e => h (.inl e)
      split
      · exact alikeR_fuel n m _ _ (by rw [List.length_drop]; omega) (by rw [List.length_drop]; omega)
      · rfl
def alikeF (a b : Bs) : Bool := alikeR (a.length + 1) a b
set_option maxHeartbeats 1000000 in
theorem zz_alike (I : Imm) (hU : UT I) (a b : Bs) (ha : a.length ≤ 137438953472) (hb : b.length ≤ 137438953472) : Pure prog 198 [str a, str b] I fun w J => w = .bool (alikeF a b) := by
  refine Spec.enter 44 [(0, _), (1, _)] func198 rfl ntmps198 (by simp) rfl ?_
  intro C hCf hR hCI
  repeat (first | refine Run.seq ?_)
  refine Run.regionO (D := [some 4]) [true] rfl rfl rfl (fun Z hZ => ?_)
  refine QD.ev T (by decide) rfl rfl ?_
  refine QD.nil (hZ _ ?_)
  clear hZ Z
  repeat (first | refine Run.seq ?_ | refine Run.block ?_)
  refine Run.keep [0, 1] [_, _] rfl ?_
  refine Run.rounds (fun m env L J => ∃ x y : Bs, m = x.length ∧ x.length ≤ a.length ∧ y.length ≤ b.length ∧ alikeF x y = alikeF a b ∧ env = [(0, str x), (1, str y)] ∧ L = [] ∧ Le I J) a.length ⟨a, b, rfl, Nat.le_refl _, Nat.le_refl _, rfl, rfl, rfl, Le.refl _⟩ ?_
  rintro m env L J ⟨x, y, rfl, hx, hy, he, rfl, rfl, hle⟩ ih
  cases x with
  | nil =>
    repeat (first | refine Run.seq ?_)
    refine Run.regionO (D := [some 9, some 10, some 11, some 12, some 13, some 14, some 15, some 16]) [true, true, true, true, true, true, true, true] rfl rfl rfl (fun Z hZ => ?_)
    refine QD.ev T (by decide) rfl rfl ?_
    refine QD.e (Ev.lenS T rfl rfl) (by decide) rfl ?_
    refine QD.e (Ev.gtr rfl rfl) (by decide) rfl ?_
    refine QD.ev T (by decide) rfl rfl ?_
    first | refine QD.ev T (by decide) rfl rfl ?_ | refine QD.off (by decide) rfl ?_
    first | refine QD.e (Ev.lenS T rfl rfl) (by decide) rfl ?_ | refine QD.off (by decide) rfl ?_
    first | refine QD.e (Ev.gtr rfl rfl) (by decide) rfl ?_ | refine QD.off (by decide) rfl ?_
    refine QD.ev T (by decide) rfl rfl ?_
    refine QD.nil (hZ _ ?_)
    clear hZ Z
    repeat (first | refine Run.seq ?_ | refine Run.exit rfl ?_ | refine Run.cond_f rfl ?_)
    cases y with
    | nil =>
      refine Run.regionO (D := [some 38, some 39, some 40, some 41, some 42, some 43, some 4]) [true, true, true, true, true, true, true] rfl rfl rfl (fun Z hZ => ?_)
      refine QD.ev T (by decide) rfl rfl ?_
      refine QD.e (Ev.eqlS rfl rfl) (by decide) rfl ?_
      refine QD.ev T (by decide) rfl rfl ?_
      first | refine QD.ev T (by decide) rfl rfl ?_ | refine QD.off (by decide) rfl ?_
      first | refine QD.e (Ev.eqlS rfl rfl) (by decide) rfl ?_ | refine QD.off (by decide) rfl ?_
      refine QD.ev T (by decide) rfl rfl ?_
      refine QD.ev T (by decide) rfl rfl ?_
      refine QD.nil (hZ _ ?_)
      clear hZ Z
      skip
      refine Run.fin (Run.ret1 (by rw [hCf]; exact func198) results198 rfl (hR _ _ _ ?_))
      exact ⟨rfl, by rw [← he]; rfl⟩
    | cons f y =>
      refine Run.regionO (D := [some 38, some 39, some 40, some 41, some 42, some 43, some 4]) [true, true, true, true, true, true, true] rfl rfl rfl (fun Z hZ => ?_)
      refine QD.ev T (by decide) rfl rfl ?_
      refine QD.e (Ev.eqlS rfl rfl) (by decide) rfl ?_
      refine QD.ev T (by decide) rfl rfl ?_
      first | refine QD.ev T (by decide) rfl rfl ?_ | refine QD.off (by decide) rfl ?_
      first | refine QD.e (Ev.eqlS rfl rfl) (by decide) rfl ?_ | refine QD.off (by decide) rfl ?_
      refine QD.ev T (by decide) rfl rfl ?_
      refine QD.ev T (by decide) rfl rfl ?_
      refine QD.nil (hZ _ ?_)
      clear hZ Z
      skip
      refine Run.fin (Run.ret1 (by rw [hCf]; exact func198) results198 rfl (hR _ _ _ ?_))
      exact ⟨rfl, by rw [← he]; rfl⟩
  | cons e x =>
    cases y with
    | nil =>
      repeat (first | refine Run.seq ?_)
      refine Run.regionO (D := [some 9, some 10, some 11, some 12, some 13, some 14, some 15, some 16]) [true, true, true, true, true, true, true, true] rfl rfl rfl (fun Z hZ => ?_)
      refine QD.ev T (by decide) rfl rfl ?_
      refine QD.e (Ev.lenS T rfl rfl) (by decide) rfl ?_
      refine QD.e ((Ev.gtr rfl rfl).as (show _ = Value.bool true from congrArg Value.bool (decide_eq_true (by simp only [List.length_cons]; omega)))) (by decide) rfl ?_
      refine QD.ev T (by decide) rfl rfl ?_
      first | refine QD.ev T (by decide) rfl rfl ?_ | refine QD.off (by decide) rfl ?_
      first | refine QD.e (Ev.lenS T rfl rfl) (by decide) rfl ?_ | refine QD.off (by decide) rfl ?_
      first | refine QD.e (Ev.gtr rfl rfl) (by decide) rfl ?_ | refine QD.off (by decide) rfl ?_
      refine QD.ev T (by decide) rfl rfl ?_
      refine QD.nil (hZ _ ?_)
      clear hZ Z
      repeat (first | refine Run.seq ?_ | refine Run.exit rfl ?_ | refine Run.cond_f rfl ?_)
      refine Run.regionO (D := [some 38, some 39, some 40, some 41, some 42, some 43, some 4]) [true, true, true, true, true, true, true] rfl rfl rfl (fun Z hZ => ?_)
      refine QD.ev T (by decide) rfl rfl ?_
      refine QD.e (Ev.eqlS rfl rfl) (by decide) rfl ?_
      refine QD.ev T (by decide) rfl rfl ?_
      first | refine QD.ev T (by decide) rfl rfl ?_ | refine QD.off (by decide) rfl ?_
      first | refine QD.e (Ev.eqlS rfl rfl) (by decide) rfl ?_ | refine QD.off (by decide) rfl ?_
      refine QD.ev T (by decide) rfl rfl ?_
      refine QD.ev T (by decide) rfl rfl ?_
      refine QD.nil (hZ _ ?_)
      clear hZ Z
      skip
      refine Run.fin (Run.ret1 (by rw [hCf]; exact func198) results198 rfl (hR _ _ _ ?_))
      exact ⟨rfl, by rw [← he]; rfl⟩
    | cons f y =>
      have hwx := runeAt_width (e :: x) 0
      have hwy := runeAt_width (f :: y) 0
      obtain ⟨lx, mx⟩ := runeAt_le (s := e :: x) (by simp)
      obtain ⟨ly, my⟩ := runeAt_le (s := f :: y) (by simp)
      have hd1 := utf8_DecodeStr J (hU.mono hle) (e :: x) (by simp)
      have hd2 := utf8_DecodeStr J (hU.mono hle) (f :: y) (by simp)
      have hE : alikeF (e :: x) (f :: y) = if foldR (runeAt (e :: x) 0).1 = foldR (runeAt (f :: y) 0).1 then alikeF ((e :: x).drop (runeAt (e :: x) 0).2) ((f :: y).drop (runeAt (f :: y) 0).2) else false := by
        unfold alikeF
        rw [alikeR, if_neg (by simp)]
        split
        · exact alikeR_fuel _ _ _ _ (by rw [List.length_drop]; simp only [List.length_cons] at lx ⊢; omega) (by omega)
        · rfl
      generalize runeAt (e :: x) 0 = rx at *
      generalize runeAt (f :: y) 0 = ry at *
      obtain ⟨r1, n1⟩ := rx
      obtain ⟨r2, n2⟩ := ry
      simp only at hwx hwy lx ly mx my hd1 hd2 hE
      repeat (first | refine Run.seq ?_)
      refine Run.regionO (D := [some 9, some 10, some 11, some 12, some 13, some 14, some 15, some 16]) [true, true, true, true, true, true, true, true] rfl rfl rfl (fun Z hZ => ?_)
      refine QD.ev T (by decide) rfl rfl ?_
      refine QD.e (Ev.lenS T rfl rfl) (by decide) rfl ?_
      refine QD.e ((Ev.gtr rfl rfl).as (show _ = Value.bool true from congrArg Value.bool (decide_eq_true (by simp only [List.length_cons]; omega)))) (by decide) rfl ?_
      refine QD.ev T (by decide) rfl rfl ?_
      first | refine QD.ev T (by decide) rfl rfl ?_ | refine QD.off (by decide) rfl ?_
      first | refine QD.e (Ev.lenS T rfl rfl) (by decide) rfl ?_ | refine QD.off (by decide) rfl ?_
      refine QD.e ((Ev.gtr rfl rfl).as (show _ = Value.bool true from congrArg Value.bool (decide_eq_true (by simp only [List.length_cons]; omega)))) (by decide) rfl ?_
      refine QD.ev T (by decide) rfl rfl ?_
      refine QD.nil (hZ _ ?_)
      clear hZ Z
      repeat (first | refine Run.seq ?_ | refine Run.skip ?_ | refine Run.block ?_ | refine Run.cond_t rfl ?_)
      refine Run.regionO (D := [some 18, some 19, some 17, some 20, some 21, some 5, some 6]) [true, true, true, true, true, true, true] rfl rfl rfl (fun Z hZ => ?_)
      refine QD.ev T (by decide) rfl rfl ?_
      refine QD.call (hd1.mono fun _ _ _ h => h.1) (by decide) rfl call214 rfl ?_
      refine QD.ev T (by decide) rfl rfl ?_
      refine QD.ev T (by decide) rfl rfl ?_
      refine QD.ev T (by decide) rfl rfl ?_
      refine QD.ev T (by decide) rfl rfl ?_
      refine QD.ev T (by decide) rfl rfl ?_
      refine QD.nil (hZ _ ?_)
      clear hZ Z
      repeat (first | refine Run.seq ?_)
      refine Run.regionO (D := [some 23, some 24, some 22, some 25, some 26, some 7, some 8]) [true, true, true, true, true, true, true] rfl rfl rfl (fun Z hZ => ?_)
      refine QD.ev T (by decide) rfl rfl ?_
      refine QD.call (hd2.mono fun _ _ _ h => h.1) (by decide) rfl call214 rfl ?_
      refine QD.ev T (by decide) rfl rfl ?_
      refine QD.ev T (by decide) rfl rfl ?_
      refine QD.ev T (by decide) rfl rfl ?_
      refine QD.ev T (by decide) rfl rfl ?_
      refine QD.ev T (by decide) rfl rfl ?_
      refine QD.nil (hZ _ ?_)
      clear hZ Z
      repeat (first | refine Run.seq ?_)
      by_cases hf : foldR r1 = foldR r2
      · rw [if_pos hf] at hE
        refine Run.regionO (D := [some 27, some 28, some 29, some 30, some 31]) [true, true, true, true, true] rfl rfl rfl (fun Z hZ => ?_)
        refine QD.ev T (by decide) rfl rfl ?_
        refine QD.call (zz_fold J r1 (by omega)) (by decide) rfl call227 rfl ?_
        refine QD.ev T (by decide) rfl rfl ?_
        refine QD.call (zz_fold J r2 (by omega)) (by decide) rfl call227 rfl ?_
        refine QD.e ((Ev.neqI rfl rfl).as (show _ = Value.bool false from congrArg Value.bool (by rw [decide_eq_true (by omega)]; rfl))) (by decide) rfl ?_
        refine QD.nil (hZ _ ?_)
        clear hZ Z
        repeat (first | refine Run.skip ?_ | refine Run.cond_f rfl ?_)
        refine Run.regionQ (D := [some 32, some 33, some 34, some 35, some 36, some 37, some 0, some 1]) [true, true, true, true, true, true, true, true] (bl 8 255) (by kernel_rfl) (by kernel_rfl) (by kernel_rfl) (by kernel_rfl) rfl (fun Z hZ => ?_)
        refine QD.ev T (by decide) rfl rfl ?_
        refine QD.ev T (by decide) rfl rfl ?_
        refine QD.e ((Ev.cutSLo (j := (n1 : Int)) T rfl rfl rfl (by omega) (by omega)).as (show _ = str ((e :: x).drop n1) from rfl)) (by decide) rfl ?_
        refine QD.ev T (by decide) rfl rfl ?_
        refine QD.ev T (by decide) rfl rfl ?_
        refine QD.e ((Ev.cutSLo (j := (n2 : Int)) T rfl rfl rfl (by omega) (by omega)).as (show _ = str ((f :: y).drop n2) from rfl)) (by decide) rfl ?_
        refine QD.ev T (by decide) rfl rfl ?_
        refine QD.ev T (by decide) rfl rfl ?_
        refine QD.nil (hZ _ ?_)
        clear hZ Z
        repeat (first | refine Run.inBlock ?_)
        refine Run.keep [0, 1] [_, _] rfl ?_
        exact ih ((e :: x).drop n1).length _ _ _ (by rw [List.length_drop]; simp only [List.length_cons] at lx ⊢; omega) ⟨_, _, rfl, by rw [List.length_drop]; omega, by rw [List.length_drop]; omega, by rw [← hE, he], rfl, rfl, hle⟩
      · rw [if_neg hf] at hE
        refine Run.regionO (D := [some 27, some 28, some 29, some 30, some 31]) [true, true, true, true, true] rfl rfl rfl (fun Z hZ => ?_)
        refine QD.ev T (by decide) rfl rfl ?_
        refine QD.call (zz_fold J r1 (by omega)) (by decide) rfl call227 rfl ?_
        refine QD.ev T (by decide) rfl rfl ?_
        refine QD.call (zz_fold J r2 (by omega)) (by decide) rfl call227 rfl ?_
        refine QD.e ((Ev.neqI rfl rfl).as (show _ = Value.bool true from congrArg Value.bool (by rw [decide_eq_false (by omega)]; rfl))) (by decide) rfl ?_
        refine QD.nil (hZ _ ?_)
        clear hZ Z
        repeat (first | refine Run.seq ?_ | refine Run.cond_t rfl ?_)
        refine Run.regionO (D := [some 4]) [true] rfl rfl rfl (fun Z hZ => ?_)
        refine QD.ev T (by decide) rfl rfl ?_
        refine QD.nil (hZ _ ?_)
        clear hZ Z
        skip
        refine Run.fin (Run.ret1 (by rw [hCf]; exact func198) results198 rfl (hR _ _ _ ?_))
        exact ⟨rfl, by rw [← he, hE]⟩
def ixOf (p : Bs → Bool) : List Bs → Nat → Option Nat
  | [], _ => none
  | s :: l, i => if p s then some i else ixOf p l (i + 1)
def fieldR (key : Bs) (names : List Bs) : Int := match ixOf (fun s => decide (s = key)) names 0 with
  | some i => (i : Int)
  | none => match ixOf (fun s => alikeF s key) names 0 with
    | some i => (i : Int)
    | none => -1
theorem drop_ix {α : Type} {l : List α} {i : Nat} {x : α} (h : l[i]? = some x) : l.drop i = x :: l.drop (i + 1) := by
  obtain ⟨hi, rfl⟩ := List.getElem?_eq_some_iff.1 h
  rw [List.drop_eq_getElem_cons hi]
set_option maxHeartbeats 1000000 in
theorem zz_Field (I : Imm) (hU : UT I) (key : Bs) (names : List Bs) (v : Value) (hS : Sl tStr I v names) (hk : key.length ≤ 137438953472) (hn : ∀ s ∈ names, s.length ≤ 137438953472) (hl : names.length ≤ 1000000) :
    Pure prog 175 [str key, v] I fun w J => w = .int .i64 (fieldR key names) := by
  obtain ⟨A, c, rfl⟩ := hS.isSl
  refine Spec.enter 33 [(0, _), (1, _)] func175 rfl ntmps175 (by simp) rfl ?_
  intro C hCf hR hCI
  repeat (first | refine Run.seq ?_)
  refine Run.regionO (D := [some 4]) [true] rfl rfl rfl (fun Z hZ => ?_)
  refine QD.ev T (by decide) rfl rfl ?_
  refine QD.nil (hZ _ ?_)
  clear hZ Z
  repeat (first | refine Run.seq ?_)
  refine Run.regionO (D := [some 9, some 10, some 11]) [true, true, true] rfl rfl rfl (fun Z hZ => ?_)
  refine QD.ev T (by decide) rfl rfl ?_
  refine QD.ev T (by decide) rfl rfl ?_
  refine QD.ev T (by decide) rfl rfl ?_
  refine QD.nil (hZ _ ?_)
  clear hZ Z
  refine Run.keep [0, 1, 9, 10, 11] [_, _, _, _, _] rfl ?_
  repeat (refine Run.seq ?_)
  refine Run.piece (fun env L J => env = [(0, str key), (1, .slice A names.length c)] ∧ L = [] ∧ Le I J ∧ ixOf (fun s => decide (s = key)) names 0 = none) (fun k' hk' => ?_) ?_
  · refine Run.block ?_
    refine Run.rounds (fun m env L J => ∃ i : Nat, m = names.length - i ∧ i ≤ names.length ∧ ixOf (fun s => decide (s = key)) (names.drop i) i = ixOf (fun s => decide (s = key)) names 0 ∧
      env = [(0, str key), (1, .slice A names.length c), (9, .slice A names.length c), (10, .int .i64 (names.length : Int)), (11, .int .i64 (i : Int))] ∧ L = [] ∧ Le I J) names.length ⟨0, by omega, by omega, rfl, rfl, rfl, Le.refl _⟩ ?_
    rintro m env L J ⟨i, rfl, hi, hix, rfl, rfl, hle⟩ ih
    by_cases hlt : i < names.length
    · skip
      repeat (first | refine Run.seq ?_)
      refine Run.regionO (D := [some 12]) [true] rfl rfl rfl (fun Z hZ => ?_)
      refine QD.e ((Ev.lss rfl rfl).as (show _ = Value.bool true from congrArg Value.bool (decide_eq_true (by omega)))) (by decide) rfl ?_
      refine QD.nil (hZ _ ?_)
      clear hZ Z
      repeat (first | refine Run.seq ?_ | refine Run.skip ?_ | refine Run.block ?_ | refine Run.cond_t rfl ?_)
      refine Run.region ?_
      refine Ops.pure T rfl (by decide) rfl ?_
      have hSJ := hS.mono hle
      refine Ops.indexSl hSJ rfl (by decide) rfl rfl (T.undOk rfl) (T.sizeOk rfl) (by first | omega | (simp only [List.length_cons, List.length_nil] ; omega) | (simp; omega)) (by first | omega | (simp only [List.length_cons, List.length_nil] ; omega) | (simp; omega)) ?_
      rintro b_ off_ nm cs_ hnm hr_ hA_
      obtain rfl : cs_ = [_] := hr_
      refine Ops.loadI rfl (by decide) rfl hA_ (T.aggOk rfl) ?_
      refine Ops.pure T rfl (by decide) rfl ?_
      refine Ops.pure T rfl (by decide) rfl ?_
      refine Ops.nil ?_
      rw [show ((i : Int)).toNat = i by omega] at hnm
      rw [drop_ix hnm, ixOf] at hix
      repeat (first | refine Run.seq ?_)
      by_cases he : nm = key
      · rw [if_pos (by simp [he])] at hix
        refine Run.regionO (D := [some 16, some 17, some 18]) [true, true, true] rfl rfl rfl (fun Z hZ => ?_)
        refine QD.ev T (by decide) rfl rfl ?_
        refine QD.ev T (by decide) rfl rfl ?_
        refine QD.e ((Ev.eqlS rfl rfl).as (show _ = Value.bool true from congrArg Value.bool (decide_eq_true he))) (by decide) rfl ?_
        refine QD.nil (hZ _ ?_)
        clear hZ Z
        repeat (first | refine Run.seq ?_ | refine Run.cond_t rfl ?_)
        refine Run.regionO (D := [some 19, some 4]) [true, true] rfl rfl rfl (fun Z hZ => ?_)
        refine QD.ev T (by decide) rfl rfl ?_
        refine QD.ev T (by decide) rfl rfl ?_
        refine QD.nil (hZ _ ?_)
        clear hZ Z
        skip
        refine Run.fin (Run.ret1 (by rw [hCf]; exact func175) results175 rfl (hR _ _ _ ?_))
        exact ⟨rfl, by rw [fieldR, ← hix]⟩
      · rw [if_neg (by simp [he])] at hix
        refine Run.regionO (D := [some 16, some 17, some 18]) [true, true, true] rfl rfl rfl (fun Z hZ => ?_)
        refine QD.ev T (by decide) rfl rfl ?_
        refine QD.ev T (by decide) rfl rfl ?_
        refine QD.e ((Ev.eqlS rfl rfl).as (show _ = Value.bool false from congrArg Value.bool (decide_eq_false he))) (by decide) rfl ?_
        refine QD.nil (hZ _ ?_)
        clear hZ Z
        repeat (first | refine Run.skip ?_ | refine Run.inBlock ?_ | refine Run.cond_f rfl ?_)
        refine Run.regionO (D := [some 20, some 11]) [true, true] rfl rfl rfl (fun Z hZ => ?_)
        refine QD.e (Ev.addK (r := ((i + 1 : Nat) : Int)) rfl rfl (by rw [wI (by omega) (by omega)]; omega)) (by decide) rfl ?_
        refine QD.ev T (by decide) rfl rfl ?_
        refine QD.nil (hZ _ ?_)
        clear hZ Z
        skip
        refine Run.keep [0, 1, 9, 10, 11] [_, _, _, _, _] rfl ?_
        exact ih (names.length - (i + 1)) _ _ _ (by omega) ⟨i + 1, rfl, by omega, hix, rfl, rfl, hle⟩
    · have : i = names.length := by omega
      subst this
      rw [List.drop_length] at hix
      repeat (first | refine Run.seq ?_)
      refine Run.regionO (D := [some 12]) [true] rfl rfl rfl (fun Z hZ => ?_)
      refine QD.e ((Ev.lss rfl rfl).as (show _ = Value.bool false from congrArg Value.bool (decide_eq_false (by omega)))) (by decide) rfl ?_
      refine QD.nil (hZ _ ?_)
      clear hZ Z
      repeat (first | refine Run.seq ?_ | refine Run.exit rfl ?_ | refine Run.cond_f rfl ?_)
      refine Run.keep [0, 1] [_, _] rfl ?_
      exact hk' _ _ _ ⟨rfl, rfl, hle, hix.symm⟩
  rintro env L J0 ⟨rfl, rfl, hle0, hno⟩
  repeat (first | refine Run.seq ?_)
  refine Run.regionO (D := [some 21, some 22, some 23]) [true, true, true] rfl rfl rfl (fun Z hZ => ?_)
  refine QD.ev T (by decide) rfl rfl ?_
  refine QD.ev T (by decide) rfl rfl ?_
  refine QD.ev T (by decide) rfl rfl ?_
  refine QD.nil (hZ _ ?_)
  clear hZ Z
  repeat (first | refine Run.block ?_)
  refine Run.keep [0, 1, 21, 22, 23] [_, _, _, _, _] rfl ?_
  refine Run.rounds (fun m env L J => ∃ i : Nat, m = names.length - i ∧ i ≤ names.length ∧ ixOf (fun s => alikeF s key) (names.drop i) i = ixOf (fun s => alikeF s key) names 0 ∧
      env = [(0, str key), (1, .slice A names.length c), (21, .slice A names.length c), (22, .int .i64 (names.length : Int)), (23, .int .i64 (i : Int))] ∧ L = [] ∧ Le I J) names.length ⟨0, by omega, by omega, rfl, rfl, rfl, hle0⟩ ?_
  rintro m env L J ⟨i, rfl, hi, hix, rfl, rfl, hle⟩ ih
  by_cases hlt : i < names.length
  · skip
    repeat (first | refine Run.seq ?_)
    refine Run.regionO (D := [some 24]) [true] rfl rfl rfl (fun Z hZ => ?_)
    refine QD.e ((Ev.lss rfl rfl).as (show _ = Value.bool true from congrArg Value.bool (decide_eq_true (by omega)))) (by decide) rfl ?_
    refine QD.nil (hZ _ ?_)
    clear hZ Z
    repeat (first | refine Run.seq ?_ | refine Run.skip ?_ | refine Run.block ?_ | refine Run.cond_t rfl ?_)
    refine Run.region ?_
    refine Ops.pure T rfl (by decide) rfl ?_
    have hSJ := hS.mono hle
    refine Ops.indexSl hSJ rfl (by decide) rfl rfl (T.undOk rfl) (T.sizeOk rfl) (by first | omega | (simp only [List.length_cons, List.length_nil] ; omega) | (simp; omega)) (by first | omega | (simp only [List.length_cons, List.length_nil] ; omega) | (simp; omega)) ?_
    rintro b_ off_ nm cs_ hnm hr_ hA_
    obtain rfl : cs_ = [_] := hr_
    refine Ops.loadI rfl (by decide) rfl hA_ (T.aggOk rfl) ?_
    refine Ops.pure T rfl (by decide) rfl ?_
    refine Ops.pure T rfl (by decide) rfl ?_
    refine Ops.nil ?_
    rw [show ((i : Int)).toNat = i by omega] at hnm
    have hml := hn nm (List.mem_of_getElem? hnm)
    rw [drop_ix hnm, ixOf] at hix
    repeat (first | refine Run.seq ?_)
    refine Run.regionO (D := [some 28, some 29, some 30]) [true, true, true] rfl rfl rfl (fun Z hZ => ?_)
    refine QD.ev T (by decide) rfl rfl ?_
    refine QD.ev T (by decide) rfl rfl ?_
    refine QD.call (zz_alike J (hU.mono hle) nm key hml hk) (by decide) rfl call198 rfl ?_
    refine QD.nil (hZ _ ?_)
    clear hZ Z
    cases he : alikeF nm key with
    | true =>
      rw [he, if_pos rfl] at hix
      repeat (first | refine Run.seq ?_ | refine Run.cond_t rfl ?_)
      refine Run.regionO (D := [some 31, some 4]) [true, true] rfl rfl rfl (fun Z hZ => ?_)
      refine QD.ev T (by decide) rfl rfl ?_
      refine QD.ev T (by decide) rfl rfl ?_
      refine QD.nil (hZ _ ?_)
      clear hZ Z
      skip
      refine Run.fin (Run.ret1 (by rw [hCf]; exact func175) results175 rfl (hR _ _ _ ?_))
      exact ⟨rfl, by rw [fieldR, hno, ← hix]⟩
    | false =>
      rw [he, if_neg (by decide)] at hix
      repeat (first | refine Run.skip ?_ | refine Run.inBlock ?_ | refine Run.cond_f rfl ?_)
      refine Run.regionO (D := [some 32, some 23]) [true, true] rfl rfl rfl (fun Z hZ => ?_)
      refine QD.e (Ev.addK (r := ((i + 1 : Nat) : Int)) rfl rfl (by rw [wI (by omega) (by omega)]; omega)) (by decide) rfl ?_
      refine QD.ev T (by decide) rfl rfl ?_
      refine QD.nil (hZ _ ?_)
      clear hZ Z
      skip
      refine Run.keep [0, 1, 21, 22, 23] [_, _, _, _, _] rfl ?_
      exact ih (names.length - (i + 1)) _ _ _ (by omega) ⟨i + 1, rfl, by omega, hix, rfl, rfl, hle⟩
  · have : i = names.length := by omega
    subst this
    rw [List.drop_length] at hix
    repeat (first | refine Run.seq ?_)
    refine Run.regionO (D := [some 24]) [true] rfl rfl rfl (fun Z hZ => ?_)
    refine QD.e ((Ev.lss rfl rfl).as (show _ = Value.bool false from congrArg Value.bool (decide_eq_false (by omega)))) (by decide) rfl ?_
    refine QD.nil (hZ _ ?_)
    clear hZ Z
    repeat (first | refine Run.seq ?_ | refine Run.exit rfl ?_ | refine Run.cond_f rfl ?_)
    refine Run.regionO (D := [some 4]) [true] rfl rfl rfl (fun Z hZ => ?_)
    refine QD.ev T (by decide) rfl rfl ?_
    refine QD.nil (hZ _ ?_)
    clear hZ Z
    skip
    refine Run.fin (Run.ret1 (by rw [hCf]; exact func175) results175 rfl (hR _ _ _ ?_))
    exact ⟨rfl, by rw [fieldR, hno, ← hix]; rfl⟩
end Go.V
namespace Go.V
open Go.Proofs.Tryz
open Go.RowKit
set_option linter.unusedVariables false
set_option linter.unusedSimpArgs false
set_option maxRecDepth 10000
attribute [local irreducible] Run Ops QD
theorem Value_Str (f : Nat) (I : Imm) (cs : List Value) (v : JV) (hrel : (tJV (f + 1)).rel I cs v) (x off : Nat) (cells : List Value) (tt : TypeId) (ho : off + 1 ≤ cells.length) :
    Spec prog 176 [.agg cs.toArray, .pointer (some ⟨x, off, none⟩)] I [(x, blk cells tt)] fun w J M => J = I ∧ w = .bool (v.kind == 34 || v.kind == 110) ∧ M = [(x, blk (if v.kind = 34 then setAt cells off [str v.text] else cells) tt)] := by
  obtain ⟨wk, wn, rfl, hwk, hwn⟩ := hrel
  obtain ⟨A3, z3, rfl⟩ := hwk.isSl
  obtain ⟨A4, z4, rfl⟩ := hwn.isSl
  generalize v.kind = k
  refine Spec.enter 20 [(0, _), (1, _)] func176 rfl ntmps176 (by simp) rfl ?_
  intro C hCf hR hCI
  repeat (first | refine Run.seq ?_)
  refine Run.region ?_
  refine Ops.box rfl (by decide) rfl rfl (fun b3 => ?_)
  refine Ops.pure T rfl (by decide) rfl ?_
  refine Ops.nil ?_
  repeat (first | refine Run.seq ?_)
  have nn : ∀ (q : UInt8) (m : Int), (q.toNat : Int) = m → k ≠ q → decide ((k.toNat : Int) = m) = false := fun q m hm h => decide_eq_false fun e => h (UInt8.toNat_inj.1 (by omega))
  by_cases h1 : k = 34
  · subst h1
    refine Run.regionO (D := [some 5, some 6, some 7]) [true, true, true] rfl rfl rfl (fun Z hZ => ?_)
    refine QD.ev T (by decide) rfl rfl ?_
    first | refine QD.yv (by decide) rfl (Yv.load 0 T rfl rfl rfl rfl) ?_ | refine QD.yv (by decide) rfl (Yv.load 1 T rfl rfl rfl rfl) ?_ | refine QD.yv (by decide) rfl (Yv.load 2 T rfl rfl rfl rfl) ?_
    refine QD.e (Ev.eqlI rfl rfl) (by decide) rfl ?_
    refine QD.nil (hZ _ ?_)
    clear hZ Z
    repeat (first | refine Run.cond_t rfl ?_)
    refine Run.regionP (D := [some 8, some 9, some 10, some 11, none]) [true, true, true, true] 4 rfl rfl rfl (by simp only [List.drop_succ_cons, List.drop_zero]; rfl) (fun Z hZ => ?_)
    refine QD.ev T (by decide) rfl rfl ?_
    refine QD.ev T (by decide) rfl rfl ?_
    first | refine QD.yv (by decide) rfl (Yv.load 0 T rfl rfl rfl rfl) ?_ | refine QD.yv (by decide) rfl (Yv.load 1 T rfl rfl rfl rfl) ?_ | refine QD.yv (by decide) rfl (Yv.load 2 T rfl rfl rfl rfl) ?_
    refine QD.ev T (by decide) rfl rfl ?_
    refine QD.nil (hZ _ ?_)
    clear hZ Z
    refine Ops.store 1 rfl rfl rfl rfl rfl (T.sizeOk rfl) rfl ho rfl rfl ?_
    refine Ops.nil ?_
    repeat (first | refine Run.seq ?_)
    refine Run.regionO (D := [some 12, some 13, some 14, some 15, some 16, some 17, some 18, some 19, some 4]) [true, true, true, true, true, true, true, true, true] rfl rfl rfl (fun Z hZ => ?_)
    refine QD.ev T (by decide) rfl rfl ?_
    first | refine QD.yv (by decide) rfl (Yv.load 0 T rfl rfl rfl rfl) ?_ | refine QD.yv (by decide) rfl (Yv.load 1 T rfl rfl rfl rfl) ?_ | refine QD.yv (by decide) rfl (Yv.load 2 T rfl rfl rfl rfl) ?_
    refine QD.e (Ev.eqlI rfl rfl) (by decide) rfl ?_
    refine QD.ev T (by decide) rfl rfl ?_
    first | refine QD.ev T (by decide) rfl rfl ?_ | refine QD.off (by decide) rfl ?_
    first | refine QD.yv (by decide) rfl (Yv.load 0 T rfl rfl rfl rfl) ?_ | refine QD.yv (by decide) rfl (Yv.load 1 T rfl rfl rfl rfl) ?_ | refine QD.yv (by decide) rfl (Yv.load 2 T rfl rfl rfl rfl) ?_ | refine QD.off (by decide) rfl ?_
    first | refine QD.e (Ev.eqlI rfl rfl) (by decide) rfl ?_ | refine QD.off (by decide) rfl ?_
    refine QD.ev T (by decide) rfl rfl ?_
    refine QD.ev T (by decide) rfl rfl ?_
    refine QD.nil (hZ _ ?_)
    clear hZ Z
    skip
    refine Run.dropL (List.sublist_cons_self _ _) ?_
    refine Run.ret1 (by rw [hCf]; exact func176) results176 rfl (hR _ _ _ ?_)
    exact ⟨rfl, rfl, rfl⟩
  · skip
    refine Run.regionO (D := [some 5, some 6, some 7]) [true, true, true] rfl rfl rfl (fun Z hZ => ?_)
    refine QD.ev T (by decide) rfl rfl ?_
    first | refine QD.yv (by decide) rfl (Yv.load 0 T rfl rfl rfl rfl) ?_ | refine QD.yv (by decide) rfl (Yv.load 1 T rfl rfl rfl rfl) ?_ | refine QD.yv (by decide) rfl (Yv.load 2 T rfl rfl rfl rfl) ?_
    refine QD.e ((Ev.eqlI rfl rfl).as (show _ = Value.bool false from congrArg Value.bool (nn 34 34 rfl h1))) (by decide) rfl ?_
    refine QD.nil (hZ _ ?_)
    clear hZ Z
    repeat (first | refine Run.seq ?_ | refine Run.skip ?_ | refine Run.cond_f rfl ?_)
    have e1 : (k == 34) = false := by simp [h1]
    by_cases h2 : k = 110
    · subst h2
      refine Run.regionO (D := [some 12, some 13, some 14, some 15, some 16, some 17, some 18, some 19, some 4]) [true, true, true, true, true, true, true, true, true] rfl rfl rfl (fun Z hZ => ?_)
      refine QD.ev T (by decide) rfl rfl ?_
      first | refine QD.yv (by decide) rfl (Yv.load 0 T rfl rfl rfl rfl) ?_ | refine QD.yv (by decide) rfl (Yv.load 1 T rfl rfl rfl rfl) ?_ | refine QD.yv (by decide) rfl (Yv.load 2 T rfl rfl rfl rfl) ?_
      refine QD.e (Ev.eqlI rfl rfl) (by decide) rfl ?_
      refine QD.ev T (by decide) rfl rfl ?_
      first | refine QD.ev T (by decide) rfl rfl ?_ | refine QD.off (by decide) rfl ?_
      first | refine QD.yv (by decide) rfl (Yv.load 0 T rfl rfl rfl rfl) ?_ | refine QD.yv (by decide) rfl (Yv.load 1 T rfl rfl rfl rfl) ?_ | refine QD.yv (by decide) rfl (Yv.load 2 T rfl rfl rfl rfl) ?_ | refine QD.off (by decide) rfl ?_
      first | refine QD.e (Ev.eqlI rfl rfl) (by decide) rfl ?_ | refine QD.off (by decide) rfl ?_
      refine QD.ev T (by decide) rfl rfl ?_
      refine QD.ev T (by decide) rfl rfl ?_
      refine QD.nil (hZ _ ?_)
      clear hZ Z
      skip
      refine Run.dropL (List.sublist_cons_self _ _) ?_
      refine Run.ret1 (by rw [hCf]; exact func176) results176 rfl (hR _ _ _ ?_)
      exact ⟨rfl, rfl, rfl⟩
    · have e2 : (k == 110) = false := by simp [h2]
      refine Run.regionO (D := [some 12, some 13, some 14, some 15, some 16, some 17, some 18, some 19, some 4]) [true, true, true, true, true, true, true, true, true] rfl rfl rfl (fun Z hZ => ?_)
      refine QD.ev T (by decide) rfl rfl ?_
      first | refine QD.yv (by decide) rfl (Yv.load 0 T rfl rfl rfl rfl) ?_ | refine QD.yv (by decide) rfl (Yv.load 1 T rfl rfl rfl rfl) ?_ | refine QD.yv (by decide) rfl (Yv.load 2 T rfl rfl rfl rfl) ?_
      refine QD.e ((Ev.eqlI rfl rfl).as (show _ = Value.bool false from congrArg Value.bool (nn 34 34 rfl h1))) (by decide) rfl ?_
      refine QD.ev T (by decide) rfl rfl ?_
      first | refine QD.ev T (by decide) rfl rfl ?_ | refine QD.off (by decide) rfl ?_
      first | refine QD.yv (by decide) rfl (Yv.load 0 T rfl rfl rfl rfl) ?_ | refine QD.yv (by decide) rfl (Yv.load 1 T rfl rfl rfl rfl) ?_ | refine QD.yv (by decide) rfl (Yv.load 2 T rfl rfl rfl rfl) ?_ | refine QD.off (by decide) rfl ?_
      refine QD.e ((Ev.eqlI rfl rfl).as (show _ = Value.bool false from congrArg Value.bool (nn 110 110 rfl h2))) (by decide) rfl ?_
      refine QD.ev T (by decide) rfl rfl ?_
      refine QD.ev T (by decide) rfl rfl ?_
      refine QD.nil (hZ _ ?_)
      clear hZ Z
      skip
      refine Run.dropL (List.sublist_cons_self _ _) ?_
      refine Run.ret1 (by rw [hCf]; exact func176) results176 rfl (hR _ _ _ ?_)
      rw [e1, e2, if_neg h1]
      exact ⟨rfl, rfl, rfl⟩
set_option maxHeartbeats 1000000 in
theorem Value_Members (f : Nat) (I : Imm) (cs : List Value) (v : JV) (hrel : (tJV (f + 1)).rel I cs v) (hk : v.kind = 123) (hlen : v.keys.length = v.kids.length) (hmax : v.kids.length ≤ 1099511627776) (F : FuncId) (ws : List Value) (St : Nat → Imm → Own → Prop) (M0 : Own)
    (h0 : St 0 I M0) (hcall : ∀ args w, (callFunc F args).run prog w = .ok (.enter F args) w) (hmono : ∀ i J J' M, St i J M → Le J J' → St i J' M)
    (step : ∀ i key x J M kc, Le I J → v.keys[i]? = some key → v.kids[i]? = some x → (tJV f).rel J kc x → St i J M → Spec prog F ([str key, .agg kc.toArray] ++ ws) J M fun w J' M' => w = .bool true ∧ St (i + 1) J' M') :
    Spec prog 173 [.agg cs.toArray, .func (.func F) #[] ws.toArray] I M0 fun w J M => w = .bool true ∧ St v.kids.length J M := by
  obtain ⟨wk, wn, rfl, hwk, hwn⟩ := hrel
  obtain ⟨A3, z3, rfl⟩ := hwk.isSl
  obtain ⟨A4, z4, rfl⟩ := hwn.isSl
  rw [hk]
  refine Spec.enter 35 [(0, _), (1, _)] func173 rfl ntmps173 (by simp) rfl ?_
  intro C hCf hR hCI
  repeat (first | refine Run.seq ?_)
  refine Run.region ?_
  refine Ops.box rfl (by decide) rfl rfl (fun b2 => ?_)
  refine Ops.pure T rfl (by decide) rfl ?_
  refine Ops.nil ?_
  repeat (first | refine Run.seq ?_)
  refine Run.regionO (D := [some 8, some 9, some 10]) [true, true, true] rfl rfl rfl (fun Z hZ => ?_)
  refine QD.ev T (by decide) rfl rfl ?_
  first | refine QD.yv (by decide) rfl (Yv.load 0 T rfl rfl rfl rfl) ?_ | refine QD.yv (by decide) rfl (Yv.load 1 T rfl rfl rfl rfl) ?_ | refine QD.yv (by decide) rfl (Yv.load 2 T rfl rfl rfl rfl) ?_
  refine QD.e (Ev.neqI rfl rfl) (by decide) rfl ?_
  refine QD.nil (hZ _ ?_)
  clear hZ Z
  repeat (first | refine Run.seq ?_ | refine Run.skip ?_ | refine Run.cond_f rfl ?_)
  refine Run.regionO (D := [some 5]) [true] rfl rfl rfl (fun Z hZ => ?_)
  refine QD.ev T (by decide) rfl rfl ?_
  refine QD.nil (hZ _ ?_)
  clear hZ Z
  repeat (first | refine Run.seq ?_)
  refine Run.regionO (D := [some 14, some 15, some 16, some 17]) [true, true, true, true] rfl rfl rfl (fun Z hZ => ?_)
  refine QD.ev T (by decide) rfl rfl ?_
  first | refine QD.yv (by decide) rfl (Yv.load 0 T rfl rfl rfl rfl) ?_ | refine QD.yv (by decide) rfl (Yv.load 1 T rfl rfl rfl rfl) ?_ | refine QD.yv (by decide) rfl (Yv.load 2 T rfl rfl rfl rfl) ?_
  refine QD.ev T (by decide) rfl rfl ?_
  refine QD.ev T (by decide) rfl rfl ?_
  refine QD.nil (hZ _ ?_)
  clear hZ Z
  repeat (first | refine Run.block ?_)
  refine Run.keep [0, 1, 2, 5, 15, 16, 17] [_, _, _, _, _, _, _] rfl ?_
  refine Run.rounds (fun m env L J => ∃ (i : Nat) (M : Own), m = v.kids.length - i ∧ i ≤ v.kids.length ∧ St i J M ∧
    env = [(0, _), (1, .func (.func F) #[] ws.toArray), (2, .pointer (some ⟨b2, 0, none⟩)), (5, .bool true), (15, .slice A3 v.kids.length z3), (16, .int .i64 (v.kids.length : Int)), (17, .int .i64 (i : Int))] ∧
    L = (b2, blk [.int .u8 ((123 : UInt8).toNat : Int), .bool v.plain, str v.text, .slice A3 v.kids.length z3, .slice A4 v.keys.length z4] 230) :: M ∧ Le I J) v.kids.length ⟨0, M0, by omega, by omega, h0, rfl, rfl, Le.refl _⟩ ?_
  rintro m env L J ⟨i, M, rfl, hi, hSt, rfl, rfl, hle⟩ ih
  by_cases hlt : i < v.kids.length
  · skip
    repeat (first | refine Run.seq ?_)
    refine Run.regionO (D := [some 18]) [true] rfl rfl rfl (fun Z hZ => ?_)
    refine QD.e ((Ev.lss rfl rfl).as (show _ = Value.bool true from congrArg Value.bool (decide_eq_true (by omega)))) (by decide) rfl ?_
    refine QD.nil (hZ _ ?_)
    clear hZ Z
    repeat (first | refine Run.seq ?_ | refine Run.skip ?_ | refine Run.block ?_ | refine Run.cond_t rfl ?_)
    refine Run.region ?_
    refine Ops.pure T rfl (by decide) rfl ?_
    refine Ops.indexSl (hwk.mono hle) rfl (by decide) rfl rfl (T.undOk rfl) (fun w => by rw [tJV_size]; exact T.sizeOk rfl w) (by omega) (by omega) ?_
    rintro bx ox kx kc hkx hkr hkA
    rw [show ((i : Int)).toNat = i by omega] at hkx
    cases f with
    | zero => exact hkr.elim
    | succ f =>
      obtain ⟨xk, xn, rfl, hxk, hxn⟩ := id hkr
      obtain ⟨A5, z5, rfl⟩ := hxk.isSl
      obtain ⟨A6, z6, rfl⟩ := hxn.isSl
      refine Ops.loadIN rfl (by decide) rfl hkA (T.aggOk rfl) (T.sizeOk rfl) rfl ?_
      refine Ops.alloc rfl (by decide) (T.zeroOk rfl) rfl (fun b7 => ?_)
      refine Ops.pure T rfl (by decide) rfl ?_
      first | refine Ops.store 0 rfl rfl rfl rfl rfl (T.sizeOk rfl) rfl (Nat.le_of_ble_eq_true rfl) rfl rfl ?_ | refine Ops.store 1 rfl rfl rfl rfl rfl (T.sizeOk rfl) rfl (Nat.le_of_ble_eq_true rfl) rfl rfl ?_ | refine Ops.store 2 rfl rfl rfl rfl rfl (T.sizeOk rfl) rfl (Nat.le_of_ble_eq_true rfl) rfl rfl ?_
      refine Ops.nil ?_
      skip
      obtain ⟨key, hkey⟩ : ∃ key, v.keys[i]? = some key := ⟨v.keys[i], List.getElem?_eq_getElem (by omega)⟩
      have hst := step i key kx J M _ hle hkey hkx hkr hSt
      obtain ⟨_, _, e4, _, hrow⟩ := hwn
      cases e4
      rcases hrow with h0 | ⟨bk, ok, rfl, hrow⟩
      · rw [h0] at hkey; simp at hkey
      obtain ⟨kcs, hkr4, hkA4⟩ := hrow i key hkey
      obtain rfl : kcs = [str key] := hkr4
      have hA4 : At J bk (ok + ((i : Int)).toNat * 1) [str key] := by
        have := hkA4.mono hle
        rw [show ((i : Int)).toNat = i by omega]; exact this
      refine Run.regionT (D := [some 22, some 23, some 24, some 25, some 26, some 27, some 28, some 29, some 30, some 31, some 32, some 5]) (fun _ => True) [true, true, true, true, true, true, true] (bl 12 127) 5 (by kernel_rfl) (by kernel_rfl) (by kernel_rfl) rfl (fun Z hZ => ?_)
      refine QD.ev T (by decide) rfl rfl ?_
      refine QD.ev T (by decide) rfl rfl ?_
      first | refine QD.yv (by decide) rfl (Yv.load 0 T rfl rfl rfl rfl) ?_ | refine QD.yv (by decide) rfl (Yv.load 1 T rfl rfl rfl rfl) ?_ | refine QD.yv (by decide) rfl (Yv.load 2 T rfl rfl rfl rfl) ?_ | refine QD.yv (by decide) rfl (Yv.loadI T hA4 rfl rfl) ?_
      refine QD.ev T (by decide) rfl rfl ?_
      refine QD.e (Ev.indexS T rfl rfl rfl rfl (by first | omega | (simp only [List.length_cons, List.length_nil] ; omega) | (simp; omega)) (by first | omega | (simp only [List.length_cons, List.length_nil] ; omega) | (simp; omega))) (by decide) rfl ?_
      first | refine QD.yv (by decide) rfl (Yv.load 0 T rfl rfl rfl rfl) ?_ | refine QD.yv (by decide) rfl (Yv.load 1 T rfl rfl rfl rfl) ?_ | refine QD.yv (by decide) rfl (Yv.load 2 T rfl rfl rfl rfl) ?_ | refine QD.yv (by decide) rfl (Yv.loadI T hA4 rfl rfl) ?_
      first | refine QD.yv (by decide) rfl (Yv.loadN 0 T rfl rfl rfl rfl rfl rfl) ?_ | refine QD.yv (by decide) rfl (Yv.loadN 1 T rfl rfl rfl rfl rfl rfl) ?_ | refine QD.yv (by decide) rfl (Yv.loadN 2 T rfl rfl rfl rfl rfl rfl) ?_ | refine QD.yv (by decide) rfl (Yv.loadI T hA4 rfl rfl) ?_
      refine QD.nil (hZ _ ?_)
      clear hZ Z
      refine RAny.on 7 (bl 12 255) rfl (by kernel_rfl) rfl (by decide) (Eff.callW (M := M) (N := [(b7, _), (b2, _)]) (args := [str key, .agg _] ++ ws) (fun a W he => run_callV (fs := []) (vs := [str key, .agg _]) hcall he rfl rfl) (List.perm_append_comm (l₁ := [_, _]) (l₂ := M)) hst fun w J' M' l' hw => ⟨fun _ _ => trivial, ?_⟩)
      obtain ⟨rfl, hSt'⟩ := hw
      refine RAny.perm (List.perm_append_comm (l₁ := M') (l₂ := [_, _])) ?_
      refine RAny.tk 8 (bl 12 511) rfl (by kernel_rfl) (by decide) (fun _ _ => trivial) (Yld.eval T rfl rfl) ?_
      refine RAny.tk 9 (bl 12 1023) rfl (by kernel_rfl) (by decide) (fun _ _ => trivial) (Yld.eval T rfl rfl) ?_
      refine RAny.tk 10 (bl 12 2047) rfl (by kernel_rfl) (by decide) (fun _ _ => trivial) (Yld.eval T rfl rfl) ?_
      refine RAny.tk 11 (bl 12 4095) rfl (by kernel_rfl) (by decide) (fun _ _ => trivial) (Yld.eval T rfl rfl) ?_
      refine RAny.done _ (by kernel_rfl) ?_
      refine Run.dropL (List.sublist_cons_self _ _) ?_
      repeat (first | refine Run.inBlock ?_)
      refine Run.regionO (D := [some 33, some 17]) [true, true] rfl rfl rfl (fun Z hZ => ?_)
      refine QD.e (Ev.addK (r := ((i + 1 : Nat) : Int)) rfl rfl (by rw [wI (by omega) (by omega)]; omega)) (by decide) rfl ?_
      refine QD.ev T (by decide) rfl rfl ?_
      refine QD.nil (hZ _ ?_)
      clear hZ Z
      skip
      refine Run.keep [0, 1, 2, 5, 15, 16, 17] [_, _, _, _, _, _, _] rfl ?_
      exact ih (v.kids.length - (i + 1)) _ _ _ (by omega) ⟨i + 1, M', rfl, by omega, hSt', rfl, rfl, hle.trans l'⟩
  · have : i = v.kids.length := by omega
    subst this
    repeat (first | refine Run.seq ?_)
    refine Run.regionO (D := [some 18]) [true] rfl rfl rfl (fun Z hZ => ?_)
    refine QD.e ((Ev.lss rfl rfl).as (show _ = Value.bool false from congrArg Value.bool (decide_eq_false (by omega)))) (by decide) rfl ?_
    refine QD.nil (hZ _ ?_)
    clear hZ Z
    repeat (first | refine Run.seq ?_ | refine Run.exit rfl ?_ | refine Run.cond_f rfl ?_)
    refine Run.regionO (D := [some 34, some 4]) [true, true] rfl rfl rfl (fun Z hZ => ?_)
    refine QD.ev T (by decide) rfl rfl ?_
    refine QD.ev T (by decide) rfl rfl ?_
    refine QD.nil (hZ _ ?_)
    clear hZ Z
    skip
    refine Run.dropL (List.sublist_cons_self _ _) ?_
    refine Run.ret1 (by rw [hCf]; exact func173) results173 rfl (hR _ _ _ ?_)
    exact ⟨rfl, hSt⟩
end Go.V
namespace Go.V
set_option linter.unusedVariables false
set_option linter.unusedSimpArgs false
set_option maxRecDepth 10000
inductive Js where
  | mk (kind : UInt8) (text : List UInt8) (kids : List Js)
def Js.kind : Js → UInt8 | mk k _ _ => k
def Js.text : Js → List UInt8 | mk _ t _ => t
def Js.kids : Js → List Js | mk _ _ k => k
def tk (n : Nat) : Bs → Nat × Bs
  | [] => (0, [])
  | b :: t => (b.toNat % n, t)
def wrune (c n : Nat) : Bs :=
  if c = 47 ∧ n = 1 then [92, 47]
  else if n = 2 ∧ c < 65536 then [92, 117] ++ hexes c
  else if n = 2 then [92, 117] ++ hexes (55296 + (c - 65536) / 1024) ++ [92, 117] ++ hexes (56320 + (c - 65536) % 1024)
  else if c = 60 ∨ c = 62 ∨ c = 38 then encR (c : Int)
  else quo1 c
def wtext : List Nat → Bs → Bs × Bs
  | [], w => ([], w)
  | c :: rs, w => (wrune c (tk 8 w).1 ++ (wtext rs (tk 8 w).2).1, (wtext rs (tk 8 w).2).2)
def runesN : Nat → Bs → List Nat
  | 0, _ => []
  | n + 1, s => if s = [] then [] else (runeAt s 0).1 :: runesN n (s.drop (runeAt s 0).2)
def runesOf (s : Bs) : List Nat := runesN s.length s
theorem encs_ne (r : Nat) (rs : List Nat) : encs (r :: rs) ≠ [] := by
  intro e
  have := congrArg List.length e
  rw [encs_cons, List.length_append, List.length_nil] at this
  have := encR_pos r
  omega
theorem runesN_encs : ∀ (rs : List Nat) (n : Nat), (∀ r ∈ rs, goodR r) → (encs rs).length ≤ n → runesN n (encs rs) = rs := by
  intro rs
  induction rs with
  | nil => intro n _ _; cases n <;> rfl
  | cons r rs ih =>
    intro n h hn
    have hp := encR_pos r
    rw [encs_cons, List.length_append] at hn
    obtain ⟨m, rfl⟩ : ∃ m, n = m + 1 := ⟨n - 1, by omega⟩
    rw [runesN, if_neg (encs_ne r rs), encs_cons, runeAt_enc (h r (by simp)), List.drop_left, ih m (fun x hx => h x (by simp [hx])) (by omega)]
theorem runesOf_encs {rs : List Nat} (h : ∀ r ∈ rs, goodR r) : runesOf (encs rs) = rs := runesN_encs rs _ h (Nat.le_refl _)
def wquo (s w : Bs) : Bs × Bs := ([34] ++ (wtext (runesOf s) w).1 ++ [34], (wtext (runesOf s) w).2)
theorem wrune_piece {c : Nat} (g : goodR c) (n : Nat) : Piece (wrune c n) c := by
  unfold wrune
  split
  · rename_i h
    obtain ⟨rfl, _⟩ := h
    exact Piece.named (d := 47) (x := 47) (fun t => by simp [escR]) (by decide)
  split
  · rename_i h; exact Piece.u g h.2
  split
  · rename_i h1 h2
    exact Piece.pair g (fun h3 => h1 ⟨h2, h3⟩)
  split
  · rename_i h; exact Piece.raw g (by omega) (by omega) (by omega)
  · exact quo1_piece g
theorem wtext_pieces : ∀ {rs : List Nat} (w : Bs), (∀ r ∈ rs, goodR r) → ∃ ps, Pieces ps rs ∧ (wtext rs w).1 = ps.flatten
  | [], w, _ => ⟨[], .nil, rfl⟩
  | r :: rs, w, h => by
    obtain ⟨ps, h1, h2⟩ := wtext_pieces (rs := rs) (tk 8 w).2 fun x hx => h x (by simp [hx])
    exact ⟨_ :: ps, .cons (wrune_piece (h r (by simp)) (tk 8 w).1) h1, by simp [wtext, h2]⟩
def GoodT (s : Bs) : Prop := ∃ rs, Runes s rs
theorem wquo_read {s : Bs} (hs : GoodT s) (w t : Bs) : ∃ q, (wquo s w).1 = 34 :: q ++ [34] ∧ strR (q ++ 34 :: t) = some (s, t) := by
  obtain ⟨rs, rfl, hg⟩ := hs
  unfold wquo
  rw [runesOf_encs hg]
  obtain ⟨ps, h1, h2⟩ := wtext_pieces w hg
  refine ⟨ps.flatten, by rw [h2]; simp, ?_⟩
  rw [strR_TR, h1.read]; simp
theorem skip_bl {b : Bs} (hb : ∀ c ∈ b, isBl c = true) (s : Bs) : skipB (b ++ s) = skipB s := by
  induction b with
  | nil => rfl
  | cons c b ih =>
    have := hb c (by simp)
    simp only [skipB, List.cons_append, List.dropWhile_cons, this, if_true]
    exact ih fun x hx => hb x (by simp [hx])
theorem skip_no {c : UInt8} (h : isBl c = false) (s : Bs) : skipB (c :: s) = c :: s := by simp [skipB, h]
theorem step_bl (sub : Option (Bs → Option (JV × Bs))) {b : Bs} (hb : ∀ c ∈ b, isBl c = true) (s : Bs) : stepR sub (b ++ s) = stepR sub s := by
  unfold stepR; rw [skip_bl hb]
theorem rdV_bl (f : Nat) {b : Bs} (hb : ∀ c ∈ b, isBl c = true) (s : Bs) : rdV f (b ++ s) = rdV f s := by
  cases f with
  | zero => exact step_bl _ hb s
  | succ f => exact step_bl _ hb s
def Stop (r : Bs) : Prop := match r with
  | [] => False
  | c :: _ => c = 44 ∨ c = 93 ∨ c = 125 ∨ isBl c = true
theorem Stop.bl {b r : Bs} (hb : ∀ c ∈ b, isBl c = true) (h : Stop r) : Stop (b ++ r) := by
  cases b with
  | nil => exact h
  | cons c b => exact .inr (.inr (.inr (hb c (by simp))))
def Reads (S : Bs → Prop) (f : Nat) (t : Bs) (v : JV) : Prop := ∃ a b, (∀ c ∈ b, isBl c = true) ∧ t = a ++ b ∧ ∀ r, S (b ++ r) → rdV f (t ++ r) = some (v, b ++ r)
theorem rdV_eq (f : Nat) (s : Bs) : ∃ sub, rdV f s = stepR sub s ∧ (∀ g, f = g + 1 → sub = some (rdV g)) := by
  cases f with
  | zero => exact ⟨none, rfl, fun g h => by omega⟩
  | succ f =>
    refine ⟨some (rdV f), rfl, fun g h => ?_⟩
    have : f = g := by omega
    rw [this]
theorem rdV_str (f : Nat) {s q t : Bs} (h : strR (q ++ 34 :: t) = some (s, t)) : rdV f (34 :: q ++ 34 :: t) = some (.mk 34 ((34 :: q ++ [34]).all fun b => !(b == 92)) s [] [], t) := by
  obtain ⟨sub, e, _⟩ := rdV_eq f (34 :: q ++ 34 :: t)
  rw [e]
  unfold stepR
  rw [List.cons_append, skip_no (by decide)]
  have he : eaten (34 :: (q ++ 34 :: t)) t = 34 :: q ++ [34] := by
    unfold eaten
    have : (34 :: (q ++ 34 :: t) : Bs) = (34 :: q ++ [34]) ++ t := by simp
    rw [this, List.length_append, Nat.add_sub_cancel, List.take_left]
  simp [h, he]
theorem Reads.mono {S S' : Bs → Prop} {f : Nat} {t : Bs} {v : JV} (h : Reads S f t v) (k : ∀ r, S' r → S r) : Reads S' f t v := by
  obtain ⟨a, b, h1, h2, h3⟩ := h
  exact ⟨a, b, h1, h2, fun r hr => h3 r (k _ hr)⟩
theorem Reads.pre {S : Bs → Prop} {f : Nat} {t : Bs} {v : JV} (h : Reads S f t v) {x : Bs} (hx : ∀ c ∈ x, isBl c = true) : Reads S f (x ++ t) v := by
  obtain ⟨a, b, h1, rfl, h3⟩ := h
  exact ⟨x ++ a, b, h1, by simp, fun r hr => by rw [List.append_assoc, rdV_bl f hx]; exact h3 r hr⟩
theorem Reads.post {S : Bs → Prop} {f : Nat} {a : Bs} {v : JV} (h : ∀ r, S r → rdV f (a ++ r) = some (v, r)) {b : Bs} (hb : ∀ c ∈ b, isBl c = true) : Reads S f (a ++ b) v :=
  ⟨a, b, hb, rfl, fun r hr => by rw [List.append_assoc]; exact h _ hr⟩
theorem Reads.str (f : Nat) {s : Bs} (hs : GoodT s) (w : Bs) {x b : Bs} (hx : ∀ c ∈ x, isBl c = true) (hb : ∀ c ∈ b, isBl c = true) : ∃ p, Reads (fun _ => True) f (x ++ ((wquo s w).1 ++ b)) (.mk 34 p s [] []) := by
  have hq : ∀ t, ∃ q, (wquo s w).1 = 34 :: q ++ [34] ∧ strR (q ++ 34 :: t) = some (s, t) := wquo_read hs w
  obtain ⟨q, e, _⟩ := hq []
  have hr : ∀ t, strR (q ++ 34 :: t) = some (s, t) := fun t => by
    obtain ⟨q', e', h⟩ := hq t
    have : q' = q := by rw [e] at e'; simpa using e'.symm
    rw [this] at h; exact h
  refine ⟨((34 :: q ++ [34]).all fun b => !(b == 92)), (Reads.post (fun r _ => ?_) hb).pre hx⟩
  rw [e]
  have := rdV_str f (hr r)
  simpa using this
inductive All2 {α β : Type} (R : α → β → Prop) : List α → List β → Prop
  | nil : All2 R [] []
  | cons {a b l m} : R a b → All2 R l m → All2 R (a :: l) (b :: m)
theorem All2.length {α β : Type} {R : α → β → Prop} {l : List α} {m : List β} (h : All2 R l m) : l.length = m.length := by
  induction h with
  | nil => rfl
  | cons _ _ ih => simp [ih]
theorem All2.append {α β : Type} {R : α → β → Prop} {l l' : List α} {m m' : List β} (h : All2 R l m) (k : All2 R l' m') : All2 R (l ++ l') (m ++ m') := by
  induction h with
  | nil => exact k
  | cons a _ ih => exact .cons a ih
theorem All2.perm {α β : Type} {R : α → β → Prop} {l l' : List α} (hp : l.Perm l') : ∀ {m : List β}, All2 R l m → ∃ m', m.Perm m' ∧ All2 R l' m' := by
  induction hp with
  | nil => intro m h; exact ⟨m, .refl _, h⟩
  | cons x _ ih =>
    intro m h
    cases h with
    | cons a h => obtain ⟨m', k1, k2⟩ := ih h; exact ⟨_ :: m', k1.cons _, .cons a k2⟩
  | swap x y l =>
    intro m h
    cases h with
    | cons a h => cases h with
      | cons b h => exact ⟨_, .swap _ _ _, .cons b (.cons a h)⟩
  | trans _ _ ih1 ih2 =>
    intro m h
    obtain ⟨m1, k1, k2⟩ := ih1 h
    obtain ⟨m2, k3, k4⟩ := ih2 k2
    exact ⟨m2, k1.trans k3, k4⟩
end Go.V
namespace Go.V
set_option linter.unusedVariables false
set_option linter.unusedSimpArgs false
set_option maxRecDepth 10000
theorem GoodT.append {a b : Bs} (h : GoodT a) (k : GoodT b) : GoodT (a ++ b) := by
  obtain ⟨x, rfl, hx⟩ := h
  obtain ⟨y, rfl, hy⟩ := k
  exact ⟨x ++ y, (encs_append x y).symm, fun r hr => (List.mem_append.1 hr).elim (hx r) (hy r)⟩
end Go.V
namespace Go.V
open Go.RowKit
set_option linter.unusedVariables false
set_option linter.unusedSimpArgs false
set_option maxRecDepth 10000
attribute [local irreducible] Run Ops QD
theorem Run.keepB {P : Program} {n : Nat} {C : Cx} {k : List Item} {env : Env} {I : Imm} {L M N : Own} {e : TypeId} {v : Value} {xs : Bs} (hG : Buf e v xs M) (hL : L.Perm (M ++ N)) (h : ∀ J, Le I J → Sl tU8 J v xs → Run P n C k env N J) : Run P n C k env L I := by
  rcases id hG with ⟨_, _, rfl⟩ | ⟨b, pre, post, cap, _, rfl, _⟩
  · exact Run.perm hL (h I (Le.refl _) (hG.sl (fun _ _ h => by cases h)))
  · exact Run.perm hL (Run.freeze fun J hle hJ => h J hle (hG.sl (fun b o hm => by cases List.mem_singleton.1 hm; exact hJ)))
def cls (ch n : Nat) : Prop := (65 ≤ ch ∧ ch ≤ 90 ∧ n = ch - 65) ∨ (97 ≤ ch ∧ ch ≤ 122 ∧ n = ch - 71) ∨ (48 ≤ ch ∧ ch ≤ 57 ∧ n = ch + 4) ∨ (ch = 43 ∧ n = 62) ∨ (ch = 47 ∧ n = 63)
instance (ch n : Nat) : Decidable (cls ch n) := by unfold cls; infer_instance
end Go.V
