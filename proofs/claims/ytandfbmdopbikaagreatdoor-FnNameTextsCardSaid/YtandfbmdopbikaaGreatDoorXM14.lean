import Derived.Test.YtandfbmdopbikaaGreatDoorXM10
import Derived.Test.YtandfbmdopbikaaGreatDoorXM13
namespace Go.V
open Go.Proofs.Tryz
open Go.RowKit
set_option linter.unusedVariables false
set_option linter.unusedSimpArgs false
set_option maxRecDepth 10000
attribute [local irreducible] Run Ops QD
theorem parts_reg {s r p t : Tx} {k : Int} (h : sParts noO 1 s = (k, r, p, t, true, false)) : k = 1 ∧ p = [] ∧ t = [] ∧ sReg false [] s = (r, true, false) := by
  simp only [sParts, if_true, Prod.mk.injEq] at h
  obtain ⟨rfl, h1, rfl, rfl, h4, h5⟩ := h
  exact ⟨rfl, rfl, rfl, Prod.ext h1 (Prod.ext h4 h5)⟩
theorem parts_repo {s r p t : Tx} {k : Int} (h : sParts noO 2 s = (k, r, p, t, true, false)) : k = 2 ∧ t = [] ∧ sRepo false [] s = (r, p, true, false) := by
  simp only [sParts, show ¬ (2 : Int) = 1 by decide, if_false, if_true, Prod.mk.injEq] at h
  obtain ⟨rfl, h1, h2, rfl, h4, h5⟩ := h
  exact ⟨rfl, rfl, Prod.ext h1 (Prod.ext h2 (Prod.ext h4 h5))⟩
theorem parts_tag {s r p t : Tx} {k : Int} (h : sParts noO 3 s = (k, r, p, t, true, false)) : k = 3 ∧ sTag noO s = (r, p, t, true, false) := by
  simp only [sParts, show ¬ (3 : Int) = 1 by decide, show ¬ (3 : Int) = 2 by decide, if_false, if_true, Prod.mk.injEq] at h
  obtain ⟨rfl, h1, h2, h3, h4, h5⟩ := h
  exact ⟨rfl, Prod.ext h1 (Prod.ext h2 (Prod.ext h3 (Prod.ext h4 h5)))⟩
theorem parts_dig {s r p t : Tx} {k : Int} (h : sParts noO 4 s = (k, r, p, t, true, false)) : k = 4 ∧ sDig noO s = (r, p, t, true, false) := by
  simp only [sParts, show ¬ (4 : Int) = 1 by decide, show ¬ (4 : Int) = 2 by decide, show ¬ (4 : Int) = 3 by decide, if_false, if_true, Prod.mk.injEq] at h
  obtain ⟨rfl, h1, h2, h3, h4, h5⟩ := h
  exact ⟨rfl, Prod.ext h1 (Prod.ext h2 (Prod.ext h3 (Prod.ext h4 h5)))⟩
theorem sParts_ne {s r p t : Tx} {w k : Int} (h : sParts noO w s = (k, r, p, t, true, false)) (hw : w = 1 ∨ w = 2 ∨ w = 3 ∨ w = 4) : r ≠ [] := by
  rcases hw with rfl | rfl | rfl | rfl
  · exact (sReg_ok (b := false) (reg := []) (.inl rfl) (parts_reg h).2.2.2).2.2.1
  · exact (sRepo_ok (b := false) (reg := []) (.inl rfl) (parts_repo h).2.2).1.ne
  · exact (sTag_ok (o := noO) (.inl rfl) (parts_tag h).2).1.ne
  · exact (sDig_ok (o := noO) (.inl rfl) (parts_dig h).2).1.ne
theorem impl_texts (I : Imm) (a b : Tx) (v w : Value) (hv : Sl tU8 I v a) (hw : Sl tU8 I w b) : Pure prog 22 [v, .nilIface, w, .nilIface] I fun u J => u = .tuple #[str a, str b, .bool true] := by
  refine Spec.enter 21 [(0, _), (1, _), (2, _), (3, _)] func22 rfl ntmps22 (by simp) rfl ?_
  intro C hCf hR hCI
  repeat (first | refine Run.seq ?_)
  refine Run.regionO (D := [some 8, some 9, some 10]) [true, true, true] rfl rfl rfl (fun Z hZ => ?_)
  refine QD.ev T (by decide) rfl rfl ?_
  refine QD.ev T (by decide) rfl rfl ?_
  refine QD.ev T (by decide) rfl rfl ?_
  refine QD.nil (hZ _ ?_)
  clear hZ Z
  repeat (first | refine Run.seq ?_)
  refine Run.regionQ (D := [some 11, some 12, some 13, some 14, some 15, some 16, some 17, some 18, some 19, some 20, some 8, some 9, some 10]) [true, true, true, true, true, true, true, true, true, true, true, true, true] (bl 13 8191) (by kernel_rfl) (by kernel_rfl) (by kernel_rfl) (by kernel_rfl) rfl (fun Z hZ => ?_)
  refine QD.ev T (by decide) rfl rfl ?_
  refine QD.yv (by decide) rfl (Yv.bytesSl T hv rfl rfl rfl rfl) ?_
  refine QD.ev T (by decide) rfl rfl ?_
  refine QD.yv (by decide) rfl (Yv.bytesSl T hw rfl rfl rfl rfl) ?_
  refine QD.ev T (by decide) rfl rfl ?_
  refine QD.e (Ev.eqlNil T rfl rfl rfl rfl rfl) (by decide) rfl ?_
  refine QD.ev T (by decide) rfl rfl ?_
  first | refine QD.ev T (by decide) rfl rfl ?_ | refine QD.off (by decide) rfl ?_
  first | refine QD.e (Ev.eqlNil T rfl rfl rfl rfl rfl) (by decide) rfl ?_ | refine QD.off (by decide) rfl ?_
  refine QD.ev T (by decide) rfl rfl ?_
  refine QD.ev T (by decide) rfl rfl ?_
  refine QD.ev T (by decide) rfl rfl ?_
  refine QD.ev T (by decide) rfl rfl ?_
  refine QD.nil (hZ _ ?_)
  clear hZ Z
  skip
  refine Run.fin (Run.ret3 (by rw [hCf]; exact func22) results22 rfl rfl rfl (hR _ _ _ ?_))
  exact ⟨rfl, rfl⟩
theorem self_len {w : Int} {s r p t : Tx} (h1 : s.length ≤ 1000) (h2 : r.length ≤ 306) (h3 : p.length ≤ 255) : (selfT w s r p).length ≤ 1000 := by
  unfold selfT
  split
  · omega
  · split
    · unfold repoT; simp only [List.length_append]; have : ([47] : Tx).length = 1 := rfl; omega
    · exact h1
set_option maxHeartbeats 4000000 in
theorem impl_NameText (I : Imm) (s r p t : Tx) (w k : Int) (hw : w = 1 ∨ w = 2 ∨ w = 3 ∨ w = 4) (h : sParts noO w s = (k, r, p, t, true, false)) (hs : s.length ≤ 1000) (hr : r.length ≤ 306) (hp : p.length ≤ 255) (hne : r ≠ []) :
    Pure prog 8 [str s, .int .i64 w] I fun u J => u = .tuple #[str (selfT w s r p), str ([34] ++ selfT w s r p ++ [34]), .bool true] := by
  have hpl := (self_plain hw h).1
  have hsl : (selfT w s r p).length ≤ 1000 := self_len (t := t) hs hr hp
  rcases hw with rfl | rfl | rfl | rfl
  · obtain ⟨rfl, rfl, rfl, hreg⟩ := parts_reg h
    refine Spec.enter 136 [(0, _), (1, _)] func8 rfl ntmps8 (by simp) rfl ?_
    intro C hCf hR hCI
    repeat (first | refine Run.seq ?_ | refine Run.region ?_ | refine Ops.nil ?_ | refine Run.block ?_ | refine Run.cond_t rfl ?_ | refine Ops.eql rfl (by decide) rfl rfl ?_ | refine Ops.pure T rfl (by decide) rfl ?_)
    refine Ops.call ((name_NewRegistry I s _ noO (OptsAre.none I) (by omega))) rfl (by decide) call19 rfl ?_
    rintro u J1 l1 ⟨a, hres, hans, hlen⟩
    obtain rfl : a = some r := hans _ _ hreg
    have hres2 : u = _ := hres
    subst hres2
    repeat (first | refine Ops.pure T rfl (by decide) rfl ?_)
    refine Ops.alloc rfl (by decide) (T.zeroOk rfl) rfl (fun b7 => ?_)
    repeat (first | refine Run.seq ?_ | refine Run.region ?_ | refine Ops.nil ?_ | refine Run.skip ?_ | refine Run.cond_f rfl ?_ | refine Ops.neqNil T rfl (by decide) rfl rfl rfl rfl rfl ?_ | refine Ops.pure T rfl (by decide) rfl ?_ | refine Ops.loadN 0 rfl (by decide) rfl rfl (T.aggOk rfl) (T.sizeOk rfl) rfl rfl ?_ | refine Ops.store 0 rfl rfl rfl rfl rfl (T.sizeOk rfl) rfl (Nat.le_of_ble_eq_true rfl) rfl rfl ?_)
    refine Ops.call ((Registry_MarshalText J1 false r)) rfl (by decide) call20 rfl ?_
    rintro _ J2 l2 ⟨v1, rfl, hv1⟩
    repeat (first | refine Run.seq ?_ | refine Run.region ?_ | refine Ops.nil ?_ | refine Ops.pure T rfl (by decide) rfl ?_ | refine Ops.loadN 0 rfl (by decide) rfl rfl (T.aggOk rfl) (T.sizeOk rfl) rfl rfl ?_)
    refine Ops.call ((Registry_MarshalJSON J2 false r hpl (Nat.le_trans hsl (by decide)))) rfl (by decide) call21 rfl ?_
    rintro _ J3 l3 ⟨v2, rfl, hv2⟩
    repeat (first | refine Run.seq ?_ | refine Run.region ?_ | refine Ops.nil ?_ | refine Ops.pure T rfl (by decide) rfl ?_)
    refine Ops.call ((impl_texts J3 _ _ _ _ (hv1.mono l3) hv2)) rfl (by decide) call22 rfl ?_
    rintro _ J4 l4 rfl
    repeat (first | refine Ops.nil ?_ | refine Ops.pure T rfl (by decide) rfl ?_)
    refine Run.fin (Run.ret3 (by rw [hCf]; exact func8) results8 rfl rfl rfl (hR _ _ _ ?_))
    exact ⟨rfl, rfl⟩
  · obtain ⟨rfl, rfl, hreg⟩ := parts_repo h
    refine Spec.enter 136 [(0, _), (1, _)] func8 rfl ntmps8 (by simp) rfl ?_
    intro C hCf hR hCI
    repeat (first | refine Run.seq ?_ | refine Run.region ?_ | refine Ops.nil ?_ | refine Run.block ?_ | refine Run.cond_t rfl ?_ | refine Run.cond_f rfl ?_ | refine Ops.eql rfl (by decide) rfl rfl ?_ | refine Ops.pure T rfl (by decide) rfl ?_)
    refine Ops.call ((name_NewRepository I s _ noO (OptsAre.none I) (by omega))) rfl (by decide) call23 rfl ?_
    rintro u J1 l1 ⟨a, hres, hans, hlen⟩
    have h2 := hans _ _ _ hreg
    cases a with
    | none => exact absurd (show true = false from h2) (by decide)
    | some y =>
    obtain ⟨_, h3, h4⟩ := h2
    have hres2 : u = _ := hres
    subst hres2
    simp only [h3]
    repeat (first | refine Ops.pure T rfl (by decide) rfl ?_)
    refine Ops.alloc rfl (by decide) (T.zeroOk rfl) rfl (fun b7 => ?_)
    repeat (first | refine Run.seq ?_ | refine Run.region ?_ | refine Ops.nil ?_ | refine Run.skip ?_ | refine Run.cond_f rfl ?_ | refine Ops.neqNil T rfl (by decide) rfl rfl rfl rfl rfl ?_ | refine Ops.pure T rfl (by decide) rfl ?_ | refine Ops.loadN 0 rfl (by decide) rfl rfl (T.aggOk rfl) (T.sizeOk rfl) rfl rfl ?_ | refine Ops.store 0 rfl rfl rfl rfl rfl (T.sizeOk rfl) rfl (Nat.le_of_ble_eq_true rfl) rfl rfl ?_)
    have hself : repoT r (fullP r y.2) = selfT 2 s r p := by rw [h4]; rfl
    have hm1 := fun J => Repository_MarshalText J false r y.2 (by omega) (by have := (hlen y rfl).2.2; omega) hne
    have hm2 := fun J => Repository_MarshalJSON J false r y.2 (by omega) (by have := (hlen y rfl).2.2; omega) hne (by rw [hself]; exact hpl) (by rw [hself]; omega)
    rw [hself] at hm1 hm2
    refine Ops.call ((hm1 J1)) rfl (by decide) call24 rfl ?_
    rintro _ J2 l2 ⟨v1, rfl, hv1⟩
    repeat (first | refine Run.seq ?_ | refine Run.region ?_ | refine Ops.nil ?_ | refine Ops.pure T rfl (by decide) rfl ?_ | refine Ops.loadN 0 rfl (by decide) rfl rfl (T.aggOk rfl) (T.sizeOk rfl) rfl rfl ?_)
    refine Ops.call ((hm2 J2)) rfl (by decide) call25 rfl ?_
    rintro _ J3 l3 ⟨v2, rfl, hv2⟩
    repeat (first | refine Run.seq ?_ | refine Run.region ?_ | refine Ops.nil ?_ | refine Ops.pure T rfl (by decide) rfl ?_)
    refine Ops.call ((impl_texts J3 _ _ _ _ (hv1.mono l3) hv2)) rfl (by decide) call22 rfl ?_
    rintro _ J4 l4 rfl
    repeat (first | refine Ops.nil ?_ | refine Ops.pure T rfl (by decide) rfl ?_)
    refine Run.fin (Run.ret3 (by rw [hCf]; exact func8) results8 rfl rfl rfl (hR _ _ _ ?_))
    exact ⟨rfl, rfl⟩
  · obtain ⟨rfl, hreg⟩ := parts_tag h
    refine Spec.enter 136 [(0, _), (1, _)] func8 rfl ntmps8 (by simp) rfl ?_
    intro C hCf hR hCI
    repeat (first | refine Run.seq ?_ | refine Run.region ?_ | refine Ops.nil ?_ | refine Run.block ?_ | refine Run.cond_t rfl ?_ | refine Run.cond_f rfl ?_ | refine Ops.eql rfl (by decide) rfl rfl ?_ | refine Ops.pure T rfl (by decide) rfl ?_)
    refine Ops.call ((name_NewTag I s _ noO (OptsAre.none I) (by omega))) rfl (by decide) call26 rfl ?_
    rintro u J1 l1 ⟨a, hres, hans, hlen⟩
    have h2 := hans _ _ _ _ hreg
    cases a with
    | none => exact absurd (show true = false from h2) (by decide)
    | some y =>
    obtain ⟨_, h3, h4, h5⟩ := h2
    have hres2 : u = _ := hres
    subst hres2
    repeat (first | refine Ops.pure T rfl (by decide) rfl ?_)
    refine Ops.alloc rfl (by decide) (T.zeroOk rfl) rfl (fun b7 => ?_)
    repeat (first | refine Run.seq ?_ | refine Run.region ?_ | refine Ops.nil ?_ | refine Run.skip ?_ | refine Run.cond_f rfl ?_ | refine Ops.neqNil T rfl (by decide) rfl rfl rfl rfl rfl ?_ | refine Ops.pure T rfl (by decide) rfl ?_ | refine Ops.loadN 0 rfl (by decide) rfl rfl (T.aggOk rfl) (T.sizeOk rfl) rfl rfl ?_ | refine Ops.store 0 rfl rfl rfl rfl rfl (T.sizeOk rfl) rfl (Nat.le_of_ble_eq_true rfl) rfl rfl ?_)
    refine Ops.call ((Tag_MarshalText J1 false y.1 y.2.1 y.2.2 s)) rfl (by decide) call27 rfl ?_
    rintro _ J2 l2 ⟨v1, rfl, hv1⟩
    repeat (first | refine Run.seq ?_ | refine Run.region ?_ | refine Ops.nil ?_ | refine Ops.pure T rfl (by decide) rfl ?_ | refine Ops.loadN 0 rfl (by decide) rfl rfl (T.aggOk rfl) (T.sizeOk rfl) rfl rfl ?_)
    refine Ops.call ((Tag_MarshalJSON J2 false y.1 y.2.1 y.2.2 s hpl (Nat.le_trans hsl (by decide)))) rfl (by decide) call28 rfl ?_
    rintro _ J3 l3 ⟨v2, rfl, hv2⟩
    repeat (first | refine Run.seq ?_ | refine Run.region ?_ | refine Ops.nil ?_ | refine Ops.pure T rfl (by decide) rfl ?_)
    refine Ops.call ((impl_texts J3 _ _ _ _ (hv1.mono l3) hv2)) rfl (by decide) call22 rfl ?_
    rintro _ J4 l4 rfl
    repeat (first | refine Ops.nil ?_ | refine Ops.pure T rfl (by decide) rfl ?_)
    refine Run.fin (Run.ret3 (by rw [hCf]; exact func8) results8 rfl rfl rfl (hR _ _ _ ?_))
    exact ⟨rfl, rfl⟩
  · obtain ⟨rfl, hreg⟩ := parts_dig h
    refine Spec.enter 136 [(0, _), (1, _)] func8 rfl ntmps8 (by simp) rfl ?_
    intro C hCf hR hCI
    repeat (first | refine Run.seq ?_ | refine Run.region ?_ | refine Ops.nil ?_ | refine Run.block ?_ | refine Run.cond_t rfl ?_ | refine Run.cond_f rfl ?_ | refine Ops.eql rfl (by decide) rfl rfl ?_ | refine Ops.pure T rfl (by decide) rfl ?_)
    refine Ops.call ((name_NewDigest I s _ noO (.inl rfl) (OptsAre.none I) (by omega) (by decide))) rfl (by decide) call29 rfl ?_
    rintro u J1 l1 ⟨a, hres, hans, hlen⟩
    have h2 := hans _ _ _ _ hreg
    cases a with
    | none => exact absurd (show true = false from h2) (by decide)
    | some y =>
    obtain ⟨_, h3, h4, h5⟩ := h2
    have hres2 : u = _ := hres
    subst hres2
    repeat (first | refine Ops.pure T rfl (by decide) rfl ?_)
    refine Ops.alloc rfl (by decide) (T.zeroOk rfl) rfl (fun b7 => ?_)
    repeat (first | refine Run.seq ?_ | refine Run.region ?_ | refine Ops.nil ?_ | refine Run.skip ?_ | refine Run.cond_f rfl ?_ | refine Ops.neqNil T rfl (by decide) rfl rfl rfl rfl rfl ?_ | refine Ops.pure T rfl (by decide) rfl ?_ | refine Ops.loadN 0 rfl (by decide) rfl rfl (T.aggOk rfl) (T.sizeOk rfl) rfl rfl ?_ | refine Ops.store 0 rfl rfl rfl rfl rfl (T.sizeOk rfl) rfl (Nat.le_of_ble_eq_true rfl) rfl rfl ?_)
    refine Ops.call ((Digest_MarshalText J1 false y.1 y.2.1 y.2.2 s)) rfl (by decide) call30 rfl ?_
    rintro _ J2 l2 ⟨v1, rfl, hv1⟩
    repeat (first | refine Run.seq ?_ | refine Run.region ?_ | refine Ops.nil ?_ | refine Ops.pure T rfl (by decide) rfl ?_ | refine Ops.loadN 0 rfl (by decide) rfl rfl (T.aggOk rfl) (T.sizeOk rfl) rfl rfl ?_)
    refine Ops.call ((Digest_MarshalJSON J2 false y.1 y.2.1 y.2.2 s hpl (Nat.le_trans hsl (by decide)))) rfl (by decide) call31 rfl ?_
    rintro _ J3 l3 ⟨v2, rfl, hv2⟩
    repeat (first | refine Run.seq ?_ | refine Run.region ?_ | refine Ops.nil ?_ | refine Ops.pure T rfl (by decide) rfl ?_)
    refine Ops.call ((impl_texts J3 _ _ _ _ (hv1.mono l3) hv2)) rfl (by decide) call22 rfl ?_
    rintro _ J4 l4 rfl
    repeat (first | refine Ops.nil ?_ | refine Ops.pure T rfl (by decide) rfl ?_)
    refine Run.fin (Run.ret3 (by rw [hCf]; exact func8) results8 rfl rfl rfl (hR _ _ _ ?_))
    exact ⟨rfl, rfl⟩
set_option maxHeartbeats 8000000 in
theorem impl_NameOfT (I : Imm) (s r p t : Tx) (w k : Int) (hw : w = 1 ∨ w = 2 ∨ w = 3 ∨ w = 4) (h : sParts noO w s = (k, r, p, t, true, false)) (hs : s.length ≤ 1000) (hr : r.length ≤ 306) (hp : p.length ≤ 255) (hne : r ≠ []) :
    Pure prog 9 [str s, .int .i64 w, .bool false] I fun u J => ∃ x, u = .tuple #[.agg (nmd (pHttp r) w r p t x).cs.toArray, .bool true] := by
  rcases hw with rfl | rfl | rfl | rfl
  · obtain ⟨rfl, rfl, rfl, hreg⟩ := parts_reg h
    obtain ⟨nm, f, sc, cn, ct, rn, he⟩ := nmd_split 1 r [] [] (by decide)
    refine Spec.enter 62 [(0, _), (1, _), (2, _)] func9 rfl ntmps9 (by simp) rfl ?_
    intro C hCf hR hCI
    repeat (first | refine Run.seq ?_ | refine Run.region ?_)
    refine Ops.alloc rfl (by decide) (T.zeroOk rfl) rfl (fun b6 => ?_)
    repeat (first | refine Run.seq ?_ | refine Run.region ?_ | refine Ops.nil ?_ | refine Ops.pure T rfl (by decide) rfl ?_)
    refine Ops.convBytes T rfl (by decide) rfl rfl rfl rfl fun v J1 l1 hv => ?_
    repeat (first | refine Run.seq ?_ | refine Run.region ?_ | refine Ops.nil ?_ | refine Run.block ?_ | refine Run.cond_t rfl ?_ | refine Ops.eql rfl (by decide) rfl rfl ?_ | refine Ops.pure T rfl (by decide) rfl ?_)
    refine Ops.alloc rfl (by decide) (T.zeroOk rfl) rfl (fun b10 => ?_)
    repeat (first | refine Run.seq ?_ | refine Run.region ?_ | refine Ops.nil ?_ | refine Ops.pure T rfl (by decide) rfl ?_)
    refine Ops.callM (M := [_]) ((Registry_UnmarshalText J1 s v hv (by first | omega | (simp only [List.length_append, List.length_cons, List.length_nil]; omega)) b10 false [])) (.refl _) rfl (by decide) call32 rfl ?_
    rintro u J2 M2 l2 ⟨cs, rfl, ⟨b, r', hcs⟩, hx⟩
    obtain ⟨rfl, hcs2⟩ := hx _ hreg
    obtain rfl : cs = _ := hcs2
    clear hcs hx
    repeat (first | refine Run.seq ?_ | refine Run.region ?_ | refine Ops.nil ?_ | refine Run.skip ?_ | refine Run.cond_f rfl ?_ | refine Ops.pure T rfl (by decide) rfl ?_ | refine Ops.loadN 0 rfl (by decide) rfl rfl (T.aggOk rfl) (T.sizeOk rfl) rfl rfl ?_)
    refine Ops.call ((impl_registryNamed J2 false r (by omega))) rfl (by decide) call34 rfl ?_
    rintro _ J4 l4 rfl
    rw [he]
    repeat (first | refine Run.seq ?_ | refine Run.region ?_ | refine Ops.nil ?_ | refine Run.skip ?_ | refine Run.inBlock ?_ | refine Run.cond_f rfl ?_ | refine Ops.neqNil T rfl (by decide) rfl rfl rfl rfl rfl ?_ | refine Ops.pure T rfl (by decide) rfl ?_ | refine Ops.loadN 1 rfl (by decide) rfl rfl (T.aggOk rfl) (T.sizeOk rfl) rfl rfl ?_ | refine Ops.store 1 rfl rfl rfl rfl rfl (T.sizeOk rfl) rfl (Nat.le_of_ble_eq_true rfl) rfl rfl ?_)
    refine Run.retCT T 1 (by rw [hCf]; exact func9) results9 rfl rfl rfl rfl rfl rfl rfl (hR _ _ _ ?_)
    exact ⟨rfl, [], by rw [he]; rfl⟩
  · obtain ⟨rfl, rfl, hreg⟩ := parts_repo h
    obtain ⟨nm, f, sc, cn, ct, rn, he⟩ := nmd_split 2 r p [] (by decide)
    refine Spec.enter 62 [(0, _), (1, _), (2, _)] func9 rfl ntmps9 (by simp) rfl ?_
    intro C hCf hR hCI
    repeat (first | refine Run.seq ?_ | refine Run.region ?_)
    refine Ops.alloc rfl (by decide) (T.zeroOk rfl) rfl (fun b6 => ?_)
    repeat (first | refine Run.seq ?_ | refine Run.region ?_ | refine Ops.nil ?_ | refine Ops.pure T rfl (by decide) rfl ?_)
    refine Ops.convBytes T rfl (by decide) rfl rfl rfl rfl fun v J1 l1 hv => ?_
    repeat (first | refine Run.seq ?_ | refine Run.region ?_ | refine Ops.nil ?_ | refine Run.block ?_ | refine Run.cond_t rfl ?_ | refine Run.cond_f rfl ?_ | refine Ops.eql rfl (by decide) rfl rfl ?_ | refine Ops.pure T rfl (by decide) rfl ?_)
    refine Ops.alloc rfl (by decide) (T.zeroOk rfl) rfl (fun b10 => ?_)
    repeat (first | refine Run.seq ?_ | refine Run.region ?_ | refine Ops.nil ?_ | refine Ops.pure T rfl (by decide) rfl ?_)
    refine Ops.callM (M := [_]) ((Repository_UnmarshalText J1 s v hv (by first | omega | (simp only [List.length_append, List.length_cons, List.length_nil]; omega)) b10 false [] [])) (.refl _) rfl (by decide) call35 rfl ?_
    rintro u J2 M2 l2 ⟨cs, rfl, ⟨b, r', p', hcs⟩, hx⟩
    obtain ⟨rfl, hcs2⟩ := hx _ _ hreg
    obtain ⟨q, rfl, hq, _, _, hql⟩ := hcs2
    clear hcs hx
    repeat (first | refine Run.seq ?_ | refine Run.region ?_ | refine Ops.nil ?_ | refine Run.skip ?_ | refine Run.cond_f rfl ?_ | refine Ops.pure T rfl (by decide) rfl ?_ | refine Ops.loadN 0 rfl (by decide) rfl rfl (T.aggOk rfl) (T.sizeOk rfl) rfl rfl ?_)
    refine Ops.call ((impl_repositoryNamed J2 false r q (by omega) (by omega) hne)) rfl (by decide) call37 rfl ?_
    rintro _ J4 l4 rfl
    rw [hq]
    rw [he]
    repeat (first | refine Run.seq ?_ | refine Run.region ?_ | refine Ops.nil ?_ | refine Run.skip ?_ | refine Run.inBlock ?_ | refine Run.cond_f rfl ?_ | refine Ops.neqNil T rfl (by decide) rfl rfl rfl rfl rfl ?_ | refine Ops.pure T rfl (by decide) rfl ?_ | refine Ops.loadN 1 rfl (by decide) rfl rfl (T.aggOk rfl) (T.sizeOk rfl) rfl rfl ?_ | refine Ops.store 1 rfl rfl rfl rfl rfl (T.sizeOk rfl) rfl (Nat.le_of_ble_eq_true rfl) rfl rfl ?_)
    refine Run.retCT T 1 (by rw [hCf]; exact func9) results9 rfl rfl rfl rfl rfl rfl rfl (hR _ _ _ ?_)
    exact ⟨rfl, [], by rw [he]; rfl⟩
  · obtain ⟨rfl, hreg⟩ := parts_tag h
    obtain ⟨nm, f, sc, cn, ct, rn, he⟩ := nmd_split 3 r p t (by decide)
    refine Spec.enter 62 [(0, _), (1, _), (2, _)] func9 rfl ntmps9 (by simp) rfl ?_
    intro C hCf hR hCI
    repeat (first | refine Run.seq ?_ | refine Run.region ?_)
    refine Ops.alloc rfl (by decide) (T.zeroOk rfl) rfl (fun b6 => ?_)
    repeat (first | refine Run.seq ?_ | refine Run.region ?_ | refine Ops.nil ?_ | refine Ops.pure T rfl (by decide) rfl ?_)
    refine Ops.convBytes T rfl (by decide) rfl rfl rfl rfl fun v J1 l1 hv => ?_
    repeat (first | refine Run.seq ?_ | refine Run.region ?_ | refine Ops.nil ?_ | refine Run.block ?_ | refine Run.cond_t rfl ?_ | refine Run.cond_f rfl ?_ | refine Ops.eql rfl (by decide) rfl rfl ?_ | refine Ops.pure T rfl (by decide) rfl ?_)
    refine Ops.alloc rfl (by decide) (T.zeroOk rfl) rfl (fun b10 => ?_)
    repeat (first | refine Run.seq ?_ | refine Run.region ?_ | refine Ops.nil ?_ | refine Ops.pure T rfl (by decide) rfl ?_)
    refine Ops.callM (M := [_]) ((Tag_UnmarshalText J1 s v hv (by first | omega | (simp only [List.length_append, List.length_cons, List.length_nil]; omega)) b10 false [] [] [] [])) (.refl _) rfl (by decide) call38 rfl ?_
    rintro u J2 M2 l2 ⟨cs, rfl, ⟨b, r', p', t', s', hcs⟩, hx⟩
    obtain ⟨rfl, hcs2⟩ := hx _ _ _ hreg
    obtain ⟨q, rfl, hq, _, _, hql, htl⟩ := hcs2
    clear hcs hx
    repeat (first | refine Run.seq ?_ | refine Run.region ?_ | refine Ops.nil ?_ | refine Run.skip ?_ | refine Run.cond_f rfl ?_ | refine Ops.pure T rfl (by decide) rfl ?_ | refine Ops.loadN 0 rfl (by decide) rfl rfl (T.aggOk rfl) (T.sizeOk rfl) rfl rfl ?_)
    refine Ops.call ((impl_tagNamed J2 false r q t s (by omega) (by omega) (by omega) hne)) rfl (by decide) call40 rfl ?_
    rintro _ J4 l4 rfl
    rw [hq]
    rw [he]
    repeat (first | refine Run.seq ?_ | refine Run.region ?_ | refine Ops.nil ?_ | refine Run.skip ?_ | refine Run.inBlock ?_ | refine Run.cond_f rfl ?_ | refine Ops.neqNil T rfl (by decide) rfl rfl rfl rfl rfl ?_ | refine Ops.pure T rfl (by decide) rfl ?_ | refine Ops.loadN 1 rfl (by decide) rfl rfl (T.aggOk rfl) (T.sizeOk rfl) rfl rfl ?_ | refine Ops.store 1 rfl rfl rfl rfl rfl (T.sizeOk rfl) rfl (Nat.le_of_ble_eq_true rfl) rfl rfl ?_)
    refine Run.retCT T 1 (by rw [hCf]; exact func9) results9 rfl rfl rfl rfl rfl rfl rfl (hR _ _ _ ?_)
    exact ⟨rfl, s, by rw [he]; rfl⟩
  · obtain ⟨rfl, hreg⟩ := parts_dig h
    obtain ⟨nm, f, sc, cn, ct, rn, he⟩ := nmd_split 4 r p t (by decide)
    refine Spec.enter 62 [(0, _), (1, _), (2, _)] func9 rfl ntmps9 (by simp) rfl ?_
    intro C hCf hR hCI
    repeat (first | refine Run.seq ?_ | refine Run.region ?_)
    refine Ops.alloc rfl (by decide) (T.zeroOk rfl) rfl (fun b6 => ?_)
    repeat (first | refine Run.seq ?_ | refine Run.region ?_ | refine Ops.nil ?_ | refine Ops.pure T rfl (by decide) rfl ?_)
    refine Ops.convBytes T rfl (by decide) rfl rfl rfl rfl fun v J1 l1 hv => ?_
    repeat (first | refine Run.seq ?_ | refine Run.region ?_ | refine Ops.nil ?_ | refine Run.block ?_ | refine Run.cond_t rfl ?_ | refine Run.cond_f rfl ?_ | refine Ops.eql rfl (by decide) rfl rfl ?_ | refine Ops.pure T rfl (by decide) rfl ?_)
    refine Ops.alloc rfl (by decide) (T.zeroOk rfl) rfl (fun b10 => ?_)
    repeat (first | refine Run.seq ?_ | refine Run.region ?_ | refine Ops.nil ?_ | refine Ops.pure T rfl (by decide) rfl ?_)
    refine Ops.callM (M := [_]) ((Digest_UnmarshalText J1 s v hv (by first | omega | (simp only [List.length_append, List.length_cons, List.length_nil]; omega)) b10 false [] [] [] [])) (.refl _) rfl (by decide) call41 rfl ?_
    rintro u J2 M2 l2 ⟨cs, rfl, ⟨b, r', p', t', s', hcs⟩, hx⟩
    obtain ⟨rfl, hcs2⟩ := hx _ _ _ hreg
    obtain ⟨q, rfl, hq, _, _, hql, htl⟩ := hcs2
    clear hcs hx
    repeat (first | refine Run.seq ?_ | refine Run.region ?_ | refine Ops.nil ?_ | refine Run.skip ?_ | refine Run.cond_f rfl ?_ | refine Ops.pure T rfl (by decide) rfl ?_ | refine Ops.loadN 0 rfl (by decide) rfl rfl (T.aggOk rfl) (T.sizeOk rfl) rfl rfl ?_)
    refine Ops.call ((impl_digestNamed J2 false r q t s (by omega) (by omega) (by omega) hne)) rfl (by decide) call43 rfl ?_
    rintro _ J4 l4 rfl
    rw [hq]
    rw [he]
    repeat (first | refine Run.seq ?_ | refine Run.region ?_ | refine Ops.nil ?_ | refine Run.skip ?_ | refine Run.inBlock ?_ | refine Run.cond_f rfl ?_ | refine Ops.neqNil T rfl (by decide) rfl rfl rfl rfl rfl ?_ | refine Ops.pure T rfl (by decide) rfl ?_ | refine Ops.loadN 1 rfl (by decide) rfl rfl (T.aggOk rfl) (T.sizeOk rfl) rfl rfl ?_ | refine Ops.store 1 rfl rfl rfl rfl rfl (T.sizeOk rfl) rfl (Nat.le_of_ble_eq_true rfl) rfl rfl ?_)
    refine Run.retCT T 1 (by rw [hCf]; exact func9) results9 rfl rfl rfl rfl rfl rfl rfl (hR _ _ _ ?_)
    exact ⟨rfl, s, by rw [he]; rfl⟩
set_option maxHeartbeats 8000000 in
theorem impl_NameOfJ (I : Imm) (s r p t : Tx) (w k : Int) (hw : w = 1 ∨ w = 2 ∨ w = 3 ∨ w = 4) (h : sParts noO w s = (k, r, p, t, true, false)) (hs : s.length ≤ 1000) (hr : r.length ≤ 306) (hp : p.length ≤ 255) (hne : r ≠ []) (hpl : plT s) :
    Pure prog 9 [str ([34] ++ s ++ [34]), .int .i64 w, .bool true] I fun u J => ∃ x, u = .tuple #[.agg (nmd (pHttp r) w r p t x).cs.toArray, .bool true] := by
  rcases hw with rfl | rfl | rfl | rfl
  · obtain ⟨rfl, rfl, rfl, hreg⟩ := parts_reg h
    obtain ⟨nm, f, sc, cn, ct, rn, he⟩ := nmd_split 1 r [] [] (by decide)
    refine Spec.enter 62 [(0, _), (1, _), (2, _)] func9 rfl ntmps9 (by simp) rfl ?_
    intro C hCf hR hCI
    repeat (first | refine Run.seq ?_ | refine Run.region ?_)
    refine Ops.alloc rfl (by decide) (T.zeroOk rfl) rfl (fun b6 => ?_)
    repeat (first | refine Run.seq ?_ | refine Run.region ?_ | refine Ops.nil ?_ | refine Ops.pure T rfl (by decide) rfl ?_)
    refine Ops.convBytes T rfl (by decide) rfl rfl rfl rfl fun v J1 l1 hv => ?_
    obtain ⟨db, off, c, hR0⟩ := Rd.of hv (by simp)
    repeat (first | refine Run.seq ?_ | refine Run.region ?_ | refine Ops.nil ?_ | refine Run.block ?_ | refine Run.cond_t rfl ?_ | refine Ops.eql rfl (by decide) rfl rfl ?_ | refine Ops.pure T rfl (by decide) rfl ?_)
    refine Ops.alloc rfl (by decide) (T.zeroOk rfl) rfl (fun b10 => ?_)
    repeat (first | refine Run.seq ?_ | refine Run.region ?_ | refine Ops.nil ?_ | refine Ops.pure T rfl (by decide) rfl ?_)
    refine Ops.callM (M := [_]) ((Registry_UnmarshalText J1 ([34] ++ s ++ [34]) v hv (by first | omega | (simp only [List.length_append, List.length_cons, List.length_nil]; omega)) b10 false [])) (.refl _) rfl (by decide) call32 rfl ?_
    rintro u J2 M2 l2 ⟨cs, rfl, ⟨b, r', hcs⟩, hx⟩
    subst hcs
    clear hx
    repeat (first | refine Run.seq ?_ | refine Run.region ?_ | refine Ops.nil ?_ | refine Run.cond_t rfl ?_ | refine Ops.pure T rfl (by decide) rfl ?_)
    refine Ops.buildL bd47 rfl (by decide) rfl rfl ?_
    repeat (first | refine Run.region ?_ | refine Ops.nil ?_ | refine Ops.pure T rfl (by decide) rfl ?_ | refine Ops.store 0 rfl rfl rfl rfl rfl (T.sizeOk rfl) rfl (Nat.le_of_ble_eq_true rfl) rfl rfl ?_)
    refine Ops.callM (M := [_]) ((Registry_UnmarshalJSON J2 s r v db off c (hR0.mono l2) (by omega) hpl hreg b10)) (.refl _) rfl (by decide) call33 rfl ?_
    rintro u2 J3 M3 l3 ⟨rfl, cs, rfl, hcs2⟩
    obtain rfl : cs = _ := hcs2
    repeat (first | refine Run.region ?_ | refine Ops.nil ?_ | refine Ops.pure T rfl (by decide) rfl ?_ | refine Ops.loadN 0 rfl (by decide) rfl rfl (T.aggOk rfl) (T.sizeOk rfl) rfl rfl ?_)
    refine Ops.call ((impl_registryNamed J3 false r (by omega))) rfl (by decide) call34 rfl ?_
    rintro _ J4 l4 rfl
    rw [he]
    repeat (first | refine Run.seq ?_ | refine Run.region ?_ | refine Ops.nil ?_ | refine Run.skip ?_ | refine Run.inBlock ?_ | refine Run.cond_f rfl ?_ | refine Ops.neqNil T rfl (by decide) rfl rfl rfl rfl rfl ?_ | refine Ops.pure T rfl (by decide) rfl ?_ | refine Ops.loadN 1 rfl (by decide) rfl rfl (T.aggOk rfl) (T.sizeOk rfl) rfl rfl ?_ | refine Ops.store 1 rfl rfl rfl rfl rfl (T.sizeOk rfl) rfl (Nat.le_of_ble_eq_true rfl) rfl rfl ?_)
    refine Run.retCT T 1 (by rw [hCf]; exact func9) results9 rfl rfl rfl rfl rfl rfl rfl (hR _ _ _ ?_)
    exact ⟨rfl, [], by rw [he]; rfl⟩
  · obtain ⟨rfl, rfl, hreg⟩ := parts_repo h
    obtain ⟨nm, f, sc, cn, ct, rn, he⟩ := nmd_split 2 r p [] (by decide)
    refine Spec.enter 62 [(0, _), (1, _), (2, _)] func9 rfl ntmps9 (by simp) rfl ?_
    intro C hCf hR hCI
    repeat (first | refine Run.seq ?_ | refine Run.region ?_)
    refine Ops.alloc rfl (by decide) (T.zeroOk rfl) rfl (fun b6 => ?_)
    repeat (first | refine Run.seq ?_ | refine Run.region ?_ | refine Ops.nil ?_ | refine Ops.pure T rfl (by decide) rfl ?_)
    refine Ops.convBytes T rfl (by decide) rfl rfl rfl rfl fun v J1 l1 hv => ?_
    obtain ⟨db, off, c, hR0⟩ := Rd.of hv (by simp)
    repeat (first | refine Run.seq ?_ | refine Run.region ?_ | refine Ops.nil ?_ | refine Run.block ?_ | refine Run.cond_t rfl ?_ | refine Run.cond_f rfl ?_ | refine Ops.eql rfl (by decide) rfl rfl ?_ | refine Ops.pure T rfl (by decide) rfl ?_)
    refine Ops.alloc rfl (by decide) (T.zeroOk rfl) rfl (fun b10 => ?_)
    repeat (first | refine Run.seq ?_ | refine Run.region ?_ | refine Ops.nil ?_ | refine Ops.pure T rfl (by decide) rfl ?_)
    refine Ops.callM (M := [_]) ((Repository_UnmarshalText J1 ([34] ++ s ++ [34]) v hv (by first | omega | (simp only [List.length_append, List.length_cons, List.length_nil]; omega)) b10 false [] [])) (.refl _) rfl (by decide) call35 rfl ?_
    rintro u J2 M2 l2 ⟨cs, rfl, ⟨b, r', p', hcs⟩, hx⟩
    subst hcs
    clear hx
    repeat (first | refine Run.seq ?_ | refine Run.region ?_ | refine Ops.nil ?_ | refine Run.cond_t rfl ?_ | refine Ops.pure T rfl (by decide) rfl ?_)
    refine Ops.buildL bd57 rfl (by decide) rfl rfl ?_
    repeat (first | refine Run.region ?_ | refine Ops.nil ?_ | refine Ops.pure T rfl (by decide) rfl ?_ | refine Ops.store 0 rfl rfl rfl rfl rfl (T.sizeOk rfl) rfl (Nat.le_of_ble_eq_true rfl) rfl rfl ?_)
    refine Ops.callM (M := [_]) ((Repository_UnmarshalJSON J2 s r p v db off c (hR0.mono l2) (by omega) hpl hreg b10)) (.refl _) rfl (by decide) call36 rfl ?_
    rintro u2 J3 M3 l3 ⟨rfl, cs, rfl, hcs2⟩
    obtain ⟨q, rfl, hq, _, _, hql⟩ := hcs2
    repeat (first | refine Run.region ?_ | refine Ops.nil ?_ | refine Ops.pure T rfl (by decide) rfl ?_ | refine Ops.loadN 0 rfl (by decide) rfl rfl (T.aggOk rfl) (T.sizeOk rfl) rfl rfl ?_)
    refine Ops.call ((impl_repositoryNamed J3 false r q (by omega) (by omega) hne)) rfl (by decide) call37 rfl ?_
    rintro _ J4 l4 rfl
    rw [hq]
    rw [he]
    repeat (first | refine Run.seq ?_ | refine Run.region ?_ | refine Ops.nil ?_ | refine Run.skip ?_ | refine Run.inBlock ?_ | refine Run.cond_f rfl ?_ | refine Ops.neqNil T rfl (by decide) rfl rfl rfl rfl rfl ?_ | refine Ops.pure T rfl (by decide) rfl ?_ | refine Ops.loadN 1 rfl (by decide) rfl rfl (T.aggOk rfl) (T.sizeOk rfl) rfl rfl ?_ | refine Ops.store 1 rfl rfl rfl rfl rfl (T.sizeOk rfl) rfl (Nat.le_of_ble_eq_true rfl) rfl rfl ?_)
    refine Run.retCT T 1 (by rw [hCf]; exact func9) results9 rfl rfl rfl rfl rfl rfl rfl (hR _ _ _ ?_)
    exact ⟨rfl, [], by rw [he]; rfl⟩
  · obtain ⟨rfl, hreg⟩ := parts_tag h
    obtain ⟨nm, f, sc, cn, ct, rn, he⟩ := nmd_split 3 r p t (by decide)
    refine Spec.enter 62 [(0, _), (1, _), (2, _)] func9 rfl ntmps9 (by simp) rfl ?_
    intro C hCf hR hCI
    repeat (first | refine Run.seq ?_ | refine Run.region ?_)
    refine Ops.alloc rfl (by decide) (T.zeroOk rfl) rfl (fun b6 => ?_)
    repeat (first | refine Run.seq ?_ | refine Run.region ?_ | refine Ops.nil ?_ | refine Ops.pure T rfl (by decide) rfl ?_)
    refine Ops.convBytes T rfl (by decide) rfl rfl rfl rfl fun v J1 l1 hv => ?_
    obtain ⟨db, off, c, hR0⟩ := Rd.of hv (by simp)
    repeat (first | refine Run.seq ?_ | refine Run.region ?_ | refine Ops.nil ?_ | refine Run.block ?_ | refine Run.cond_t rfl ?_ | refine Run.cond_f rfl ?_ | refine Ops.eql rfl (by decide) rfl rfl ?_ | refine Ops.pure T rfl (by decide) rfl ?_)
    refine Ops.alloc rfl (by decide) (T.zeroOk rfl) rfl (fun b10 => ?_)
    repeat (first | refine Run.seq ?_ | refine Run.region ?_ | refine Ops.nil ?_ | refine Ops.pure T rfl (by decide) rfl ?_)
    refine Ops.callM (M := [_]) ((Tag_UnmarshalText J1 ([34] ++ s ++ [34]) v hv (by first | omega | (simp only [List.length_append, List.length_cons, List.length_nil]; omega)) b10 false [] [] [] [])) (.refl _) rfl (by decide) call38 rfl ?_
    rintro u J2 M2 l2 ⟨cs, rfl, ⟨b, r', p', t', s', hcs⟩, hx⟩
    subst hcs
    clear hx
    repeat (first | refine Run.seq ?_ | refine Run.region ?_ | refine Ops.nil ?_ | refine Run.cond_t rfl ?_ | refine Ops.pure T rfl (by decide) rfl ?_)
    refine Ops.buildL bd61 rfl (by decide) rfl rfl ?_
    repeat (first | refine Run.region ?_ | refine Ops.nil ?_ | refine Ops.pure T rfl (by decide) rfl ?_ | refine Ops.store 0 rfl rfl rfl rfl rfl (T.sizeOk rfl) rfl (Nat.le_of_ble_eq_true rfl) rfl rfl ?_)
    refine Ops.callM (M := [_]) ((Tag_UnmarshalJSON J2 s r p t v db off c (hR0.mono l2) (by omega) hpl hreg b10)) (.refl _) rfl (by decide) call39 rfl ?_
    rintro u2 J3 M3 l3 ⟨rfl, cs, rfl, hcs2⟩
    obtain ⟨q, rfl, hq, _, _, hql, htl⟩ := hcs2
    repeat (first | refine Run.region ?_ | refine Ops.nil ?_ | refine Ops.pure T rfl (by decide) rfl ?_ | refine Ops.loadN 0 rfl (by decide) rfl rfl (T.aggOk rfl) (T.sizeOk rfl) rfl rfl ?_)
    refine Ops.call ((impl_tagNamed J3 false r q t s (by omega) (by omega) (by omega) hne)) rfl (by decide) call40 rfl ?_
    rintro _ J4 l4 rfl
    rw [hq]
    rw [he]
    repeat (first | refine Run.seq ?_ | refine Run.region ?_ | refine Ops.nil ?_ | refine Run.skip ?_ | refine Run.inBlock ?_ | refine Run.cond_f rfl ?_ | refine Ops.neqNil T rfl (by decide) rfl rfl rfl rfl rfl ?_ | refine Ops.pure T rfl (by decide) rfl ?_ | refine Ops.loadN 1 rfl (by decide) rfl rfl (T.aggOk rfl) (T.sizeOk rfl) rfl rfl ?_ | refine Ops.store 1 rfl rfl rfl rfl rfl (T.sizeOk rfl) rfl (Nat.le_of_ble_eq_true rfl) rfl rfl ?_)
    refine Run.retCT T 1 (by rw [hCf]; exact func9) results9 rfl rfl rfl rfl rfl rfl rfl (hR _ _ _ ?_)
    exact ⟨rfl, s, by rw [he]; rfl⟩
  · obtain ⟨rfl, hreg⟩ := parts_dig h
    obtain ⟨nm, f, sc, cn, ct, rn, he⟩ := nmd_split 4 r p t (by decide)
    refine Spec.enter 62 [(0, _), (1, _), (2, _)] func9 rfl ntmps9 (by simp) rfl ?_
    intro C hCf hR hCI
    repeat (first | refine Run.seq ?_ | refine Run.region ?_)
    refine Ops.alloc rfl (by decide) (T.zeroOk rfl) rfl (fun b6 => ?_)
    repeat (first | refine Run.seq ?_ | refine Run.region ?_ | refine Ops.nil ?_ | refine Ops.pure T rfl (by decide) rfl ?_)
    refine Ops.convBytes T rfl (by decide) rfl rfl rfl rfl fun v J1 l1 hv => ?_
    obtain ⟨db, off, c, hR0⟩ := Rd.of hv (by simp)
    repeat (first | refine Run.seq ?_ | refine Run.region ?_ | refine Ops.nil ?_ | refine Run.block ?_ | refine Run.cond_t rfl ?_ | refine Run.cond_f rfl ?_ | refine Ops.eql rfl (by decide) rfl rfl ?_ | refine Ops.pure T rfl (by decide) rfl ?_)
    refine Ops.alloc rfl (by decide) (T.zeroOk rfl) rfl (fun b10 => ?_)
    repeat (first | refine Run.seq ?_ | refine Run.region ?_ | refine Ops.nil ?_ | refine Ops.pure T rfl (by decide) rfl ?_)
    refine Ops.callM (M := [_]) ((Digest_UnmarshalText J1 ([34] ++ s ++ [34]) v hv (by first | omega | (simp only [List.length_append, List.length_cons, List.length_nil]; omega)) b10 false [] [] [] [])) (.refl _) rfl (by decide) call41 rfl ?_
    rintro u J2 M2 l2 ⟨cs, rfl, ⟨b, r', p', t', s', hcs⟩, hx⟩
    subst hcs
    clear hx
    repeat (first | refine Run.seq ?_ | refine Run.region ?_ | refine Ops.nil ?_ | refine Run.cond_t rfl ?_ | refine Ops.pure T rfl (by decide) rfl ?_)
    refine Ops.buildL bd65 rfl (by decide) rfl rfl ?_
    repeat (first | refine Run.region ?_ | refine Ops.nil ?_ | refine Ops.pure T rfl (by decide) rfl ?_ | refine Ops.store 0 rfl rfl rfl rfl rfl (T.sizeOk rfl) rfl (Nat.le_of_ble_eq_true rfl) rfl rfl ?_)
    refine Ops.callM (M := [_]) ((Digest_UnmarshalJSON J2 s r p t v db off c (hR0.mono l2) (by omega) hpl hreg b10)) (.refl _) rfl (by decide) call42 rfl ?_
    rintro u2 J3 M3 l3 ⟨rfl, cs, rfl, hcs2⟩
    obtain ⟨q, rfl, hq, _, _, hql, htl⟩ := hcs2
    repeat (first | refine Run.region ?_ | refine Ops.nil ?_ | refine Ops.pure T rfl (by decide) rfl ?_ | refine Ops.loadN 0 rfl (by decide) rfl rfl (T.aggOk rfl) (T.sizeOk rfl) rfl rfl ?_)
    refine Ops.call ((impl_digestNamed J3 false r q t s (by omega) (by omega) (by omega) hne)) rfl (by decide) call43 rfl ?_
    rintro _ J4 l4 rfl
    rw [hq]
    rw [he]
    repeat (first | refine Run.seq ?_ | refine Run.region ?_ | refine Ops.nil ?_ | refine Run.skip ?_ | refine Run.inBlock ?_ | refine Run.cond_f rfl ?_ | refine Ops.neqNil T rfl (by decide) rfl rfl rfl rfl rfl ?_ | refine Ops.pure T rfl (by decide) rfl ?_ | refine Ops.loadN 1 rfl (by decide) rfl rfl (T.aggOk rfl) (T.sizeOk rfl) rfl rfl ?_ | refine Ops.store 1 rfl rfl rfl rfl rfl (T.sizeOk rfl) rfl (Nat.le_of_ble_eq_true rfl) rfl rfl ?_)
    refine Run.retCT T 1 (by rw [hCf]; exact func9) results9 rfl rfl rfl rfl rfl rfl rfl (hR _ _ _ ?_)
    exact ⟨rfl, s, by rw [he]; rfl⟩
end Go.V
namespace Go.V
open Go.Proofs.Tryz
open Go.RowKit
set_option linter.unusedVariables false
set_option linter.unusedSimpArgs false
set_option maxRecDepth 10000
attribute [local irreducible] Run Ops
theorem ubuntu_parts : sParts ⟨false, false, [], []⟩ 0 [117, 98, 117, 110, 116, 117] = (3, hubT, [108, 105, 98, 114, 97, 114, 121, 47, 117, 98, 117, 110, 116, 117], latestT, true, false) := by kernel_rfl
set_option maxHeartbeats 2000000 in
theorem laws_nameAwake (I : Imm) : Pure prog 7 [] I fun w J => w = .bool true := by
  refine Spec.enter 16 [] func7 rfl ntmps7 (by simp) rfl ?_
  intro C hCf hR hCI
  repeat (first | refine Run.seq ?_ | refine Run.region ?_ | refine Ops.nil ?_ | refine Ops.pure T rfl (by decide) rfl ?_)
  refine Ops.buildL bd30 rfl (by decide) rfl rfl ?_
  refine Ops.call ((impl_NameParse I [117, 98, 117, 110, 116, 117] 0 ⟨false, false, [], []⟩ (.inl rfl) (by decide) (.inl rfl))) rfl (by decide) call18 rfl ?_
  rintro _ J1 l1 ⟨a, hres, hans, hlen⟩
  have hans2 := hans _ _ _ _ _ ubuntu_parts
  cases a with
  | none => exact absurd hans2 (by decide)
  | some n =>
    obtain ⟨_, hn⟩ := hans2
    have hres2 : _ = _ := hres
    subst hres2
    obtain ⟨nm, f, sc, cn, ct, rn, he⟩ := nmd_split 3 hubT [108, 105, 98, 114, 97, 114, 121, 47, 117, 98, 117, 110, 116, 117] latestT (by decide)
    have hnm : nm = [105, 110, 100, 101, 120, 46, 100, 111, 99, 107, 101, 114, 46, 105, 111, 47, 108, 105, 98, 114, 97, 114, 121, 47, 117, 98, 117, 110, 116, 117, 58, 108, 97, 116, 101, 115, 116] := by
      have h1 : (nmd true 3 hubT [108, 105, 98, 114, 97, 114, 121, 47, 117, 98, 117, 110, 116, 117] latestT []).name = nm := congrArg Nm.name (he true [])
      rw [← h1]
      rfl
    subst hnm
    rw [he] at hn
    subst hn
    repeat (first | refine Ops.pure T rfl (by decide) rfl ?_)
    refine Ops.alloc rfl (by decide) (T.zeroOk rfl) rfl (fun b1 => ?_)
    repeat (first | refine Run.seq ?_ | refine Run.region ?_ | refine Ops.nil ?_ | refine Ops.eqlStr rfl (by decide) rfl rfl ?_ | refine Ops.pure T rfl (by decide) rfl ?_ | refine Ops.load 0 rfl (by decide) rfl rfl (T.aggOk rfl) rfl ?_ | refine Ops.store 0 rfl rfl rfl rfl rfl (T.sizeOk rfl) rfl (Nat.le_of_ble_eq_true rfl) rfl rfl ?_)
    refine Run.fin (Run.ret1 (by rw [hCf]; exact func7) results7 rfl (hR _ _ _ ?_))
    exact ⟨rfl, rfl⟩
abbrev cdAsk : Cd := .st (.pair .str (.pair .bool (.pair .bool (.pair .str .str))))
def askOf (x : cdAsk.ty) : Ask := let y : Tx × Bool × Bool × Tx × Tx := x; ⟨y.1, y.2.1, y.2.2.1, y.2.2.2.1, y.2.2.2.2⟩
theorem Val.ask {I : Imm} {v : Value} {x : cdAsk.ty} (h : Val cdAsk I v x) : v = .agg (askOf x).cs.toArray := by
  obtain ⟨cs, rfl, h⟩ := h
  obtain ⟨c1, c2, rfl, rfl, c3, c4, rfl, rfl, c5, c6, rfl, rfl, c7, c8, rfl, rfl, rfl⟩ := h
  rfl
end Go.V
namespace Go.V
open Go.Proofs.Tryz
open Go.RowKit
set_option linter.unusedVariables false
set_option linter.unusedSimpArgs false
set_option maxRecDepth 10000
attribute [local irreducible] Run Ops
set_option maxHeartbeats 8000000 in
theorem laws_FnNameTexts (I : Imm) (v : Value) (x : cdAsk.ty) (hv : Val cdAsk I v x) (hx : cdAsk.ok x) (v' : Value) (y : Int) (hv' : Val (.int .u8) I v' y) (hy : (Cd.int .u8).ok y) : Pure prog 3 [v, v'] I fun v _ => v = .bool true := by
  obtain rfl := hv.ask
  obtain rfl : v' = .int .u8 y := hv'.int
  have hy' : 0 ≤ y ∧ y ≤ 255 := okU8 hy
  clear hv hx hv'
  generalize askOf x = a at *
  have hf := laws_zzFits33 I a
  have hfit : a.fits = true → _ := Ask.fits_ok (x := a)
  generalize hb : a.fits = fit at *
  obtain ⟨tx, st, ins, reg, tag⟩ := a
  simp only at hfit
  refine Spec.enter 104 [(0, _), (1, _)] func3 rfl ntmps3 (by simp) rfl ?_
  intro C hCf hR hCI
  repeat (first | refine Run.seq ?_ | refine Run.region ?_)
  refine Ops.box rfl (by decide) rfl rfl (fun b1 => ?_)
  repeat (first | refine Run.seq ?_ | refine Run.region ?_ | refine Ops.nil ?_ | refine Ops.pure T rfl (by decide) rfl ?_ | refine Ops.loadN 0 rfl (by decide) rfl rfl (T.aggOk rfl) (T.sizeOk rfl) rfl rfl ?_)
  refine Ops.call (hf) rfl (by decide) call4 rfl ?_
  rintro _ J1 l1 rfl
  cases fit with
  | false =>
    repeat (first | refine Run.seq ?_ | refine Run.region ?_ | refine Ops.nil ?_ | refine Run.cond_t rfl ?_ | refine Ops.pure T rfl (by decide) rfl ?_)
    refine Run.fin (Run.ret1 (by rw [hCf]; exact func3) results3 rfl (hR _ _ _ ?_))
    exact ⟨rfl, rfl⟩
  | true =>
  obtain ⟨x1, x2, x3⟩ := hfit rfl
  clear hf hfit
  repeat (first | refine Run.seq ?_ | refine Run.region ?_ | refine Ops.nil ?_ | refine Run.skip ?_ | refine Run.cond_f rfl ?_ | refine Ops.pure T rfl (by decide) rfl ?_)
  refine Ops.convInt rfl (by decide) (T.undOk rfl) (T.undOk rfl) rfl (wI (by omega) (by omega)) ?_
  refine Ops.rem rfl (by decide) rfl rfl (by decide) (Int.tmod_eq_emod_of_nonneg hy'.1) ?_
  refine Ops.ev (Ev.addK (r := 1 + y % 4) rfl rfl (wI (by omega) (by omega))) rfl (by decide) ?_
  have hw4 : 1 + y % 4 = 1 ∨ 1 + y % 4 = 2 ∨ 1 + y % 4 = 3 ∨ 1 + y % 4 = 4 := by omega
  generalize 1 + y % 4 = w at *
  have hw5 : w = 0 ∨ w = 1 ∨ w = 2 ∨ w = 3 ∨ w = 4 := .inr hw4
  repeat (first | refine Run.seq ?_ | refine Run.region ?_ | refine Ops.nil ?_ | refine Ops.pure T rfl (by decide) rfl ?_ | refine Ops.load 0 rfl (by decide) rfl rfl (T.aggOk rfl) rfl ?_)
  refine Ops.buildL bd30 rfl (by decide) rfl rfl ?_
  refine Ops.call ((spec_NameRead J1 tx w noO (by omega) (.inl rfl) (by decide) hw5)) rfl (by decide) call5 rfl ?_
  rintro _ J2 l2 rfl
  unfold nrV
  rcases hsp : sParts noO w tx with ⟨k, r, p, t, ok, op⟩
  have hread : sRead noO w tx = if !ok || op then (Nm.zero, ok, op) else (nmd (localF r) k r p t tx, true, false) := by unfold sRead; rw [hsp]; rfl
  cases op with
  | true =>
    have hread2 : sRead noO w tx = (Nm.zero, ok, true) := by rw [hread]; cases ok <;> rfl
    rw [hread2]
    repeat (first | refine Ops.pure T rfl (by decide) rfl ?_)
    refine Ops.alloc rfl (by decide) (T.zeroOk rfl) rfl (fun b6 => ?_)
    cases ok with
    | true =>
      repeat (first | refine Run.seq ?_ | refine Run.region ?_ | refine Ops.nil ?_ | refine Run.cond_t rfl ?_ | refine Ops.not rfl (by decide) ?_ | refine Ops.notU rfl (by decide) ?_ | refine Ops.pure T rfl (by decide) rfl ?_ | refine Ops.store 0 rfl rfl rfl rfl rfl (T.sizeOk rfl) rfl (Nat.le_of_ble_eq_true rfl) rfl rfl ?_)
      refine Ops.call ((laws_nameAwake _)) rfl (by decide) call7 rfl ?_
      rintro _ J5 l5 rfl
      repeat (first | refine Ops.nil ?_ | refine Ops.pure T rfl (by decide) rfl ?_)
      refine Run.fin (Run.ret1 (by rw [hCf]; exact func3) results3 rfl (hR _ _ _ ?_))
      exact ⟨rfl, rfl⟩
    | false =>
      repeat (first | refine Run.seq ?_ | refine Run.region ?_ | refine Ops.nil ?_ | refine Run.cond_t rfl ?_ | refine Ops.not rfl (by decide) ?_ | refine Ops.notU rfl (by decide) ?_ | refine Ops.pure T rfl (by decide) rfl ?_ | refine Ops.store 0 rfl rfl rfl rfl rfl (T.sizeOk rfl) rfl (Nat.le_of_ble_eq_true rfl) rfl rfl ?_)
      refine Ops.call ((laws_nameAwake _)) rfl (by decide) call7 rfl ?_
      rintro _ J5 l5 rfl
      repeat (first | refine Ops.nil ?_ | refine Ops.pure T rfl (by decide) rfl ?_)
      refine Run.fin (Run.ret1 (by rw [hCf]; exact func3) results3 rfl (hR _ _ _ ?_))
      exact ⟨rfl, rfl⟩
  | false =>
  cases ok with
  | false =>
    have hread2 : sRead noO w tx = (Nm.zero, false, false) := by rw [hread]; rfl
    rw [hread2]
    repeat (first | refine Ops.pure T rfl (by decide) rfl ?_)
    refine Ops.alloc rfl (by decide) (T.zeroOk rfl) rfl (fun b6 => ?_)
    repeat (first | refine Run.seq ?_ | refine Run.region ?_ | refine Ops.nil ?_ | refine Run.cond_t rfl ?_ | refine Ops.not rfl (by decide) ?_ | refine Ops.notU rfl (by decide) ?_ | refine Ops.pure T rfl (by decide) rfl ?_ | refine Ops.store 0 rfl rfl rfl rfl rfl (T.sizeOk rfl) rfl (Nat.le_of_ble_eq_true rfl) rfl rfl ?_)
    refine Ops.call ((laws_nameAwake _)) rfl (by decide) call7 rfl ?_
    rintro _ J5 l5 rfl
    repeat (first | refine Ops.nil ?_ | refine Ops.pure T rfl (by decide) rfl ?_)
    refine Run.fin (Run.ret1 (by rw [hCf]; exact func3) results3 rfl (hR _ _ _ ?_))
    exact ⟨rfl, rfl⟩
  | true =>
    obtain ⟨hP, hk⟩ := sParts_len (o := noO) (.inl rfl) (by decide) hsp
    obtain ⟨q1, q2, q3, q4⟩ := id hP
    have q5 := plain_len q1
    have hread2 : sRead noO w tx = (nmd (localF r) k r p t tx, true, false) := by rw [hread]; rfl
    rw [hread2]
    have hsch : loose r = false → schemeT (pHttp r) = schemeT (localF r) := fun hl => by rw [http_eq q1 hl]
    obtain ⟨hplain, hw⟩ := self_plain hw4 hsp
    subst hw
    obtain ⟨nm, f, sc, cn, ct, rn, he⟩ := nmd_split k r p t hk
    have hne : r ≠ [] := sParts_ne hsp hw4
    rw [he]
    repeat (first | refine Ops.pure T rfl (by decide) rfl ?_)
    refine Ops.alloc rfl (by decide) (T.zeroOk rfl) rfl (fun b6 => ?_)
    repeat (first | refine Run.seq ?_ | refine Run.region ?_ | refine Ops.nil ?_ | refine Ops.gtr rfl (by decide) rfl rfl ?_ | refine Ops.pure T rfl (by decide) rfl ?_ | refine Ops.lenS T rfl (by decide) rfl rfl ?_ | refine Ops.load 1 rfl (by decide) rfl rfl (T.aggOk rfl) rfl ?_ | refine Ops.store 0 rfl rfl rfl rfl rfl (T.sizeOk rfl) rfl (Nat.le_of_ble_eq_true rfl) rfl rfl ?_)
    cases h1 : decide ((1000 : Int) < tx.length) with
    | true =>
      repeat (first | refine Run.seq ?_ | refine Run.region ?_ | refine Ops.nil ?_ | refine Run.cond_t rfl ?_ | refine Ops.not rfl (by decide) ?_ | refine Ops.notU rfl (by decide) ?_ | refine Ops.pure T rfl (by decide) rfl ?_)
      refine Ops.call ((laws_nameAwake _)) rfl (by decide) call7 rfl ?_
      rintro _ J5 l5 rfl
      repeat (first | refine Ops.nil ?_ | refine Ops.pure T rfl (by decide) rfl ?_)
      refine Run.fin (Run.ret1 (by rw [hCf]; exact func3) results3 rfl (hR _ _ _ ?_))
      exact ⟨rfl, rfl⟩
    | false =>
    have h1' := of_decide_eq_false h1
    repeat (first | refine Ops.gtr rfl (by decide) rfl rfl ?_ | refine Ops.pure T rfl (by decide) rfl ?_ | refine Ops.lenS T rfl (by decide) rfl rfl ?_ | refine Ops.load 0 rfl (by decide) rfl rfl (T.aggOk rfl) rfl ?_)
    cases h2 : decide ((255 : Int) < p.length) with
    | true =>
      repeat (first | refine Run.seq ?_ | refine Run.region ?_ | refine Ops.nil ?_ | refine Run.cond_t rfl ?_ | refine Ops.not rfl (by decide) ?_ | refine Ops.notU rfl (by decide) ?_ | refine Ops.pure T rfl (by decide) rfl ?_)
      refine Ops.call ((laws_nameAwake _)) rfl (by decide) call7 rfl ?_
      rintro _ J5 l5 rfl
      repeat (first | refine Ops.nil ?_ | refine Ops.pure T rfl (by decide) rfl ?_)
      refine Run.fin (Run.ret1 (by rw [hCf]; exact func3) results3 rfl (hR _ _ _ ?_))
      exact ⟨rfl, rfl⟩
    | false =>
    have h2' := of_decide_eq_false h2
    have hagain := self_again hw4 hsp (by omega)
    have hselfl : (selfT k tx r p).length ≤ 1000 := self_len (t := t) (by omega) q5 (by omega)
    repeat (first | refine Ops.neq rfl (by decide) rfl rfl ?_ | refine Ops.pure T rfl (by decide) rfl ?_ | refine Ops.load 0 rfl (by decide) rfl rfl (T.aggOk rfl) rfl ?_)
    cases hk1 : decide (k = 1) with
    | true =>
      repeat (first | refine Run.seq ?_ | refine Run.region ?_ | refine Ops.nil ?_ | refine Run.skip ?_ | refine Run.cond_f rfl ?_ | refine Ops.not rfl (by decide) ?_ | refine Ops.pure T rfl (by decide) rfl ?_ | refine Ops.load 1 rfl (by decide) rfl rfl (T.aggOk rfl) rfl ?_)
      refine Ops.call ((impl_NameText J2 tx r p t k k hw4 hsp (by omega) q5 (by omega) hne)) rfl (by decide) call8 rfl ?_
      rintro _ J3 l3 rfl
      repeat (first | refine Run.seq ?_ | refine Run.region ?_ | refine Ops.nil ?_ | refine Ops.pure T rfl (by decide) rfl ?_)
      refine Ops.call ((impl_NameOfT J3 _ r p t k k hw4 hagain hselfl q5 (by omega) hne)) rfl (by decide) call9 rfl ?_
      rintro _ J4 l4 ⟨xa, rfl⟩
      rw [he]
      repeat (first | refine Ops.pure T rfl (by decide) rfl ?_)
      refine Ops.alloc rfl (by decide) (T.zeroOk rfl) rfl (fun b12 => ?_)
      repeat (first | refine Run.seq ?_ | refine Run.region ?_ | refine Ops.nil ?_ | refine Ops.pure T rfl (by decide) rfl ?_ | refine Ops.store 0 rfl rfl rfl rfl rfl (T.sizeOk rfl) rfl (Nat.le_of_ble_eq_true rfl) rfl rfl ?_)
      refine Ops.call ((impl_NameOfJ J4 _ r p t k k hw4 hagain hselfl q5 (by omega) hne hplain)) rfl (by decide) call9 rfl ?_
      rintro _ J5 l5 ⟨xb, rfl⟩
      rw [he]
      repeat (first | refine Ops.pure T rfl (by decide) rfl ?_)
      refine Ops.alloc rfl (by decide) (T.zeroOk rfl) rfl (fun b14 => ?_)
      repeat (first | refine Run.seq ?_ | refine Run.region ?_ | refine Ops.nil ?_ | refine Ops.pure T rfl (by decide) rfl ?_ | refine Ops.loadN 1 rfl (by decide) rfl rfl (T.aggOk rfl) (T.sizeOk rfl) rfl rfl ?_ | refine Ops.loadN 2 rfl (by decide) rfl rfl (T.aggOk rfl) (T.sizeOk rfl) rfl rfl ?_ | refine Ops.store 0 rfl rfl rfl rfl rfl (T.sizeOk rfl) rfl (Nat.le_of_ble_eq_true rfl) rfl rfl ?_ | refine Ops.store 1 rfl rfl rfl rfl rfl (T.sizeOk rfl) rfl (Nat.le_of_ble_eq_true rfl) rfl rfl ?_ | refine Ops.store 2 rfl rfl rfl rfl rfl (T.sizeOk rfl) rfl (Nat.le_of_ble_eq_true rfl) rfl rfl ?_)
      refine Ops.call ((laws_sameName J5 k r p t nm [] (schemeT (pHttp r)) (schemeT (localF r)) sc cn ct rn (by omega) hsch)) rfl (by decide) call10 rfl ?_
      rintro _ J6 l6 rfl
      repeat (first | refine Ops.pure T rfl (by decide) rfl ?_ | refine Ops.loadN 0 rfl (by decide) rfl rfl (T.aggOk rfl) (T.sizeOk rfl) rfl rfl ?_ | refine Ops.loadN 2 rfl (by decide) rfl rfl (T.aggOk rfl) (T.sizeOk rfl) rfl rfl ?_)
      refine Ops.call ((laws_sameName J6 k r p t nm [] (schemeT (pHttp r)) (schemeT (localF r)) sc cn ct rn (by omega) hsch)) rfl (by decide) call10 rfl ?_
      rintro _ J7 l7 rfl
      repeat (first | refine Ops.pure T rfl (by decide) rfl ?_)
      refine Ops.call ((laws_nameAwake _)) rfl (by decide) call7 rfl ?_
      rintro _ J5 l5 rfl
      repeat (first | refine Ops.nil ?_ | refine Ops.pure T rfl (by decide) rfl ?_)
      refine Run.fin (Run.ret1 (by rw [hCf]; exact func3) results3 rfl (hR _ _ _ ?_))
      exact ⟨rfl, rfl⟩
    | false =>
    repeat (first | refine Ops.pure T rfl (by decide) rfl ?_ | refine Ops.load 0 rfl (by decide) rfl rfl (T.aggOk rfl) rfl ?_)
    refine Ops.call ((spec_HostNamed J2 r (by omega))) rfl (by decide) call6 rfl ?_
    rintro _ J8 l8 rfl
    cases hh : hostNamed r with
    | true =>
      repeat (first | refine Run.seq ?_ | refine Run.region ?_ | refine Ops.nil ?_ | refine Run.skip ?_ | refine Run.cond_f rfl ?_ | refine Ops.pure T rfl (by decide) rfl ?_ | refine Ops.load 1 rfl (by decide) rfl rfl (T.aggOk rfl) rfl ?_)
      refine Ops.call ((impl_NameText J8 tx r p t k k hw4 hsp (by omega) q5 (by omega) hne)) rfl (by decide) call8 rfl ?_
      rintro _ J3 l3 rfl
      repeat (first | refine Run.seq ?_ | refine Run.region ?_ | refine Ops.nil ?_ | refine Ops.pure T rfl (by decide) rfl ?_)
      refine Ops.call ((impl_NameOfT J3 _ r p t k k hw4 hagain hselfl q5 (by omega) hne)) rfl (by decide) call9 rfl ?_
      rintro _ J4 l4 ⟨xa, rfl⟩
      rw [he]
      repeat (first | refine Ops.pure T rfl (by decide) rfl ?_)
      refine Ops.alloc rfl (by decide) (T.zeroOk rfl) rfl (fun b12 => ?_)
      repeat (first | refine Run.seq ?_ | refine Run.region ?_ | refine Ops.nil ?_ | refine Ops.pure T rfl (by decide) rfl ?_ | refine Ops.store 0 rfl rfl rfl rfl rfl (T.sizeOk rfl) rfl (Nat.le_of_ble_eq_true rfl) rfl rfl ?_)
      refine Ops.call ((impl_NameOfJ J4 _ r p t k k hw4 hagain hselfl q5 (by omega) hne hplain)) rfl (by decide) call9 rfl ?_
      rintro _ J5 l5 ⟨xb, rfl⟩
      rw [he]
      repeat (first | refine Ops.pure T rfl (by decide) rfl ?_)
      refine Ops.alloc rfl (by decide) (T.zeroOk rfl) rfl (fun b14 => ?_)
      repeat (first | refine Run.seq ?_ | refine Run.region ?_ | refine Ops.nil ?_ | refine Ops.pure T rfl (by decide) rfl ?_ | refine Ops.loadN 1 rfl (by decide) rfl rfl (T.aggOk rfl) (T.sizeOk rfl) rfl rfl ?_ | refine Ops.loadN 2 rfl (by decide) rfl rfl (T.aggOk rfl) (T.sizeOk rfl) rfl rfl ?_ | refine Ops.store 0 rfl rfl rfl rfl rfl (T.sizeOk rfl) rfl (Nat.le_of_ble_eq_true rfl) rfl rfl ?_ | refine Ops.store 1 rfl rfl rfl rfl rfl (T.sizeOk rfl) rfl (Nat.le_of_ble_eq_true rfl) rfl rfl ?_ | refine Ops.store 2 rfl rfl rfl rfl rfl (T.sizeOk rfl) rfl (Nat.le_of_ble_eq_true rfl) rfl rfl ?_)
      refine Ops.call ((laws_sameName J5 k r p t nm [] (schemeT (pHttp r)) (schemeT (localF r)) sc cn ct rn (by omega) hsch)) rfl (by decide) call10 rfl ?_
      rintro _ J6 l6 rfl
      repeat (first | refine Ops.pure T rfl (by decide) rfl ?_ | refine Ops.loadN 0 rfl (by decide) rfl rfl (T.aggOk rfl) (T.sizeOk rfl) rfl rfl ?_ | refine Ops.loadN 2 rfl (by decide) rfl rfl (T.aggOk rfl) (T.sizeOk rfl) rfl rfl ?_)
      refine Ops.call ((laws_sameName J6 k r p t nm [] (schemeT (pHttp r)) (schemeT (localF r)) sc cn ct rn (by omega) hsch)) rfl (by decide) call10 rfl ?_
      rintro _ J7 l7 rfl
      repeat (first | refine Ops.pure T rfl (by decide) rfl ?_)
      refine Ops.call ((laws_nameAwake _)) rfl (by decide) call7 rfl ?_
      rintro _ J5 l5 rfl
      repeat (first | refine Ops.nil ?_ | refine Ops.pure T rfl (by decide) rfl ?_)
      refine Run.fin (Run.ret1 (by rw [hCf]; exact func3) results3 rfl (hR _ _ _ ?_))
      exact ⟨rfl, rfl⟩
    | false =>
      repeat (first | refine Run.seq ?_ | refine Run.region ?_ | refine Ops.nil ?_ | refine Run.cond_t rfl ?_ | refine Ops.pure T rfl (by decide) rfl ?_)
      refine Ops.call ((laws_nameAwake _)) rfl (by decide) call7 rfl ?_
      rintro _ J5 l5 rfl
      repeat (first | refine Ops.nil ?_ | refine Ops.pure T rfl (by decide) rfl ?_)
      refine Run.fin (Run.ret1 (by rw [hCf]; exact func3) results3 rfl (hR _ _ _ ?_))
      exact ⟨rfl, rfl⟩
end Go.V
