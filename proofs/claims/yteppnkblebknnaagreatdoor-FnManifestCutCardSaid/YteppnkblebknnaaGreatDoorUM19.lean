import Derived.Test.YteppnkblebknnaaGreatDoorUM18
import Derived.Test.YteppnkblebknnaaGreatDoorUM12
set_option linter.unusedVariables false
set_option linter.unusedSimpArgs false
namespace Go.V
open Go.Proofs.Tryz
open Go.RowKit
set_option maxRecDepth 10000
attribute [local irreducible] Run Ops QD
theorem u8_ok {n : Int} (h : (Cd.int .u8).ok n) : 0 ≤ n ∧ n ≤ 255 := by
 have h' : (Lit.int .u8 n).wf = true := h
 simp [Lit.wf, IntKind.min, IntKind.max, IntKind.signed, IntKind.bits] at h'
 omega
theorem u16_ok {n : Int} (h : (Cd.int .u16).ok n) : 0 ≤ n ∧ n ≤ 65535 := by
 have h' : (Lit.int .u16 n).wf = true := h
 simp [Lit.wf, IntKind.min, IntKind.max, IntKind.signed, IntKind.bits] at h'
 omega
theorem i64_ok {n : Int} (h : (Cd.int .i64).ok n) : -9223372036854775808 ≤ n ∧ n ≤ 9223372036854775807 := by
 have h' : (Lit.int .i64 n).wf = true := h
 simp [Lit.wf, IntKind.min, IntKind.max, IntKind.signed, IntKind.bits] at h'
 omega
theorem bytesNsl {I : Imm} {v : Value} {x : Option (List Int)} (h : Val (.nsl (.int .u8)) I v x) (hx : (Cd.nsl (.int .u8)).ok x) : ∃ ws : Bs, Sl tU8 I v ws := by
 have h' : (tNSl (tInt .u8)).rel I [v] x := h
 cases x with
 | none =>
  have e : [v] = [.slice none 0 0] := h'
  obtain rfl : v = .slice none 0 0 := by simpa using e
  exact ⟨[], Sl.nil _ _⟩
 | some l =>
  obtain ⟨a, c, h1, h2, h3⟩ := h'
  obtain rfl : v = .slice (some a) l.length c := by simpa using h1
  have hok : ∀ n ∈ l, (Cd.int .u8).ok n := (hx l rfl).2
  refine ⟨l.map fun n => UInt8.ofNat n.toNat, some a, c, by rw [List.length_map], by rw [List.length_map]; exact h2, ?_⟩
  rcases h3 with rfl | ⟨b, off, rfl, h4⟩
  ·exact .inl rfl
  ·refine .inr ⟨b, off, rfl, fun j y hy => ?_⟩
   rw [List.getElem?_map] at hy
   cases hj : l[j]? with
   | none => rw [hj] at hy; cases hy
   | some n =>
    rw [hj] at hy
    obtain rfl : UInt8.ofNat n.toNat = y := Option.some.inj hy
    obtain ⟨cs, hr, hA⟩ := h4 j n hj
    obtain rfl : cs = [.int .u8 n] := hr
    have hn := u8_ok (hok n (List.mem_of_getElem? hj))
    refine ⟨_, ?_, hA⟩
    show [Value.int .u8 n] = [Value.int .u8 ((UInt8.ofNat n.toNat).toNat : Int)]
    rw [ofNat_nat (by omega)]
    have : ((n.toNat : Nat) : Int) = n := by omega
    rw [this]
abbrev cdPf : Cd := .st (.pair .str (.pair .str (.pair .str (.pair .str (.pair (.nsl .str) (.nsl .str))))))
abbrev cdK2 : Cd := .st (.pair .str .str)
abbrev cdDs : Cd := .st (.pair .str (.pair (.int .i64) (.pair cdK2 (.pair .str (.pair (.nsl .str) (.pair (.nsl cdK2) (.pair (.nsl cdPf) .str)))))))
abbrev cdMf : Cd := .st (.pair .bool (.pair (.int .i64) (.pair .str (.pair cdDs (.pair (.nsl cdDs) (.pair (.nsl cdK2) (.pair (.nsl cdDs) .str)))))))
theorem nsl_map {α β : Type} {t : Ty α} {t' : Ty β} {I : Imm} {cs : List Value} {x : Option (List α)} (φ : α → β) (hs : t'.size = t.size) (hφ : ∀ cs x, t.rel I cs x → t'.rel I cs (φ x)) (h : (tNSl t).rel I cs x) : ∃ A n c, cs = [.slice A n c] ∧ Sl t' I (.slice A n c) ((x.getD []).map φ) := by
 cases x with
 | none => exact ⟨none, 0, 0, h, Sl.nil _ _⟩
 | some xs =>
  obtain ⟨a, c, h1, h2, h3⟩ := h
  have hS : Sl t I (.slice (some a) xs.length c) xs := ⟨some a, c, rfl, h2, h3.imp id fun ⟨b, off, h4, h5⟩ => ⟨b, off, by rw [h4], h5⟩⟩
  exact ⟨some a, xs.length, c, h1, hS.map φ hs hφ⟩
theorem nsl_len {α β : Type} {t : Ty α} {t' : Ty β} {I : Imm} {cs : List Value} {x : Option (List α)} (φ : α → β) (hs : t'.size = t.size) (hφ : ∀ cs x, t.rel I cs x → t'.rel I cs (φ x)) (h : (tNSl t).rel I cs x) : ∃ A c, cs = [.slice A ((x.getD []).map φ).length c] ∧ Sl t' I (.slice A ((x.getD []).map φ).length c) ((x.getD []).map φ) := by
 obtain ⟨A, n, c, rfl, hS⟩ := nsl_map φ hs hφ h
 obtain ⟨A', c', e⟩ := hS.isSl
 cases e
 exact ⟨A, c, rfl, hS⟩
theorem rel_k2 {I : Imm} (cs : List Value) (x : cdK2.ty) (h : cdK2.T.rel I cs x) : tK2.rel I cs (x : K2) := by
 obtain ⟨c1, c2, rfl, h1, h2⟩ := h
 have e1 : c1 = [str x.1] := h1
 have e2 : c2 = [str x.2] := h2
 subst e1 e2
 rfl
theorem rel_str {I : Imm} (cs : List Value) (x : List UInt8) (h : (Cd.str).T.rel I cs x) : tStr.rel I cs x := h
def asTx (x : Option (List Bs)) : List Bs := (x.getD []).map fun y : Bs => y
def asPf (x : cdPf.ty) : PfL := (⟨x.1, x.2.1, x.2.2.1, x.2.2.2.1⟩, asTx x.2.2.2.2.1, asTx x.2.2.2.2.2)
theorem rel_pf {I : Imm} (cs : List Value) (x : cdPf.ty) (h : cdPf.T.rel I cs x) : tPf.rel I cs (asPf x) := by
 obtain ⟨c1, c2, rfl, rfl, c3, c4, rfl, rfl, c5, c6, rfl, rfl, c7, c8, rfl, rfl, c9, c10, rfl, hf, hg⟩ := h
 obtain ⟨A, a, rfl, hu⟩ := nsl_len (t' := tStr) (fun x : Bs => x) rfl rel_str hf
 obtain ⟨B, b, rfl, hw⟩ := nsl_len (t' := tStr) (fun x : Bs => x) rfl rel_str hg
 exact ⟨A, a, B, b, rfl, hu, hw⟩
def asK2 (x : cdK2.ty) : K2 := (x.1, x.2)
def asDs (x : cdDs.ty) : Ds := ⟨x.1, x.2.1, (x.2.2.1.1, x.2.2.1.2), x.2.2.2.1, asTx x.2.2.2.2.1, (Option.getD (x.2.2.2.2.2.1 : Option (List cdK2.ty)) []).map asK2, (Option.getD (x.2.2.2.2.2.2.1 : Option (List cdPf.ty)) []).map asPf, x.2.2.2.2.2.2.2⟩
theorem rel_ds {I : Imm} (cs : List Value) (x : cdDs.ty) (h : cdDs.T.rel I cs x) : tDs.rel I cs (asDs x) := by
 obtain ⟨c1, c2, rfl, rfl, c3, c4, rfl, rfl, c5, c6, rfl, ⟨d1, d2, rfl, rfl, rfl⟩, c7, c8, rfl, rfl, c9, c10, rfl, hf, c11, c12, rfl, hg, c13, c14, rfl, hh, rfl⟩ := h
 obtain ⟨A1, a1, rfl, h1⟩ := nsl_len (t' := tStr) (fun x : Bs => x) rfl rel_str hf
 obtain ⟨A2, a2, rfl, h2⟩ := nsl_len (t := cdK2.T) (t' := tK2) asK2 rfl (fun cs x h => rel_k2 cs x h) hg
 obtain ⟨A3, a3, rfl, h3⟩ := nsl_len (t' := tPf) asPf rfl rel_pf hh
 exact ⟨A1, a1, A2, a2, A3, a3, rfl, h1, h2, h3⟩
theorem size_ds {x : cdDs.ty} (h : cdDs.ok x) : -9223372036854775808 ≤ (asDs x).size ∧ (asDs x).size ≤ 9223372036854775807 := i64_ok h.2.1
theorem size_dss {x : Option (List cdDs.ty)} (h : (Cd.nsl cdDs).ok x) : ∀ y ∈ (x.getD []).map asDs, -9223372036854775808 ≤ y.size ∧ y.size ≤ 9223372036854775807 := by
 intro y hy
 obtain ⟨z, hz, rfl⟩ := List.mem_map.1 hy
 cases x with
 | none => cases hz
 | some l => exact size_ds ((h l rfl).2 z hz)
theorem Val.mf {I : Imm} {v : Value} {x : cdMf.ty} (h : Val cdMf I v x) (k : cdMf.ok x) : ∃ (m : Mf) (A1 : Option Addr) (n1 c1 : Nat) (A2 : Option Addr) (n2 c2 : Nat) (A3 : Option Addr) (n3 c3 : Nat) (A4 : Option Addr) (n4 c4 : Nat) (A5 : Option Addr) (n5 c5 : Nat) (A6 : Option Addr) (n6 c6 : Nat),
  v = .agg (m.cs (.slice A1 n1 c1) (.slice A2 n2 c2) (.slice A3 n3 c3) (.slice A4 n4 c4) (.slice A5 n5 c5) (.slice A6 n6 c6)).toArray ∧ MfL I m (.slice A1 n1 c1) (.slice A2 n2 c2) (.slice A3 n3 c3) (.slice A4 n4 c4) (.slice A5 n5 c5) (.slice A6 n6 c6) ∧ szM m := by
 obtain ⟨cs, rfl, h⟩ := h
 obtain ⟨c1, c2, rfl, rfl, c3, c4, rfl, rfl, c5, c6, rfl, rfl, c7, c8, rfl, hd, c9, c10, rfl, hl, c11, c12, rfl, ha, c13, c14, rfl, hs, rfl⟩ := h
 obtain ⟨A1, a1, A2, a2, A3, a3, rfl, h1⟩ := rel_ds _ _ hd
 obtain ⟨A4, a4, rfl, h4⟩ := nsl_len (t' := tDs) asDs rfl rel_ds hl
 obtain ⟨A5, a5, rfl, h5⟩ := nsl_len (t := cdK2.T) (t' := tK2) asK2 rfl (fun cs x h => rel_k2 cs x h) ha
 obtain ⟨A6, a6, rfl, h6⟩ := nsl_len (t' := tDs) asDs rfl rel_ds hs
 obtain ⟨k1, k2, k3, k4, k5, k6, k7, k8⟩ := k
 refine ⟨⟨x.1, x.2.1, x.2.2.1, asDs x.2.2.2.1, _, _, _, x.2.2.2.2.2.2.2⟩, _, _, _, _, _, _, _, _, _, _, _, _, _, _, _, _, _, _, rfl, ⟨h1, h4, h5, h6⟩, ?_, i64_ok k2⟩
 intro y hy
 rcases List.mem_append.1 hy with hy | hy
 ·rcases List.mem_append.1 hy with hy | hy
  ·exact size_dss k5 y hy
  ·exact size_dss k7 y hy
 ·obtain rfl := List.mem_singleton.1 hy
  exact size_ds k4
theorem okD_of {x : Ds} (h : goodD x) (hf : fitDs x) (hz : -9223372036854775808 ≤ x.size ∧ x.size ≤ 9223372036854775807) : okD x := by
 obtain ⟨g1, g2, g3, g4, g5, g6, g7, g8⟩ := h
 refine ⟨by omega, by omega, ?_, by omega, hf.2.1, hz⟩
 cases hp : x.plats with
 | nil => intro y hy; cases hy
 | cons y r =>
  have hr : r = [] := by
   rw [hp, List.length_cons] at g3
   exact List.eq_nil_of_length_eq_zero (by omega)
  subst hr
  intro z hz
  obtain rfl := List.mem_singleton.1 hz
  have h1 : (pTexts [z]).length ≤ 60 := by
   have := g7
   unfold dTexts at this
   rw [List.length_append, hp] at this; omega
  simp only [pTexts, List.flatMap_cons, List.flatMap_nil, List.append_nil, List.length_append, List.length_cons, List.length_nil] at h1
  omega
theorem okM_of {m : Mf} (h : goodM m) (hf : fitMf m) (hz : szM m) : okM m := by
 obtain ⟨g1, g2, g3, g4, g5, g6, g7⟩ := h
 obtain ⟨f1, f2, f3, f4, f5, f6⟩ := hf
 have hal := aTexts_len m.anns
 rw [List.length_append] at g6
 exact ⟨fun x hx => okD_of (g1 x (by simp [hx])) (f3.2 x hx) (hz.1 x (by simp [hx])), fun x hx => okD_of (g1 x (by simp [hx])) (f5.2 x hx) (hz.1 x (by simp [hx])), fun hi => okD_of (g2 hi) f2 (hz.1 _ (by simp)), by omega, by omega, hz.2⟩
set_option maxHeartbeats 2000000 in
theorem laws_FnManifestCut (I : Imm) (v0 : Value) (x : cdMf.ty) (h0 : Val cdMf I v0 x) (k0 : cdMf.ok x) (v1 : Value) (ys : Option (List Int)) (h1 : Val (.nsl (.int .u8)) I v1 ys) (k1 : (Cd.nsl (.int .u8)).ok ys) (v2 : Value) (q0 : Int) (h2 : Val (.int .u16) I v2 q0) (k2 : (Cd.int .u16).ok q0) (hU : UT I) (a0 : Addr) (hE : At I 2 0 [eofV a0]) :
  Pure prog 4 [v0, v1, v2] I fun v _ => v = .bool true := by
 obtain ⟨m, A1, n1, c1, A2, n2, c2, A3, n3, c3, A4, n4, c4, A5, n5, c5, A6, n6, c6, rfl, hL, hz⟩ := h0.mf k0
 obtain ⟨ws, hS⟩ := bytesNsl h1 k1
 obtain ⟨A7, c7, rfl⟩ := hS.isSl
 obtain rfl : v2 = .int .u16 q0 := h2.int
 have hq0 := u16_ok k2
 clear h0 k0 h1 k1 h2 k2
 refine Spec.enter 52 [(0, _), (1, _), (2, _)] func4 rfl ntmps4 (by simp) rfl ?_
 intro C hCf hR hCI
 refine Run.seq ?_
 refine Run.region ?_
 refine Ops.box rfl dc rfl rfl (fun b0 => ?_)
 refine Ops.pure T rfl dc rfl ?_
 refine Ops.nil ?_
 repeat refine Run.seq ?_
 refine Run.regionP (D := [some 11, some 12, some 13, some 14, some 15, some 16, some 17, some 18]) [true] 1 rfl rfl rfl (by simp only [List.drop_succ_cons, List.drop_zero]; rfl) (fun Z hZ => ?_)
 refine QD.yv dc rfl (Yv.loadN 0 T rfl rfl rfl rfl rfl rfl) ?_
 refine QD.nil (hZ _ ?_)
 clear hZ Z
 refine Ops.call ((laws_zzFits28 I m _ _ _ _ _ _ _ _ _ _ _ _ _ _ _ _ _ _ hL)) rfl dc call18 rfl ?_
 rintro _ J1 l1 ⟨q, rfl, hf⟩
 cases q with
 | false =>
  skip
  iterate 2 refine Ops.pure T rfl dc rfl ?_
  iterate 3 refine Ops.not rfl dc ?_
  refine Ops.pure T rfl dc rfl ?_
  refine Ops.nil ?_
  repeat (first | refine Run.seq ?_ | refine Run.cond_t rfl ?_)
  refine Run.regionO (D := [some 6]) [true] rfl rfl rfl (fun Z hZ => ?_)
  refine q1 dc rfl rfl ?_
  refine QD.nil (hZ _ ?_)
  clear hZ Z
  skip
  refine Run.fin (Run.ret1 (by rw [hCf]; exact func4) results4 rfl (hR _ _ _ ?_))
  exact ⟨rfl, rfl⟩
 | true =>
 have hfit := hf rfl
 by_cases hw : 2147483647 < ws.length
 ·skip
  skip
  iterate 4 refine Ops.pure T rfl dc rfl ?_
  refine Ops.ev ((Ev.gtr rfl rfl).as (congrArg Value.bool (decide_eq_true (by omega)))) rfl dc ?_
  refine Ops.pure T rfl dc rfl ?_
  refine Ops.nil ?_
  repeat (first | refine Run.seq ?_ | refine Run.cond_t rfl ?_)
  refine Run.regionO (D := [some 6]) [true] rfl rfl rfl (fun Z hZ => ?_)
  refine q1 dc rfl rfl ?_
  refine QD.nil (hZ _ ?_)
  clear hZ Z
  skip
  refine Run.fin (Run.ret1 (by rw [hCf]; exact func4) results4 rfl (hR _ _ _ ?_))
  exact ⟨rfl, rfl⟩
 skip
 iterate 4 refine Ops.pure T rfl dc rfl ?_
 refine Ops.ev ((Ev.gtr rfl rfl).as (congrArg Value.bool (decide_eq_false (by omega)))) rfl dc ?_
 refine Ops.pure T rfl dc rfl ?_
 refine Ops.nil ?_
 repeat (first | refine Run.seq ?_ | refine Run.skip ?_ | refine Run.cond_f rfl ?_)
 refine Run.regionP (D := [some 19, some 20, some 21, some 22, some 23, some 24, some 25, some 26]) [true] 1 rfl rfl rfl (by simp only [List.drop_succ_cons, List.drop_zero]; rfl) (fun Z hZ => ?_)
 refine QD.yv dc rfl (Yv.loadN 0 T rfl rfl rfl rfl rfl rfl) ?_
 refine QD.nil (hZ _ ?_)
 clear hZ Z
 refine Ops.call ((laws_manifestGood J1 (hU.mono l1) m _ _ _ _ _ _ _ _ _ _ _ _ _ _ _ _ _ _ (hL.mono l1) hfit)) rfl dc call19 rfl ?_
 rintro _ J2 l2 ⟨q, rfl, hg⟩
 have hU2 := hU.mono (l1.trans l2)
 have hE2 := hE.mono (l1.trans l2)
 cases q with
 | false =>
  skip
  iterate 2 refine Ops.pure T rfl dc rfl ?_
  iterate 3 refine Ops.not rfl dc ?_
  refine Ops.pure T rfl dc rfl ?_
  refine Ops.nil ?_
  repeat (first | refine Run.seq ?_ | refine Run.cond_t rfl ?_)
  refine Run.regionO (D := [some 27, some 6]) [true, true] rfl rfl rfl (fun Z hZ => ?_)
  refine QD.call (manifestAwake _ hU2 a0 hE2) dc rfl call20 rfl ?_
  refine q1 dc rfl rfl ?_
  refine QD.nil (hZ _ ?_)
  clear hZ Z
  skip
  refine Run.fin (Run.ret1 (by rw [hCf]; exact func4) results4 rfl (hR _ _ _ ?_))
  exact ⟨rfl, rfl⟩
 | true =>
 have hgd := hg rfl
 by_cases hw2 : 5000 < ws.length
 ·skip
  skip
  iterate 4 refine Ops.pure T rfl dc rfl ?_
  refine Ops.ev ((Ev.gtr rfl rfl).as (congrArg Value.bool (decide_eq_true (by omega)))) rfl dc ?_
  refine Ops.pure T rfl dc rfl ?_
  refine Ops.nil ?_
  repeat (first | refine Run.seq ?_ | refine Run.cond_t rfl ?_)
  refine Run.regionO (D := [some 27, some 6]) [true, true] rfl rfl rfl (fun Z hZ => ?_)
  refine QD.call (manifestAwake _ hU2 a0 hE2) dc rfl call20 rfl ?_
  refine q1 dc rfl rfl ?_
  refine QD.nil (hZ _ ?_)
  clear hZ Z
  skip
  refine Run.fin (Run.ret1 (by rw [hCf]; exact func4) results4 rfl (hR _ _ _ ?_))
  exact ⟨rfl, rfl⟩
 skip
 iterate 4 refine Ops.pure T rfl dc rfl ?_
 refine Ops.ev ((Ev.gtr rfl rfl).as (congrArg Value.bool (decide_eq_false (by omega)))) rfl dc ?_
 refine Ops.pure T rfl dc rfl ?_
 refine Ops.nil ?_
 have hF := fine_mf A4 hgd hz
 have hlen : (wval 6 (mfJ m (nkO A4)) true ws).1.length ≤ 34359738368 := Nat.le_trans (wval_le wquo_le 6 _ true ws hF) (cost_mf A4 hgd)
 obtain ⟨v, t, hrd, hk, ht⟩ := mf_reads A4 hgd hz ws
 have hcut := cut_none hrd hk ht
 clear hrd hk ht
 repeat (first | refine Run.seq ?_ | refine Run.skip ?_ | refine Run.cond_f rfl ?_)
 refine Run.regionP (D := [some 28, some 29, some 30, some 31, some 7]) [true] 1 rfl rfl rfl (by simp only [List.drop_succ_cons, List.drop_zero]; rfl) (fun Z hZ => ?_)
 refine QD.yv dc rfl (Yv.loadN 0 T rfl rfl rfl rfl rfl rfl) ?_
 refine QD.nil (hZ _ ?_)
 clear hZ Z
 refine Ops.call ((spec_ManifestJson 0 J2 m _ _ _ _ _ _ _ _ _ _ _ _ _ _ _ _ _ _ (hL.mono (l1.trans l2)) (okM_of hgd hfit hz))) rfl dc call21 rfl ?_
 rintro _ J3 l3 ⟨vk, rfl, hvk⟩
 skip
 refine Ops.pure T rfl dc rfl ?_
 have hT := spec_Wayward 6 J3 _ (mfJ m (nkO A4)) _ ws ⟨vk, rfl, hvk⟩ hF (hS.mono ((l1.trans l2).trans l3)) (by omega) hlen
 generalize (wval 6 (mfJ m (nkO A4)) true ws).1 = tx at *
 refine Ops.call (hT) rfl dc call15 rfl ?_
 rintro _ J4 l4 rfl
 skip
 refine Ops.pure T rfl dc rfl ?_
 refine Ops.nil ?_
 refine Run.seq ?_
 refine Run.regionP (D := [some 32, some 33, some 8]) [true] 1 rfl rfl rfl (by simp only [List.drop_succ_cons, List.drop_zero]; rfl) (fun Z hZ => ?_)
 refine q1 dc rfl rfl ?_
 refine QD.nil (hZ _ ?_)
 clear hZ Z
 refine Ops.call ((laws_lastBrace J4 tx hlen)) rfl dc call22 rfl ?_
 rintro _ J5 l5 rfl
 skip
 refine Ops.pure T rfl dc rfl ?_
 refine Ops.nil ?_
 have hle := lastB_le tx (tx.length - 1)
 generalize lastB tx (tx.length - 1) = e at *
 have hU5 := hU2.mono ((l3.trans l4).trans l5)
 have hE5 := hE2.mono ((l3.trans l4).trans l5)
 obtain ⟨q, hq⟩ : ∃ q : Nat, q = q0.toNat % (e + 1) := ⟨_, rfl⟩
 have hqe : q ≤ e := by
  rw [hq]; exact Nat.lt_succ_iff.1 (Nat.mod_lt _ (Nat.succ_pos e))
 have hqi : q0.tmod ((e + 1 : Nat) : Int) = (q : Int) := by
  rw [Int.tmod_eq_emod_of_nonneg hq0.1, hq, Int.natCast_emod, Int.toNat_of_nonneg hq0.1]
 have hno := hcut q hqe
 have htl : (tx.take q).length ≤ 34359738368 := by rw [List.length_take]; omega
 refine Run.seq ?_
 refine Run.regionAny (Holds J5 [(b0, blk (m.cs (.slice A1 n1 c1) (.slice A2 n2 c2) (.slice A3 n3 c3) (.slice A4 n4 c4) (.slice A5 n5 c5) (.slice A6 n6 c6)) 50)]) (bl 16 0) (by kernel_rfl) (by kernel_rfl) ?_
 refine RAny.tk 0 (bl 16 1) rfl (by kernel_rfl) dc (fun W h => h.holds (Le.refl _) (by first | exact mp rfl | exact mq rfl)) (Yld.eval T rfl rfl) ?_
 refine RAny.tk 1 (bl 16 3) rfl (by kernel_rfl) dc (fun W h => h.holds (Le.refl _) (by first | exact mp rfl | exact mq rfl)) (Yld.eval T rfl rfl) ?_
 refine RAny.tk 3 (bl 16 11) rfl (by kernel_rfl) dc (fun W h => h.holds (Le.refl _) (by first | exact mp rfl | exact mq rfl)) (Yld.eval T rfl rfl) ?_
 refine RAny.tk 7 (bl 16 139) rfl (by kernel_rfl) dc (fun W h => h.holds (Le.refl _) (by first | exact mp rfl | exact mq rfl)) (Yld.eval T rfl rfl) ?_
 refine RAny.tk 8 (bl 16 395) rfl (by kernel_rfl) dc (fun W h => h.holds (Le.refl _) (by first | exact mp rfl | exact mq rfl)) (Yld.load 0 T rfl rfl rfl rfl rfl) ?_
 refine RAny.tk 2 (bl 16 399) rfl (by kernel_rfl) dc (fun W h => h.holds (Le.refl _) (by first | exact mp rfl | exact mq rfl)) (Yld.ev (Ev.conv (r := q0) T rfl rfl rfl (wI (by omega) (by omega))) rfl) ?_
 refine RAny.tk 4 (bl 16 415) rfl (by kernel_rfl) dc (fun W h => h.holds (Le.refl _) (by first | exact mp rfl | exact mq rfl)) (Yld.ev (Ev.addK (r := ((e + 1 : Nat) : Int)) rfl rfl (by rw [wI (by omega) (by omega)]; omega)) rfl) ?_
 refine RAny.tk 5 (bl 16 447) rfl (by kernel_rfl) dc (fun W h => h.holds (Le.refl _) (by first | exact mp rfl | exact mq rfl)) (Yld.ev (Ev.remI rfl rfl (by omega) hqi) rfl) ?_
 refine RAny.tk 6 (bl 16 511) rfl (by kernel_rfl) dc (fun W h => h.holds (Le.refl _) (by first | exact mp rfl | exact mq rfl)) (Yld.ev (Ev.cutSHi T rfl rfl rfl (by omega) (by omega)) rfl) ?_
 rw [Int.toNat_natCast]
 refine RAny.two 9 13 (bl 16 1023) (bl 16 8703) rfl rfl (by kernel_rfl) rfl rfl dc dc (Eff.call (impl_ManifestParseNo J5 hU5 (tx.take q) htl hno m.idx a0 hE5) call23 rfl fun x1 K1 m1 hx1 => ⟨fun W h => h.holds m1 (by first | exact mp rfl | exact mq rfl), ?_⟩) (Eff.alloc (T.zeroOk rfl) rfl fun b2 => ⟨fun W h => h.holds (Le.refl _) (by first | exact mp rfl | exact mq rfl), ?_⟩)
 skip
 ·skip
  skip
  subst hx1
  skip
  refine RAny.tk 10 (bl 16 2047) rfl (by kernel_rfl) dc (fun W h => h.holds m1 (by first | exact mp rfl | exact mq rfl)) (Yld.eval T rfl rfl) ?_
  refine RAny.tk 11 (bl 16 4095) rfl (by kernel_rfl) dc (fun W h => h.holds m1 (by first | exact mp rfl | exact mq rfl)) (Yld.eval T rfl rfl) ?_
  refine RAny.tk 12 (bl 16 8191) rfl (by kernel_rfl) dc (fun W h => h.holds m1 (by first | exact mp rfl | exact mq rfl)) (Yld.eval T rfl rfl) ?_
  refine RAny.on 13 (bl 16 16383) rfl (by kernel_rfl) rfl dc (Eff.alloc (T.zeroOk rfl) rfl fun b2 => ⟨fun W h => h.holds m1 (by first | exact mp rfl | exact mq rfl), ?_⟩)
  refine RAny.os 14 (bl 16 32767) rfl (by kernel_rfl) rfl (Eff.store 0 rfl rfl rfl rfl (T.sizeOk rfl) rfl (Nat.le_of_ble_eq_true rfl) rfl rfl ⟨fun W h => h.holds m1 (by first | exact mp rfl | exact mq rfl), ?_⟩)
  refine RAny.on 15 (bl 16 65535) rfl (by kernel_rfl) rfl dc (Eff.assign rfl ⟨fun W h => h.holds m1 (by first | exact mp rfl | exact mq rfl), ?_⟩)
  refine RAny.done _ (by kernel_rfl) ?_
  refine Run.seq ?_
  refine Run.regionO (D := [some 47, some 48, some 49, some 50, some 51, some 6]) [true, true, true, true, true, true] rfl rfl rfl (fun Z hZ => ?_)
  iterate 3 refine q1 dc rfl rfl ?_
  refine QD.call (manifestAwake _ (hU5.mono m1) a0 (hE5.mono m1)) dc rfl call20 rfl ?_
  iterate 2 refine q1 dc rfl rfl ?_
  refine QD.nil (hZ _ ?_)
  clear hZ Z
  skip
  refine Run.fin (Run.ret1 (by rw [hCf]; exact func4) results4 rfl (hR _ _ _ ?_))
  exact ⟨rfl, rfl⟩
 ·skip
  skip
  skip
  refine RAny.on 9 (bl 16 9215) rfl (by kernel_rfl) rfl dc (Eff.call (impl_ManifestParseNo J5 hU5 (tx.take q) htl hno m.idx a0 hE5) call23 rfl fun x1 K1 m1 hx1 => ⟨fun W h => h.holds m1 (by first | exact mp rfl | exact mq rfl), ?_⟩)
  subst hx1
  skip
  refine RAny.tk 10 (bl 16 10239) rfl (by kernel_rfl) dc (fun W h => h.holds m1 (by first | exact mp rfl | exact mq rfl)) (Yld.eval T rfl rfl) ?_
  refine RAny.tk 11 (bl 16 12287) rfl (by kernel_rfl) dc (fun W h => h.holds m1 (by first | exact mp rfl | exact mq rfl)) (Yld.eval T rfl rfl) ?_
  refine RAny.tk 12 (bl 16 16383) rfl (by kernel_rfl) dc (fun W h => h.holds m1 (by first | exact mp rfl | exact mq rfl)) (Yld.eval T rfl rfl) ?_
  refine RAny.os 14 (bl 16 32767) rfl (by kernel_rfl) rfl (Eff.store 0 rfl rfl rfl rfl (T.sizeOk rfl) rfl (Nat.le_of_ble_eq_true rfl) rfl rfl ⟨fun W h => h.holds m1 (by first | exact mp rfl | exact mq rfl), ?_⟩)
  refine RAny.on 15 (bl 16 65535) rfl (by kernel_rfl) rfl dc (Eff.assign rfl ⟨fun W h => h.holds m1 (by first | exact mp rfl | exact mq rfl), ?_⟩)
  refine RAny.done _ (by kernel_rfl) ?_
  refine Run.seq ?_
  refine Run.regionO (D := [some 47, some 48, some 49, some 50, some 51, some 6]) [true, true, true, true, true, true] rfl rfl rfl (fun Z hZ => ?_)
  iterate 3 refine q1 dc rfl rfl ?_
  refine QD.call (manifestAwake _ (hU5.mono m1) a0 (hE5.mono m1)) dc rfl call20 rfl ?_
  iterate 2 refine q1 dc rfl rfl ?_
  refine QD.nil (hZ _ ?_)
  clear hZ Z
  skip
  refine Run.fin (Run.ret1 (by rw [hCf]; exact func4) results4 rfl (hR _ _ _ ?_))
  exact ⟨rfl, rfl⟩
end Go.V
