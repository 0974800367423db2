import Derived.Test.YtcegjgmmbbojdaaGreatDoorAW
import Derived.Test.YtcegjgmmbbojdaaGreatDoorAM16
import Derived.Test.YtcegjgmmbbojdaaGreatDoorAM14
import Derived.Test.YtcegjgmmbbojdaaGreatDoorAM13
import Derived.Test.YtcegjgmmbbojdaaGreatDoorAM8
import Derived.Maps.RangeRun
set_option linter.unusedVariables false
set_option linter.unusedSimpArgs false
namespace Go.V
open Go.Proofs.Tryz
open Go.RowKit
set_option maxRecDepth 10000
attribute [local irreducible] Run Ops QD
def sbK (l : List Ds) : List Js := match l with
 | [] => []
 | x :: _ => [txJ [115, 117, 98, 106, 101, 99, 116], dsJ x]
theorem sbK_len (l : List Ds) : (sbK l).length <= 2 := by cases l <;> simp [sbK]
theorem sbK_head {l : List Ds} {q : Ds} (h : l[0]? = some q) : sbK l = [txJ [115, 117, 98, 106, 101, 99, 116], dsJ q] := by
 cases l with
 | nil => cases h
 | cons x l => obtain rfl : x = q := Option.some.inj h; rfl
def nkO (A : Option Addr) : UInt8 × Bs := match A with
 | none => (110, [110, 117, 108, 108])
 | some _ => (108, [])
def laJ (l : List Ds) (nk : UInt8 × Bs) : Js := .mk nk.1 nk.2 (l.map dsJ)
def miK (m : Mf) (nk : UInt8 × Bs) : List Js := if m.idx then [txJ [109, 97, 110, 105, 102, 101, 115, 116, 115], laJ m.lays nk] else [txJ [99, 111, 110, 102, 105, 103], dsJ m.cfg] ++ [txJ [108, 97, 121, 101, 114, 115], laJ m.lays nk]
def mfK (m : Mf) (nk : UInt8 × Bs) : List Js := [] ++ [txJ [115, 99, 104, 101, 109, 97, 86, 101, 114, 115, 105, 111, 110], nuJ m.ver] ++ opJ [109, 101, 100, 105, 97, 84, 121, 112, 101] m.media ++ miK m nk ++ opP [97, 110, 110, 111, 116, 97, 116, 105, 111, 110, 115] m.anns ++ sbK m.subj ++ opJ [97, 114, 116, 105, 102, 97, 99, 116, 84, 121, 112, 101] m.art
def mfJ (m : Mf) (nk : UInt8 × Bs) : Js := .mk 111 [] (mfK m nk)
def okM (m : Mf) : Prop := (∀ x ∈ m.lays, okD x) /\ (∀ x ∈ m.subj, okD x) /\ (m.idx = false -> okD m.cfg) /\ m.lays.length <= 100000 /\ m.anns.length <= 400000 /\ -9223372036854775808 <= m.ver /\ m.ver <= 9223372036854775807
set_option maxHeartbeats 4000000 in
theorem spec_ManifestJson (d : Nat) (I : Imm) (m : Mf) (A1 : Option Addr) (n1 c1 : Nat) (A2 : Option Addr) (n2 c2 : Nat) (A3 : Option Addr) (n3 c3 : Nat) (A4 : Option Addr) (n4 c4 : Nat) (A5 : Option Addr) (n5 c5 : Nat) (A6 : Option Addr) (n6 c6 : Nat)
  (hL : MfL I m (.slice A1 n1 c1) (.slice A2 n2 c2) (.slice A3 n3 c3) (.slice A4 n4 c4) (.slice A5 n5 c5) (.slice A6 n6 c6)) (hok : okM m) :
  Pure prog 8 [.agg (m.cs (.slice A1 n1 c1) (.slice A2 n2 c2) (.slice A3 n3 c3) (.slice A4 n4 c4) (.slice A5 n5 c5) (.slice A6 n6 c6)).toArray] I fun w J => ∃ vk, w = .agg [.int .u8 111, str [], vk].toArray /\ Sl (tJs (d + 5)) J vk (mfK m (nkO A4)) := by
 obtain ⟨idx, ver, media, cfg, lays, anns, subj, art⟩ := m
 obtain ⟨hd, hl, ha, hs⟩ := hL
 obtain ⟨hkl, hks, hkc, hll, hla, hz1, hz2⟩ := hok
 simp only at hd hl ha hs hkl hks hkc hll hla hz1 hz2
 obtain ⟨_, _, e1, _⟩ := id hl
 obtain ⟨_, _, e2, _⟩ := id ha
 obtain ⟨_, _, e3, _⟩ := id hs
 obtain ⟨_, _, e4, _⟩ := id hd.1
 obtain ⟨_, _, e5, _⟩ := id hd.2.1
 obtain ⟨_, _, e6, _⟩ := id hd.2.2
 cases e1
 cases e2
 cases e3
 cases e4
 cases e5
 cases e6
 refine Spec.enter 75 [(0, _)] func8 rfl ntmps8 (by simp) rfl ?_
 intro C hCf hR hCI
 refine rS ?_
 refine Run.region (Ops.box rfl dc rfl rfl (fun b1 => (Ops.alloc rfl dc (T.zeroOk rfl) rfl (fun b2 => (Ops.nil (rS (Run.region (Ops.buildL bd38 rfl dc rfl rfl (Ops.buildL bd56 rfl dc rfl rfl (Ops.box rfl dc rfl rfl (fun b3 => (oP rfl (Ops.nil (Run.perm (L' := [_, _] ++ [(b3, _)]) ((List.Perm.swap _ _ _).trans (List.Perm.cons _ (List.Perm.swap _ _ _))) (rS ?_)))))))))))))))
 have hG0 := Gr.nil (tJs (d + 4 + 1)) I 38
 have le0 := Le.refl I
 have hn0 : ([] : List Js).length <= 0 := Nat.le_refl _
 refine rP 3 (fun Z hZ => (eE rfl (eE rfl (gY (Yv.load 1 T rfl rfl rfl rfl) (zN hZ ((Ops.call ((spec_jNumber I ver hz1 hz2)) rfl dc call19 rfl ?_)))))))
 rintro y1 K1 k1 rfl
 refine Ops.callP (N := [_, _]) (object_put (d + 4) _ b3 [115, 99, 104, 101, 109, 97, 86, 101, 114, 115, 105, 111, 110] _ (nuJ ver) [] (.slice none 0 0) [] (hG0.mono k1) (nuJ_rel _ _ _) (by omega)) (.refl _) rfl dc call18 rfl ?_
 rintro y J1 N1 j1 ⟨vk1, M1, rfl, hG1⟩
 refine Ops.nil (rS ?_)
 have le1 := le0.trans (k1.trans j1)
 obtain ⟨ks1, hks1⟩ : ∃ ks : List Js, ks = [] ++ ([txJ [115, 99, 104, 101, 109, 97, 86, 101, 114, 115, 105, 111, 110], nuJ ver]) := ⟨_, rfl⟩
 have hG1 : Gr (tJs (d + 4 + 1)) J1 38 vk1 ks1 M1 := by rw [hks1]; exact hG1
 have hn1 : ks1.length <= 2 := by rw [hks1, List.length_append]; have h2 : ([txJ [115, 99, 104, 101, 109, 97, 86, 101, 114, 115, 105, 111, 110], nuJ ver] : List Js).length <= 2 := show _ <= 2 from Nat.le_refl 2; omega
 refine rP 3 (fun Z hZ => (eE rfl (eE rfl (gY (Yv.load 1 T rfl rfl rfl rfl) (zN hZ ((Ops.callP (N := [_, _]) (object_text (d + 4) J1 b3 [109, 101, 100, 105, 97, 84, 121, 112, 101] media ks1 vk1 M1 hG1 (by omega)) (.refl _) rfl dc call20 rfl ?_)))))))
 rintro y J2 N2 j2 ⟨vk2, M2, rfl, hG2⟩
 refine Ops.nil (rS ?_)
 have le2 := le1.trans j2
 obtain ⟨ks2, hks2⟩ : ∃ ks : List Js, ks = ks1 ++ (opJ [109, 101, 100, 105, 97, 84, 121, 112, 101] media) := ⟨_, rfl⟩
 have hG2 : Gr (tJs (d + 4 + 1)) J2 38 vk2 ks2 M2 := by rw [hks2]; exact hG2
 have hn2 : ks2.length <= 4 := by rw [hks2, List.length_append]; have h2 : (opJ [109, 101, 100, 105, 97, 84, 121, 112, 101] media : List Js).length <= 2 := opJ_len _ _; omega
 refine Run.region (Ops.buildL bd38 rfl dc rfl rfl (Ops.alloc rfl dc (T.zeroOk rfl) rfl (fun b4 => (Ops.store 0 rfl rfl rfl rfl rfl (T.sizeOk rfl) rfl (lb rfl) rfl rfl (Ops.nil ?_)))))
 repeat refine rS ?_
 have hnk : ∃ nk : UInt8 × Bs, nk = nkO A4 := ⟨_, rfl⟩
 obtain ⟨nk, hnk⟩ := hnk
 cases A4 with
 | none =>
  refine rO (fun Z hZ => (eE rfl (gY (Yv.load 2 T rfl rfl rfl rfl) (fE (Ev.eqlNil T rfl rfl rfl rfl rfl) (zN hZ ((rT rfl (Run.region (Ops.buildL bd38 rfl dc rfl rfl (Ops.store 0 rfl rfl rfl rfl rfl (T.sizeOk rfl) rfl (lb rfl) rfl rfl (Ops.nil ?_)))))))))))
  repeat refine rS ?_
  skip
  refine rO (fun Z hZ => (eE rfl (gY (Yv.load 2 T rfl rfl rfl rfl) (eE rfl (eE rfl (zN hZ ((rB (Run.keep [1, 2, 3, 4, 25, 26, 27] [_, _, _, _, _, _, _] rfl ?_)))))))))
  refine Run.rounds (fun mm env L J => ∃ (i : Nat) (vl : Value) (Ml : Own), mm = lays.length - i /\ i <= lays.length /\ Gr (tJs (d + 3 + 1)) J 38 vl ((lays.take i).map dsJ) Ml /\ env = [(1, .pointer (some ⟨b1, 0, none⟩)), (2, .pointer (some ⟨b2, 0, none⟩)), (3, .pointer (some ⟨b3, 0, none⟩)), (4, .pointer (some ⟨b4, 0, none⟩)), (25, .slice none lays.length c4), (26, .int .i64 (lays.length : Int)), (27, .int .i64 (i : Int))] /\ L = (b4, blk [.int .u8 110, str ([110, 117, 108, 108]), vl] 38) :: (Ml ++ ((b2, blk [.int .u8 0, str [], .slice none 0 0] 38) :: (b1, blk (Mf.cs ⟨idx, ver, media, cfg, lays, anns, subj, art⟩ (.slice A1 cfg.urls.length c1) (.slice A2 cfg.anns.length c2) (.slice A3 cfg.plats.length c3) (.slice none lays.length c4) (.slice A5 anns.length c5) (.slice A6 subj.length c6)) 31) :: (b3, obj vk2) :: M2)) /\ Le J2 J) lays.length ⟨0, .slice none 0 0, [], by omega, by omega, Gr.nil _ _ _, rfl, rfl, Le.refl _⟩ ?_
  rintro mm env L J ⟨i, vl, Ml, rfl, hi, hGl, rfl, rfl, hle⟩ ih
  by_cases hlt : i < lays.length
  ·skip
   refine rS ?_
   refine rO (fun Z hZ => (kT (Ev.lss rfl rfl) (by omega) (zN hZ ?_)))
   repeat (first | refine rS ?_ | refine rK ?_ | refine rB ?_ | refine rT rfl ?_)
   refine Run.region (Ops.indexSl (j := (i : Int)) ((hl.mono le2).mono hle) rfl dc rfl rfl (T.undOk rfl) (T.sizeOk rfl) (by omega) (by omega) fun bb off q cs hq hr hA => ?_)
   obtain ⟨D1, d1, D2, d2, D3, d3, rfl, hqL⟩ := hr
   rw [Int.toNat_natCast] at hq
   refine Ops.loadIN rfl dc rfl hA (T.aggOk rfl) (T.sizeOk rfl) rfl (Ops.alloc rfl dc (T.zeroOk rfl) rfl (fun b6 => (Ops.store 0 rfl rfl rfl rfl rfl (T.sizeOk rfl) rfl (lb rfl) rfl rfl (Ops.nil ?_))))
   skip
   have hkl2 : ((lays.take i).map dsJ).length <= 100000 := by rw [List.length_map, List.length_take]; omega
   obtain ⟨_, _, e7, _⟩ := id hqL.1
   obtain ⟨_, _, e8, _⟩ := id hqL.2.1
   obtain ⟨_, _, e9, _⟩ := id hqL.2.2
   refine Run.regionL [7] (Holds J []) (Holds J [(b6, blk (q.cs (.slice D1 q.urls.length d1) (.slice D2 q.anns.length d2) (.slice D3 q.plats.length d3)) 28), (b4, blk [.int .u8 110, str ([110, 117, 108, 108]), vl] 38)]) (bl 8 0) (by kernel_rfl) (by kernel_rfl) (fun W h => ⟨h.holds (Le.refl _) (by first | exact mp rfl | exact mq rfl | exact mr rfl), h.holds (Le.refl _) (by first | exact mp rfl | exact mq rfl | exact mr rfl)⟩) (RAnyL.tk 0 (bl 8 1) rfl (by kernel_rfl) dc rfl (T := fun _ => True) (.inl fun _ _ => trivial) (Yld.eval T rfl rfl) (RAnyL.tk 1 (bl 8 3) rfl (by kernel_rfl) dc rfl (.inr ⟨by kernel_rfl, fun _ h => h⟩) (Yld.load 1 T rfl rfl rfl rfl rfl) (RAnyL.tk 2 (bl 8 7) rfl (by kernel_rfl) dc rfl (.inr ⟨by kernel_rfl, fun _ h => h⟩) (Yld.loadN 0 T rfl rfl rfl rfl rfl rfl rfl) ?_)))
   refine RAnyL.on 3 (bl 8 15) rfl (by kernel_rfl) rfl dc (Eff.call (spec_DescriptorJson d J q _ _ _ _ _ _ _ _ _ hqL (hkl q (List.mem_of_getElem? hq))) call21 rfl fun y J2 l2 hy => ⟨⟨fun W h => h.holds l2 (fun _ h => by cases h), .inr fun W h => h.holds l2 (by exact mp rfl)⟩, ?_⟩)
   obtain ⟨vq, rfl, hSq⟩ := hy
   obtain ⟨Aq, aq, rfl⟩ := hSq.isSl
   refine RAnyL.on 4 (bl 8 31) rfl (by kernel_rfl) rfl dc (Eff.lit T rfl rfl rfl dc dc rfl rfl rfl rfl rfl fun bq => ⟨⟨fun W h => h.holds l2 (fun _ h => by cases h), .inr fun W h => h.holds l2 (by exact mq rfl)⟩, ?_⟩)
   refine RAnyL.on 5 (bl 8 63) rfl (by kernel_rfl) rfl dc (Eff.appOneP (t := tJs (d + 3 + 1)) (y := dsJ q) (b := bq) (M := Ml) (N := (bq, _) :: (b6, _) :: (b4, _) :: ((b2, blk [.int .u8 0, str [], .slice none 0 0] 38) :: (b1, blk (Mf.cs ⟨idx, ver, media, cfg, lays, anns, subj, art⟩ (.slice A1 cfg.urls.length c1) (.slice A2 cfg.anns.length c2) (.slice A3 cfg.plats.length c3) (.slice none lays.length c4) (.slice A5 anns.length c5) (.slice A6 subj.length c6)) 31) :: (b3, obj vk2) :: M2)) el36 (hGl.mono l2) ⟨_, rfl, hSq⟩ rfl rfl (List.perm_append_comm_assoc [(bq, _), (b6, _), (b4, _)] Ml _) List.mem_cons_self rfl (by omega) (by omega) fun v' M' hG' => ⟨⟨fun W h => h.holds l2 (fun _ h => by cases h), .inr fun W h => h.holds l2 (by intro x hx; simp only [List.mem_cons, List.not_mem_nil, or_false] at hx; rcases hx with rfl | rfl; exact List.mem_append_right _ (.tail _ (.head _)); exact List.mem_append_right _ (.tail _ (.tail _ (.head _))))⟩, ?_⟩)
   obtain ⟨A', c', rfl⟩ := hG'.isSl
   refine RAnyL.perm (List.perm_append_comm_assoc [(bq, _), (b6, _), (b4, _)] M' _).symm ?_
   skip
   refine RAnyL.tk 6 (bl 8 127) rfl (by kernel_rfl) dc rfl (T := fun _ => True) (.inl fun _ _ => trivial) (Yld.eval T rfl rfl) (RAnyL.os 7 (bl 8 255) rfl (by kernel_rfl) rfl (Eff.store 2 rfl rfl rfl rfl (T.sizeOk rfl) rfl (lb rfl) rfl rfl ⟨⟨fun W h => h.holds l2 (fun _ h => by cases h), .inl rfl⟩, (RAnyL.done _ (by kernel_rfl) ?_)⟩))
   skip
   refine rI ?_
   iterate 2 refine Run.dropL (List.sublist_cons_self _ _) ?_
   refine rO (fun Z hZ => (fE (Ev.addK (r := ((i + 1 : Nat) : Int)) rfl rfl (by rw [wI (by omega) (by omega)]; omega)) (eE rfl (zN hZ ?_))))
   skip
   refine Run.keep [1, 2, 3, 4, 25, 26, 27] [_, _, _, _, _, _, _] rfl ?_
   refine ih (lays.length - (i + 1)) _ _ _ (by omega) ⟨i + 1, _, M', rfl, by omega, ?_, rfl, rfl, hle.trans l2⟩
   obtain ⟨hi2, rfl⟩ := List.getElem?_eq_some_iff.1 hq
   rw [List.take_succ_eq_append_getElem hi2, List.map_append]
   exact hG'
  ·obtain rfl : i = lays.length := by omega
   rw [List.take_length] at hGl
   clear ih
   refine rS ?_
   refine rO (fun Z hZ => (kF (Ev.lss rfl rfl) (by omega) (zN hZ ?_)))
   repeat (first | refine rS ?_ | refine Run.exit rfl ?_ | refine rF rfl ?_)
   refine Run.keepGr hGl (N := (b4, _) :: ((b2, blk [.int .u8 0, str [], .slice none 0 0] 38) :: (b1, blk (Mf.cs ⟨idx, ver, media, cfg, lays, anns, subj, art⟩ (.slice A1 cfg.urls.length c1) (.slice A2 cfg.anns.length c2) (.slice A3 cfg.plats.length c3) (.slice none lays.length c4) (.slice A5 anns.length c5) (.slice A6 subj.length c6)) 31) :: (b3, obj vk2) :: M2)) (List.perm_middle (l₁ := Ml)).symm fun J5 l5 hSl => ?_
   obtain ⟨A8, c8, rfl⟩ := hSl.isSl
   have le5 := (le2.trans hle).trans l5
   have hG5 := (hG2.mono hle).mono l5
   clear hGl hle
   have hrl : (tJs (d + 4 + 1)).rel J5 [.int .u8 110, str ([110, 117, 108, 108]), .slice A8 (lays.map dsJ).length c8] (laJ lays nk) := by rw [hnk]; exact ⟨_, rfl, hSl⟩
   skip
   refine Run.perm (L' := [(b4, _), (b2, blk [.int .u8 0, str [], .slice none 0 0] 38), (b1, blk (Mf.cs ⟨idx, ver, media, cfg, lays, anns, subj, art⟩ (.slice A1 cfg.urls.length c1) (.slice A2 cfg.anns.length c2) (.slice A3 cfg.plats.length c3) (.slice none lays.length c4) (.slice A5 anns.length c5) (.slice A6 subj.length c6)) 31)] ++ (b3, obj vk2) :: M2) (.refl _) ?_
   refine rO (fun Z hZ => (eE rfl (gY (Yv.load 2 T rfl rfl rfl rfl) (zN hZ ?_))))
   skip
   refine Run.keep [1, 2, 3, 4, 40] [_, _, _, _, _] rfl ?_
   refine Run.piece (fun env' L' I' => ∃ (vk : Value) (M : Own), env' = [(1, .pointer (some ⟨b1, 0, none⟩)), (2, .pointer (some ⟨b2, 0, none⟩)), (3, .pointer (some ⟨b3, 0, none⟩)), (4, .pointer (some ⟨b4, 0, none⟩))] /\ L' = [(b4, blk [.int .u8 110, str ([110, 117, 108, 108]), .slice A8 (lays.map dsJ).length c8] 38), (b2, blk [.int .u8 0, str [], .slice none 0 0] 38), (b1, blk (Mf.cs ⟨idx, ver, media, cfg, lays, anns, subj, art⟩ (.slice A1 cfg.urls.length c1) (.slice A2 cfg.anns.length c2) (.slice A3 cfg.plats.length c3) (.slice none lays.length c4) (.slice A5 anns.length c5) (.slice A6 subj.length c6)) 31)] ++ (b3, obj vk) :: M /\ Gr (tJs (d + 4 + 1)) I' 38 vk (ks2 ++ miK ⟨idx, ver, media, cfg, lays, anns, subj, art⟩ nk) M /\ Le J5 I') ?_ ?_
   ·intro k' fin
    cases idx with
    | true =>
     refine rT rfl ?_
     refine rP 2 (fun Z hZ => (eE rfl (gY (Yv.loadN 0 T rfl rfl rfl rfl rfl rfl) (zN hZ ((Ops.callP (N := [_, _, _]) (object_put (d + 4) J5 b3 [109, 97, 110, 105, 102, 101, 115, 116, 115] _ (laJ lays nk) ks2 vk2 M2 hG5 hrl (by omega)) (.refl _) rfl dc call18 rfl ?_))))))
     rintro y J6 N6 l6 ⟨vk6, M6, rfl, hG6⟩
     refine Ops.nil ?_
     skip
     refine Run.keep [1, 2, 3, 4] [_, _, _, _] rfl ?_
     exact fin _ _ _ ⟨vk6, M6, rfl, rfl, hG6, l6⟩
    | false =>
     repeat (first | refine rS ?_ | refine rF rfl ?_)
     refine rP 3 (fun Z hZ => (eE rfl (eE rfl (gY (Yv.loadN 2 T rfl rfl rfl rfl rfl rfl) (zN hZ ((Ops.call ((spec_DescriptorJson (d + 1) J5 cfg _ _ _ _ _ _ _ _ _ (hd.mono le5) (hkc rfl))) rfl dc call21 rfl ?_)))))))
     rintro y K6 k6 ⟨vc, rfl, hSc⟩
     refine Ops.callP (N := [_, _, _]) (object_put (d + 4) K6 b3 [99, 111, 110, 102, 105, 103] _ (dsJ cfg) ks2 vk2 M2 (hG5.mono k6) ⟨vc, rfl, hSc⟩ (by omega)) (.refl _) rfl dc call18 rfl ?_
     rintro y J6 N6 l6 ⟨vk6, M6, rfl, hG6⟩
     refine Ops.nil ?_
     skip
     refine rP 2 (fun Z hZ => (eE rfl (gY (Yv.loadN 0 T rfl rfl rfl rfl rfl rfl) (zN hZ ((Ops.callP (N := [_, _, _]) (object_put (d + 4) J6 b3 [108, 97, 121, 101, 114, 115] _ (laJ lays nk) _ vk6 M6 hG6 ((tJs (d + 4 + 1)).mono hrl (k6.trans l6)) (by rw [List.length_append]; simp only [List.length_cons, List.length_nil]; omega)) (.refl _) rfl dc call18 rfl ?_))))))
     rintro y J7 N7 l7 ⟨vk7, M7, rfl, hG7⟩
     refine Ops.nil ?_
     skip
     refine Run.keep [1, 2, 3, 4] [_, _, _, _] rfl ?_
     exact fin _ _ _ ⟨vk7, M7, rfl, rfl, by (have := hG7; rw [List.append_assoc] at this; exact this), (k6.trans l6).trans l7⟩
   rintro env L J ⟨vk, M, rfl, rfl, hG, hle⟩
   have le6 := le5.trans hle
   have hnm : (ks2 ++ miK ⟨idx, ver, media, cfg, lays, anns, subj, art⟩ nk).length <= 8 := by
    rw [List.length_append]
    cases idx <;> simp [miK] <;> omega
   obtain ⟨km, hkm⟩ : ∃ km, km = ks2 ++ miK ⟨idx, ver, media, cfg, lays, anns, subj, art⟩ nk := ⟨_, rfl⟩
   rw [<- hkm] at hG hnm
   refine rS ?_
   refine rP 3 (fun Z hZ => (eE rfl (eE rfl (gY (Yv.load 2 T rfl rfl rfl rfl) (zN hZ ((Ops.callP (N := [_, _, _]) (object_pairs (d + 3) J b3 [97, 110, 110, 111, 116, 97, 116, 105, 111, 110, 115] anns _ (ha.mono le6) hla km vk M hG (by omega)) (.refl _) rfl dc call22 rfl ?_)))))))
   rintro y J9 N9 l9 ⟨vk9, M9, rfl, hG9⟩
   refine Ops.nil ?_
   repeat refine rS ?_
   have hpl9 := opP_len [97, 110, 110, 111, 116, 97, 116, 105, 111, 110, 115] anns
   have le9 := le6.trans l9
   have hn9 : (km ++ opP [97, 110, 110, 111, 116, 97, 116, 105, 111, 110, 115] anns).length <= 10 := by rw [List.length_append]; omega
   by_cases hpe : subj = []
   ·skip
    refine rO (fun Z hZ => (eE rfl (gY (Yv.load 2 T rfl rfl rfl rfl) (eE rfl (kF (Ev.gtr rfl rfl) (by rw [hpe]; simp) (zN hZ ?_))))))
    repeat (first | refine rS ?_ | refine rK ?_ | refine rF rfl ?_)
    have hGr : Gr (tJs (d + 4 + 1)) J9 38 vk9 (km ++ opP [97, 110, 110, 111, 116, 97, 116, 105, 111, 110, 115] anns ++ sbK subj) M9 := by rw [hpe, sbK, List.append_nil]; exact hG9
    skip
    have hptl := sbK_len subj
    have hnr : (km ++ opP [97, 110, 110, 111, 116, 97, 116, 105, 111, 110, 115] anns ++ sbK subj).length <= 12 := by rw [List.length_append]; omega
    refine rP 3 (fun Z hZ => (eE rfl (eE rfl (gY (Yv.load 2 T rfl rfl rfl rfl) (zN hZ ((Ops.callP (N := [_, _, _]) (object_text (d + 4) J9 b3 [97, 114, 116, 105, 102, 97, 99, 116, 84, 121, 112, 101] art _ vk9 M9 hGr (by omega)) (.refl _) rfl dc call20 rfl ?_)))))))
    rintro y Jr Nr jr ⟨vkr, Mr, rfl, hGf⟩
    refine Ops.nil (rS (Run.keepGr hGf (N := [_, _, _, _]) (List.perm_append_comm (l₁ := [_, _, _, _]) (l₂ := Mr)) fun JF lF hSf => ?_))
    obtain ⟨AF, cF, rfl⟩ := hSf.isSl
    refine Run.region (oP rfl (oP rfl (oP rfl (Ops.loadN 3 rfl dc rfl rfl (T.aggOk rfl) (T.sizeOk rfl) rfl rfl (Ops.store 1 rfl rfl rfl rfl rfl (T.sizeOk rfl) rfl (lb rfl) rfl rfl (Ops.nil ?_))))))
    skip
    refine Run.retC T 1 (by rw [hCf]; exact func8) results8 rfl rfl rfl rfl rfl rfl (hR _ _ _ ?_)
    refine ⟨rfl, _, rfl, ?_⟩
    have e : km ++ opP [97, 110, 110, 111, 116, 97, 116, 105, 111, 110, 115] anns ++ sbK subj ++ opJ [97, 114, 116, 105, 102, 97, 99, 116, 84, 121, 112, 101] art = mfK ⟨idx, ver, media, cfg, lays, anns, subj, art⟩ (nkO none) := by simp only [hkm, hks2, hks1]; rw [hnk]; rfl
    rw [e] at hSf ⊢
    exact hSf
   ·have hpp := List.length_pos_iff.2 hpe
    refine rO (fun Z hZ => (eE rfl (gY (Yv.load 2 T rfl rfl rfl rfl) (eE rfl (kT (Ev.gtr rfl rfl) (by omega) (zN hZ ((rT rfl (rP 3 (fun Z hZ => (eE rfl (eE rfl (gY (Yv.load 2 T rfl rfl rfl rfl) (zN hZ ((Ops.indexSl (j := 0) (hs.mono le9) rfl dc rfl rfl (T.undOk rfl) (T.sizeOk rfl) (by omega) (by omega) fun bb off q cs hq hr hA => ?_))))))))))))))))
    obtain ⟨D1, d1, D2, d2, D3, d3, rfl, hqL⟩ := hr
    refine Ops.loadIN rfl dc rfl hA (T.aggOk rfl) (T.sizeOk rfl) rfl (Ops.call ((spec_DescriptorJson (d + 1) J9 q _ _ _ _ _ _ _ _ _ hqL (hks q (List.mem_of_getElem? hq)))) rfl dc call21 rfl ?_)
    rintro y Kq kq ⟨vc, rfl, hSc⟩
    refine Ops.callP (N := [_, _, _]) (object_put (d + 4) Kq b3 [115, 117, 98, 106, 101, 99, 116] _ (dsJ q) _ vk9 M9 (hG9.mono kq) ⟨vc, rfl, hSc⟩ (by omega)) (.refl _) rfl dc call18 rfl ?_
    rintro y Jq Nq lq ⟨vkq, Mq, rfl, hGq⟩
    refine Ops.nil (rS ?_)
    have hGr : Gr (tJs (d + 4 + 1)) Jq 38 vkq (km ++ opP [97, 110, 110, 111, 116, 97, 116, 105, 111, 110, 115] anns ++ sbK subj) Mq := by rw [sbK_head (q := q) hq]; exact hGq
    skip
    have hptl := sbK_len subj
    have hnr : (km ++ opP [97, 110, 110, 111, 116, 97, 116, 105, 111, 110, 115] anns ++ sbK subj).length <= 12 := by rw [List.length_append]; omega
    refine rP 3 (fun Z hZ => (eE rfl (eE rfl (gY (Yv.load 2 T rfl rfl rfl rfl) (zN hZ ((Ops.callP (N := [_, _, _]) (object_text (d + 4) Jq b3 [97, 114, 116, 105, 102, 97, 99, 116, 84, 121, 112, 101] art _ vkq Mq hGr (by omega)) (.refl _) rfl dc call20 rfl ?_)))))))
    rintro y Jr Nr jr ⟨vkr, Mr, rfl, hGf⟩
    refine Ops.nil (rS (Run.keepGr hGf (N := [_, _, _, _]) (List.perm_append_comm (l₁ := [_, _, _, _]) (l₂ := Mr)) fun JF lF hSf => ?_))
    obtain ⟨AF, cF, rfl⟩ := hSf.isSl
    refine Run.region (oP rfl (oP rfl (oP rfl (Ops.loadN 3 rfl dc rfl rfl (T.aggOk rfl) (T.sizeOk rfl) rfl rfl (Ops.store 1 rfl rfl rfl rfl rfl (T.sizeOk rfl) rfl (lb rfl) rfl rfl (Ops.nil ?_))))))
    skip
    refine Run.retC T 1 (by rw [hCf]; exact func8) results8 rfl rfl rfl rfl rfl rfl (hR _ _ _ ?_)
    refine ⟨rfl, _, rfl, ?_⟩
    have e : km ++ opP [97, 110, 110, 111, 116, 97, 116, 105, 111, 110, 115] anns ++ sbK subj ++ opJ [97, 114, 116, 105, 102, 97, 99, 116, 84, 121, 112, 101] art = mfK ⟨idx, ver, media, cfg, lays, anns, subj, art⟩ (nkO none) := by simp only [hkm, hks2, hks1]; rw [hnk]; rfl
    rw [e] at hSf ⊢
    exact hSf
 | some ad =>
  refine rO (fun Z hZ => (eE rfl (gY (Yv.load 2 T rfl rfl rfl rfl) (fE (Ev.eqlNil T rfl rfl rfl rfl rfl) (zN hZ ?_)))))
  repeat (first | refine rS ?_ | refine rK ?_ | refine rF rfl ?_)
  skip
  refine rO (fun Z hZ => (eE rfl (gY (Yv.load 2 T rfl rfl rfl rfl) (eE rfl (eE rfl (zN hZ ((rB (Run.keep [1, 2, 3, 4, 25, 26, 27] [_, _, _, _, _, _, _] rfl ?_)))))))))
  refine Run.rounds (fun mm env L J => ∃ (i : Nat) (vl : Value) (Ml : Own), mm = lays.length - i /\ i <= lays.length /\ Gr (tJs (d + 3 + 1)) J 38 vl ((lays.take i).map dsJ) Ml /\ env = [(1, .pointer (some ⟨b1, 0, none⟩)), (2, .pointer (some ⟨b2, 0, none⟩)), (3, .pointer (some ⟨b3, 0, none⟩)), (4, .pointer (some ⟨b4, 0, none⟩)), (25, .slice (some ad) lays.length c4), (26, .int .i64 (lays.length : Int)), (27, .int .i64 (i : Int))] /\ L = (b4, blk [.int .u8 108, str ([]), vl] 38) :: (Ml ++ ((b2, blk [.int .u8 0, str [], .slice none 0 0] 38) :: (b1, blk (Mf.cs ⟨idx, ver, media, cfg, lays, anns, subj, art⟩ (.slice A1 cfg.urls.length c1) (.slice A2 cfg.anns.length c2) (.slice A3 cfg.plats.length c3) (.slice (some ad) lays.length c4) (.slice A5 anns.length c5) (.slice A6 subj.length c6)) 31) :: (b3, obj vk2) :: M2)) /\ Le J2 J) lays.length ⟨0, .slice none 0 0, [], by omega, by omega, Gr.nil _ _ _, rfl, rfl, Le.refl _⟩ ?_
  rintro mm env L J ⟨i, vl, Ml, rfl, hi, hGl, rfl, rfl, hle⟩ ih
  by_cases hlt : i < lays.length
  ·skip
   refine rS ?_
   refine rO (fun Z hZ => (kT (Ev.lss rfl rfl) (by omega) (zN hZ ?_)))
   repeat (first | refine rS ?_ | refine rK ?_ | refine rB ?_ | refine rT rfl ?_)
   refine Run.region (Ops.indexSl (j := (i : Int)) ((hl.mono le2).mono hle) rfl dc rfl rfl (T.undOk rfl) (T.sizeOk rfl) (by omega) (by omega) fun bb off q cs hq hr hA => ?_)
   obtain ⟨D1, d1, D2, d2, D3, d3, rfl, hqL⟩ := hr
   rw [Int.toNat_natCast] at hq
   refine Ops.loadIN rfl dc rfl hA (T.aggOk rfl) (T.sizeOk rfl) rfl (Ops.alloc rfl dc (T.zeroOk rfl) rfl (fun b6 => (Ops.store 0 rfl rfl rfl rfl rfl (T.sizeOk rfl) rfl (lb rfl) rfl rfl (Ops.nil ?_))))
   skip
   have hkl2 : ((lays.take i).map dsJ).length <= 100000 := by rw [List.length_map, List.length_take]; omega
   obtain ⟨_, _, e7, _⟩ := id hqL.1
   obtain ⟨_, _, e8, _⟩ := id hqL.2.1
   obtain ⟨_, _, e9, _⟩ := id hqL.2.2
   refine Run.regionL [7] (Holds J []) (Holds J [(b6, blk (q.cs (.slice D1 q.urls.length d1) (.slice D2 q.anns.length d2) (.slice D3 q.plats.length d3)) 28), (b4, blk [.int .u8 108, str ([]), vl] 38)]) (bl 8 0) (by kernel_rfl) (by kernel_rfl) (fun W h => ⟨h.holds (Le.refl _) (by first | exact mp rfl | exact mq rfl | exact mr rfl), h.holds (Le.refl _) (by first | exact mp rfl | exact mq rfl | exact mr rfl)⟩) (RAnyL.tk 0 (bl 8 1) rfl (by kernel_rfl) dc rfl (T := fun _ => True) (.inl fun _ _ => trivial) (Yld.eval T rfl rfl) (RAnyL.tk 1 (bl 8 3) rfl (by kernel_rfl) dc rfl (.inr ⟨by kernel_rfl, fun _ h => h⟩) (Yld.load 1 T rfl rfl rfl rfl rfl) (RAnyL.tk 2 (bl 8 7) rfl (by kernel_rfl) dc rfl (.inr ⟨by kernel_rfl, fun _ h => h⟩) (Yld.loadN 0 T rfl rfl rfl rfl rfl rfl rfl) ?_)))
   refine RAnyL.on 3 (bl 8 15) rfl (by kernel_rfl) rfl dc (Eff.call (spec_DescriptorJson d J q _ _ _ _ _ _ _ _ _ hqL (hkl q (List.mem_of_getElem? hq))) call21 rfl fun y J2 l2 hy => ⟨⟨fun W h => h.holds l2 (fun _ h => by cases h), .inr fun W h => h.holds l2 (by exact mp rfl)⟩, ?_⟩)
   obtain ⟨vq, rfl, hSq⟩ := hy
   obtain ⟨Aq, aq, rfl⟩ := hSq.isSl
   refine RAnyL.on 4 (bl 8 31) rfl (by kernel_rfl) rfl dc (Eff.lit T rfl rfl rfl dc dc rfl rfl rfl rfl rfl fun bq => ⟨⟨fun W h => h.holds l2 (fun _ h => by cases h), .inr fun W h => h.holds l2 (by exact mq rfl)⟩, ?_⟩)
   refine RAnyL.on 5 (bl 8 63) rfl (by kernel_rfl) rfl dc (Eff.appOneP (t := tJs (d + 3 + 1)) (y := dsJ q) (b := bq) (M := Ml) (N := (bq, _) :: (b6, _) :: (b4, _) :: ((b2, blk [.int .u8 0, str [], .slice none 0 0] 38) :: (b1, blk (Mf.cs ⟨idx, ver, media, cfg, lays, anns, subj, art⟩ (.slice A1 cfg.urls.length c1) (.slice A2 cfg.anns.length c2) (.slice A3 cfg.plats.length c3) (.slice (some ad) lays.length c4) (.slice A5 anns.length c5) (.slice A6 subj.length c6)) 31) :: (b3, obj vk2) :: M2)) el36 (hGl.mono l2) ⟨_, rfl, hSq⟩ rfl rfl (List.perm_append_comm_assoc [(bq, _), (b6, _), (b4, _)] Ml _) List.mem_cons_self rfl (by omega) (by omega) fun v' M' hG' => ⟨⟨fun W h => h.holds l2 (fun _ h => by cases h), .inr fun W h => h.holds l2 (by intro x hx; simp only [List.mem_cons, List.not_mem_nil, or_false] at hx; rcases hx with rfl | rfl; exact List.mem_append_right _ (.tail _ (.head _)); exact List.mem_append_right _ (.tail _ (.tail _ (.head _))))⟩, ?_⟩)
   obtain ⟨A', c', rfl⟩ := hG'.isSl
   refine RAnyL.perm (List.perm_append_comm_assoc [(bq, _), (b6, _), (b4, _)] M' _).symm ?_
   skip
   refine RAnyL.tk 6 (bl 8 127) rfl (by kernel_rfl) dc rfl (T := fun _ => True) (.inl fun _ _ => trivial) (Yld.eval T rfl rfl) (RAnyL.os 7 (bl 8 255) rfl (by kernel_rfl) rfl (Eff.store 2 rfl rfl rfl rfl (T.sizeOk rfl) rfl (lb rfl) rfl rfl ⟨⟨fun W h => h.holds l2 (fun _ h => by cases h), .inl rfl⟩, (RAnyL.done _ (by kernel_rfl) ?_)⟩))
   skip
   refine rI ?_
   iterate 2 refine Run.dropL (List.sublist_cons_self _ _) ?_
   refine rO (fun Z hZ => (fE (Ev.addK (r := ((i + 1 : Nat) : Int)) rfl rfl (by rw [wI (by omega) (by omega)]; omega)) (eE rfl (zN hZ ?_))))
   skip
   refine Run.keep [1, 2, 3, 4, 25, 26, 27] [_, _, _, _, _, _, _] rfl ?_
   refine ih (lays.length - (i + 1)) _ _ _ (by omega) ⟨i + 1, _, M', rfl, by omega, ?_, rfl, rfl, hle.trans l2⟩
   obtain ⟨hi2, rfl⟩ := List.getElem?_eq_some_iff.1 hq
   rw [List.take_succ_eq_append_getElem hi2, List.map_append]
   exact hG'
  ·obtain rfl : i = lays.length := by omega
   rw [List.take_length] at hGl
   clear ih
   refine rS ?_
   refine rO (fun Z hZ => (kF (Ev.lss rfl rfl) (by omega) (zN hZ ?_)))
   repeat (first | refine rS ?_ | refine Run.exit rfl ?_ | refine rF rfl ?_)
   refine Run.keepGr hGl (N := (b4, _) :: ((b2, blk [.int .u8 0, str [], .slice none 0 0] 38) :: (b1, blk (Mf.cs ⟨idx, ver, media, cfg, lays, anns, subj, art⟩ (.slice A1 cfg.urls.length c1) (.slice A2 cfg.anns.length c2) (.slice A3 cfg.plats.length c3) (.slice (some ad) lays.length c4) (.slice A5 anns.length c5) (.slice A6 subj.length c6)) 31) :: (b3, obj vk2) :: M2)) (List.perm_middle (l₁ := Ml)).symm fun J5 l5 hSl => ?_
   obtain ⟨A8, c8, rfl⟩ := hSl.isSl
   have le5 := (le2.trans hle).trans l5
   have hG5 := (hG2.mono hle).mono l5
   clear hGl hle
   have hrl : (tJs (d + 4 + 1)).rel J5 [.int .u8 108, str ([]), .slice A8 (lays.map dsJ).length c8] (laJ lays nk) := by rw [hnk]; exact ⟨_, rfl, hSl⟩
   skip
   refine Run.perm (L' := [(b4, _), (b2, blk [.int .u8 0, str [], .slice none 0 0] 38), (b1, blk (Mf.cs ⟨idx, ver, media, cfg, lays, anns, subj, art⟩ (.slice A1 cfg.urls.length c1) (.slice A2 cfg.anns.length c2) (.slice A3 cfg.plats.length c3) (.slice (some ad) lays.length c4) (.slice A5 anns.length c5) (.slice A6 subj.length c6)) 31)] ++ (b3, obj vk2) :: M2) (.refl _) ?_
   refine rO (fun Z hZ => (eE rfl (gY (Yv.load 2 T rfl rfl rfl rfl) (zN hZ ?_))))
   skip
   refine Run.keep [1, 2, 3, 4, 40] [_, _, _, _, _] rfl ?_
   refine Run.piece (fun env' L' I' => ∃ (vk : Value) (M : Own), env' = [(1, .pointer (some ⟨b1, 0, none⟩)), (2, .pointer (some ⟨b2, 0, none⟩)), (3, .pointer (some ⟨b3, 0, none⟩)), (4, .pointer (some ⟨b4, 0, none⟩))] /\ L' = [(b4, blk [.int .u8 108, str ([]), .slice A8 (lays.map dsJ).length c8] 38), (b2, blk [.int .u8 0, str [], .slice none 0 0] 38), (b1, blk (Mf.cs ⟨idx, ver, media, cfg, lays, anns, subj, art⟩ (.slice A1 cfg.urls.length c1) (.slice A2 cfg.anns.length c2) (.slice A3 cfg.plats.length c3) (.slice (some ad) lays.length c4) (.slice A5 anns.length c5) (.slice A6 subj.length c6)) 31)] ++ (b3, obj vk) :: M /\ Gr (tJs (d + 4 + 1)) I' 38 vk (ks2 ++ miK ⟨idx, ver, media, cfg, lays, anns, subj, art⟩ nk) M /\ Le J5 I') ?_ ?_
   ·intro k' fin
    cases idx with
    | true =>
     refine rT rfl ?_
     refine rP 2 (fun Z hZ => (eE rfl (gY (Yv.loadN 0 T rfl rfl rfl rfl rfl rfl) (zN hZ ((Ops.callP (N := [_, _, _]) (object_put (d + 4) J5 b3 [109, 97, 110, 105, 102, 101, 115, 116, 115] _ (laJ lays nk) ks2 vk2 M2 hG5 hrl (by omega)) (.refl _) rfl dc call18 rfl ?_))))))
     rintro y J6 N6 l6 ⟨vk6, M6, rfl, hG6⟩
     refine Ops.nil ?_
     skip
     refine Run.keep [1, 2, 3, 4] [_, _, _, _] rfl ?_
     exact fin _ _ _ ⟨vk6, M6, rfl, rfl, hG6, l6⟩
    | false =>
     repeat (first | refine rS ?_ | refine rF rfl ?_)
     refine rP 3 (fun Z hZ => (eE rfl (eE rfl (gY (Yv.loadN 2 T rfl rfl rfl rfl rfl rfl) (zN hZ ((Ops.call ((spec_DescriptorJson (d + 1) J5 cfg _ _ _ _ _ _ _ _ _ (hd.mono le5) (hkc rfl))) rfl dc call21 rfl ?_)))))))
     rintro y K6 k6 ⟨vc, rfl, hSc⟩
     refine Ops.callP (N := [_, _, _]) (object_put (d + 4) K6 b3 [99, 111, 110, 102, 105, 103] _ (dsJ cfg) ks2 vk2 M2 (hG5.mono k6) ⟨vc, rfl, hSc⟩ (by omega)) (.refl _) rfl dc call18 rfl ?_
     rintro y J6 N6 l6 ⟨vk6, M6, rfl, hG6⟩
     refine Ops.nil ?_
     skip
     refine rP 2 (fun Z hZ => (eE rfl (gY (Yv.loadN 0 T rfl rfl rfl rfl rfl rfl) (zN hZ ((Ops.callP (N := [_, _, _]) (object_put (d + 4) J6 b3 [108, 97, 121, 101, 114, 115] _ (laJ lays nk) _ vk6 M6 hG6 ((tJs (d + 4 + 1)).mono hrl (k6.trans l6)) (by rw [List.length_append]; simp only [List.length_cons, List.length_nil]; omega)) (.refl _) rfl dc call18 rfl ?_))))))
     rintro y J7 N7 l7 ⟨vk7, M7, rfl, hG7⟩
     refine Ops.nil ?_
     skip
     refine Run.keep [1, 2, 3, 4] [_, _, _, _] rfl ?_
     exact fin _ _ _ ⟨vk7, M7, rfl, rfl, by (have := hG7; rw [List.append_assoc] at this; exact this), (k6.trans l6).trans l7⟩
   rintro env L J ⟨vk, M, rfl, rfl, hG, hle⟩
   have le6 := le5.trans hle
   have hnm : (ks2 ++ miK ⟨idx, ver, media, cfg, lays, anns, subj, art⟩ nk).length <= 8 := by
    rw [List.length_append]
    cases idx <;> simp [miK] <;> omega
   obtain ⟨km, hkm⟩ : ∃ km, km = ks2 ++ miK ⟨idx, ver, media, cfg, lays, anns, subj, art⟩ nk := ⟨_, rfl⟩
   rw [<- hkm] at hG hnm
   refine rS ?_
   refine rP 3 (fun Z hZ => (eE rfl (eE rfl (gY (Yv.load 2 T rfl rfl rfl rfl) (zN hZ ((Ops.callP (N := [_, _, _]) (object_pairs (d + 3) J b3 [97, 110, 110, 111, 116, 97, 116, 105, 111, 110, 115] anns _ (ha.mono le6) hla km vk M hG (by omega)) (.refl _) rfl dc call22 rfl ?_)))))))
   rintro y J9 N9 l9 ⟨vk9, M9, rfl, hG9⟩
   refine Ops.nil ?_
   repeat refine rS ?_
   have hpl9 := opP_len [97, 110, 110, 111, 116, 97, 116, 105, 111, 110, 115] anns
   have le9 := le6.trans l9
   have hn9 : (km ++ opP [97, 110, 110, 111, 116, 97, 116, 105, 111, 110, 115] anns).length <= 10 := by rw [List.length_append]; omega
   by_cases hpe : subj = []
   ·skip
    refine rO (fun Z hZ => (eE rfl (gY (Yv.load 2 T rfl rfl rfl rfl) (eE rfl (kF (Ev.gtr rfl rfl) (by rw [hpe]; simp) (zN hZ ?_))))))
    repeat (first | refine rS ?_ | refine rK ?_ | refine rF rfl ?_)
    have hGr : Gr (tJs (d + 4 + 1)) J9 38 vk9 (km ++ opP [97, 110, 110, 111, 116, 97, 116, 105, 111, 110, 115] anns ++ sbK subj) M9 := by rw [hpe, sbK, List.append_nil]; exact hG9
    skip
    have hptl := sbK_len subj
    have hnr : (km ++ opP [97, 110, 110, 111, 116, 97, 116, 105, 111, 110, 115] anns ++ sbK subj).length <= 12 := by rw [List.length_append]; omega
    refine rP 3 (fun Z hZ => (eE rfl (eE rfl (gY (Yv.load 2 T rfl rfl rfl rfl) (zN hZ ((Ops.callP (N := [_, _, _]) (object_text (d + 4) J9 b3 [97, 114, 116, 105, 102, 97, 99, 116, 84, 121, 112, 101] art _ vk9 M9 hGr (by omega)) (.refl _) rfl dc call20 rfl ?_)))))))
    rintro y Jr Nr jr ⟨vkr, Mr, rfl, hGf⟩
    refine Ops.nil (rS (Run.keepGr hGf (N := [_, _, _, _]) (List.perm_append_comm (l₁ := [_, _, _, _]) (l₂ := Mr)) fun JF lF hSf => ?_))
    obtain ⟨AF, cF, rfl⟩ := hSf.isSl
    refine Run.region (oP rfl (oP rfl (oP rfl (Ops.loadN 3 rfl dc rfl rfl (T.aggOk rfl) (T.sizeOk rfl) rfl rfl (Ops.store 1 rfl rfl rfl rfl rfl (T.sizeOk rfl) rfl (lb rfl) rfl rfl (Ops.nil ?_))))))
    skip
    refine Run.retC T 1 (by rw [hCf]; exact func8) results8 rfl rfl rfl rfl rfl rfl (hR _ _ _ ?_)
    refine ⟨rfl, _, rfl, ?_⟩
    have e : km ++ opP [97, 110, 110, 111, 116, 97, 116, 105, 111, 110, 115] anns ++ sbK subj ++ opJ [97, 114, 116, 105, 102, 97, 99, 116, 84, 121, 112, 101] art = mfK ⟨idx, ver, media, cfg, lays, anns, subj, art⟩ (nkO (some ad)) := by simp only [hkm, hks2, hks1]; rw [hnk]; rfl
    rw [e] at hSf ⊢
    exact hSf
   ·have hpp := List.length_pos_iff.2 hpe
    refine rO (fun Z hZ => (eE rfl (gY (Yv.load 2 T rfl rfl rfl rfl) (eE rfl (kT (Ev.gtr rfl rfl) (by omega) (zN hZ ((rT rfl (rP 3 (fun Z hZ => (eE rfl (eE rfl (gY (Yv.load 2 T rfl rfl rfl rfl) (zN hZ ((Ops.indexSl (j := 0) (hs.mono le9) rfl dc rfl rfl (T.undOk rfl) (T.sizeOk rfl) (by omega) (by omega) fun bb off q cs hq hr hA => ?_))))))))))))))))
    obtain ⟨D1, d1, D2, d2, D3, d3, rfl, hqL⟩ := hr
    refine Ops.loadIN rfl dc rfl hA (T.aggOk rfl) (T.sizeOk rfl) rfl (Ops.call ((spec_DescriptorJson (d + 1) J9 q _ _ _ _ _ _ _ _ _ hqL (hks q (List.mem_of_getElem? hq)))) rfl dc call21 rfl ?_)
    rintro y Kq kq ⟨vc, rfl, hSc⟩
    refine Ops.callP (N := [_, _, _]) (object_put (d + 4) Kq b3 [115, 117, 98, 106, 101, 99, 116] _ (dsJ q) _ vk9 M9 (hG9.mono kq) ⟨vc, rfl, hSc⟩ (by omega)) (.refl _) rfl dc call18 rfl ?_
    rintro y Jq Nq lq ⟨vkq, Mq, rfl, hGq⟩
    refine Ops.nil (rS ?_)
    have hGr : Gr (tJs (d + 4 + 1)) Jq 38 vkq (km ++ opP [97, 110, 110, 111, 116, 97, 116, 105, 111, 110, 115] anns ++ sbK subj) Mq := by rw [sbK_head (q := q) hq]; exact hGq
    skip
    have hptl := sbK_len subj
    have hnr : (km ++ opP [97, 110, 110, 111, 116, 97, 116, 105, 111, 110, 115] anns ++ sbK subj).length <= 12 := by rw [List.length_append]; omega
    refine rP 3 (fun Z hZ => (eE rfl (eE rfl (gY (Yv.load 2 T rfl rfl rfl rfl) (zN hZ ((Ops.callP (N := [_, _, _]) (object_text (d + 4) Jq b3 [97, 114, 116, 105, 102, 97, 99, 116, 84, 121, 112, 101] art _ vkq Mq hGr (by omega)) (.refl _) rfl dc call20 rfl ?_)))))))
    rintro y Jr Nr jr ⟨vkr, Mr, rfl, hGf⟩
    refine Ops.nil (rS (Run.keepGr hGf (N := [_, _, _, _]) (List.perm_append_comm (l₁ := [_, _, _, _]) (l₂ := Mr)) fun JF lF hSf => ?_))
    obtain ⟨AF, cF, rfl⟩ := hSf.isSl
    refine Run.region (oP rfl (oP rfl (oP rfl (Ops.loadN 3 rfl dc rfl rfl (T.aggOk rfl) (T.sizeOk rfl) rfl rfl (Ops.store 1 rfl rfl rfl rfl rfl (T.sizeOk rfl) rfl (lb rfl) rfl rfl (Ops.nil ?_))))))
    skip
    refine Run.retC T 1 (by rw [hCf]; exact func8) results8 rfl rfl rfl rfl rfl rfl (hR _ _ _ ?_)
    refine ⟨rfl, _, rfl, ?_⟩
    have e : km ++ opP [97, 110, 110, 111, 116, 97, 116, 105, 111, 110, 115] anns ++ sbK subj ++ opJ [97, 114, 116, 105, 102, 97, 99, 116, 84, 121, 112, 101] art = mfK ⟨idx, ver, media, cfg, lays, anns, subj, art⟩ (nkO (some ad)) := by simp only [hkm, hks2, hks1]; rw [hnk]; rfl
    rw [e] at hSf ⊢
    exact hSf
end Go.V
namespace Go.V
set_option maxRecDepth 10000
theorem encs_len_geM : ∀ rs : List Nat, rs.length <= (encs rs).length
 | [] => Nat.zero_le _
 | r :: rs => by
  have := encs_len_geM rs
  have := (encR_pos r).1
  rw [encs_cons, List.length_append, List.length_cons]; omega
theorem wquo_le (s : Bs) (h : GoodT s) (w : Bs) : (wquo s w).1.length <= 12 * s.length + 2 := by
 obtain ⟨rs, rfl, hg⟩ := h
 have h1 := wtext_len rs w hg
 have h2 := encs_len_geM rs
 unfold wquo
 rw [runesOf_encs hg]
 simp only [List.length_append, List.length_cons, List.length_nil]; omega
theorem goodS.t {s : Bs} (h : goodS s) : GoodT s := runes_of_valid h.1
theorem hTell_asc {h : K2} (hd : digGood (hTell h) = true) : ∀ c ∈ hTell h, c.toNat < 128 := by
 obtain ⟨e, h1, h2⟩ := digGood_split hd
 rw [e]
 intro c hc
 rcases List.mem_append.1 hc with hc | hc
 ·have : ∀ x ∈ ([115, 104, 97, 50, 53, 54, 58] : Bs), x.toNat < 128 := by decide
  exact this c hc
 ·unfold allIn at h2
  rw [List.all_eq_true] at h2
  have h3 := h2 c hc
  have : ∀ x ∈ (hexT : Bs), x.toNat < 128 := by decide
  exact this c (by simpa using h3)
theorem hTell_len {h : K2} (hd : digGood (hTell h) = true) : (hTell h).length = 71 := by
 unfold digGood at hd
 simp only [Bool.and_eq_true, decide_eq_true_eq] at hd
 exact hd.1
theorem fine_tx (d : Nat) {s : Bs} (h : GoodT s) : Fine (d + 1) (txJ s) := by
 unfold Fine
 rw [if_pos (show (txJ s).kind = 115 from rfl)]; exact h
theorem fine_lit (d : Nat) {t : Bs} {k : List Js} {v : JV} (h : LitR t v) : Fine (d + 1) (.mk 110 t k) := by
 unfold Fine
 rw [if_neg (show (Js.mk 110 t k).kind ≠ 115 from (by decide : (110 : UInt8) ≠ 115)), if_neg (show (Js.mk 110 t k).kind ≠ 108 from (by decide : (110 : UInt8) ≠ 108)), if_neg (show (Js.mk 110 t k).kind ≠ 111 from (by decide : (110 : UInt8) ≠ 111))]
 exact ⟨v, h⟩
theorem fine_li (d : Nat) {t : Bs} {l : List Js} (h : ∀ x ∈ l, Fine d x) : Fine (d + 1) (.mk 108 t l) := by
 unfold Fine
 rw [if_neg (show (Js.mk 108 t l).kind ≠ 115 from (by decide : (108 : UInt8) ≠ 115)), if_pos (show (Js.mk 108 t l).kind = 108 from rfl)]
 exact h
theorem fine_ob (d : Nat) {t : Bs} {l : List Js} (h : FineM (Fine d) l) : Fine (d + 1) (.mk 111 t l) := by
 unfold Fine
 rw [if_neg (show (Js.mk 111 t l).kind ≠ 115 from (by decide : (111 : UInt8) ≠ 115)), if_neg (show (Js.mk 111 t l).kind ≠ 108 from (by decide : (111 : UInt8) ≠ 108)), if_pos (show (Js.mk 111 t l).kind = 111 from rfl)]
 exact h
theorem fineM_two {R : Js -> Prop} {k : Bs} {v : Js} (hk : GoodT k) (hv : R v) : FineM R [txJ k, v] := ⟨hk, hv, trivial⟩
theorem fine_ls (d : Nat) {l : List Bs} (h : ∀ s ∈ l, GoodT s) : Fine (d + 2) (lsJ l) := fine_li _ fun x hx => by
 obtain ⟨s, hs, rfl⟩ := List.mem_map.1 hx
 exact fine_tx d (h s hs)
theorem fine_pa (d : Nat) : ∀ {l : List K2}, (∀ s ∈ aTexts l, GoodT s) -> FineM (Fine (d + 1)) (prJs l)
 | [], _ => trivial
 | x :: l, h => ⟨h x.1 (by simp [aTexts]), fine_tx d (h x.2 (by simp [aTexts])), fine_pa d fun s hs => h s (by simp only [aTexts, List.flatMap_cons] at hs ⊢; exact List.mem_append_right _ hs)⟩
theorem fineM_opJ (d : Nat) {k s : Bs} (hk : GoodT k) (hs : GoodT s) : FineM (Fine (d + 1)) (opJ k s) := by
 unfold opJ
 split
 ·trivial
 ·exact fineM_two hk (fine_tx d hs)
theorem fineM_opL (d : Nat) {k : Bs} {l : List Bs} (hk : GoodT k) (hs : ∀ s ∈ l, GoodT s) : FineM (Fine (d + 2)) (opL k l) := by
 unfold opL
 split
 ·trivial
 ·exact fineM_two hk (fine_ls d hs)
theorem fineM_opP (d : Nat) {k : Bs} {l : List K2} (hk : GoodT k) (hs : ∀ s ∈ aTexts l, GoodT s) : FineM (Fine (d + 2)) (opP k l) := by
 unfold opP
 split
 ·trivial
 ·exact fineM_two hk (fine_ob _ (fine_pa d hs))
theorem fm {R : Js -> Prop} {a b : List Js} (h : FineM R a) (k : FineM R b) : FineM R (a ++ b) := FineM.append _ a (Nat.le_refl _) h k
theorem fineM_pl (d : Nat) {x : PfL} (h : ∀ s ∈ pTexts [x], goodS s) : FineM (Fine (d + 2)) (plK x) := by
 have hm : ∀ s, s ∈ [x.1.os, x.1.arch, x.1.ver, x.1.var] ++ x.2.2 ++ x.2.1 -> GoodT s := fun s hs => (h s (by simp only [pTexts, List.flatMap_cons, List.flatMap_nil, List.append_nil]; exact hs)).t
 unfold plK
 refine fm (fm (fm (fm (fm (fm trivial (fineM_two (goodT_asc (by decide)) (fine_tx _ (hm _ (by simp))))) (fineM_two (goodT_asc (by decide)) (fine_tx _ (hm _ (by simp))))) (fineM_opJ _ (goodT_asc (by decide)) (hm _ (by simp)))) (fineM_opL d (goodT_asc (by decide)) fun s hs => hm s (by simp [hs]))) (fineM_opJ _ (goodT_asc (by decide)) (hm _ (by simp)))) (fineM_opL d (goodT_asc (by decide)) fun s hs => hm s (by simp [hs]))
theorem sz_lt {n : Int} (h1 : -9223372036854775808 <= n) (h2 : n <= 9223372036854775807) : n.natAbs < 10 ^ 20 := by
 have : n.natAbs <= 9223372036854775808 := by omega
 exact Nat.lt_of_le_of_lt this (by decide)
theorem b64_goodT (s : Bs) : GoodT (b64 s) := goodT_asc fun c hc => by have := (b64_asc s c hc).2.1; omega
theorem fineM_ds (d : Nat) {x : Ds} (h : goodD x) (h1 : -9223372036854775808 <= x.size) (h2 : x.size <= 9223372036854775807) : FineM (Fine (d + 3)) (dsK x) := by
 obtain ⟨g1, g2, g3, g4, g5, g6, g7, g8⟩ := h
 have hm : ∀ s ∈ dTexts x, GoodT s := fun s hs => (g8 s hs).t
 have hpt : FineM (Fine (d + 3)) (ptK x.plats) := by
  cases hp : x.plats with
  | nil => trivial
  | cons y r =>
   refine fineM_two (goodT_asc (by decide)) (fine_ob _ (fineM_pl d fun s hs => g8 s ?_))
   unfold dTexts
   rw [hp]
   refine List.mem_append_right _ ?_
   simp only [pTexts, List.flatMap_cons, List.flatMap_nil, List.append_nil] at hs ⊢
   exact List.mem_append_left _ hs
 unfold dsK
 refine fm (fm (fm (fm (fm (fm (fm (fm trivial (fineM_two (goodT_asc (by decide)) (fine_tx _ (hm _ (by simp [dTexts]))))) (fineM_two (goodT_asc (by decide)) (fine_lit _ (lit_num _ (sz_lt h1 h2))))) (fineM_two (goodT_asc (by decide)) (fine_tx _ (goodT_asc (hTell_asc g1))))) (fineM_opJ _ (goodT_asc (by decide)) (b64_goodT _)))
  (fineM_opL _ (goodT_asc (by decide)) fun s hs => hm s (by simp [dTexts, hs]))) (fineM_opP _ (goodT_asc (by decide)) fun s hs => hm s (by simp [dTexts, hs]))) hpt) (fineM_opJ _ (goodT_asc (by decide)) (hm _ (by simp [dTexts])))
def szM (m : Mf) : Prop := (∀ x ∈ m.lays ++ m.subj ++ [m.cfg], -9223372036854775808 <= x.size /\ x.size <= 9223372036854775807) /\ -9223372036854775808 <= m.ver /\ m.ver <= 9223372036854775807
theorem fine_mf {m : Mf} (A : Option Addr) (h : goodM m) (hz : szM m) : Fine 6 (mfJ m (nkO A)) := by
 obtain ⟨g1, g2, g3, g4, g5, g6, g7⟩ := h
 obtain ⟨z1, z2, z3⟩ := hz
 have hm : ∀ s ∈ aTexts m.anns ++ [m.media, m.art], GoodT s := fun s hs => (g7 s hs).t
 have hds : ∀ (d : Nat) (x : Ds), x ∈ m.lays ++ m.subj -> Fine (d + 4) (dsJ x) := fun d x hx => fine_ob _ (fineM_ds d (g1 x hx) (z1 x (List.mem_append_left _ hx)).1 (z1 x (List.mem_append_left _ hx)).2)
 have hla : Fine 5 (laJ m.lays (nkO A)) := by
  cases A with
  | none => exact fine_lit 4 lit_null
  | some a =>
   refine fine_li 4 fun x hx => ?_
   obtain ⟨y, hy, rfl⟩ := List.mem_map.1 hx
   exact hds 0 y (by simp [hy])
 have hmi : FineM (Fine 5) (miK m (nkO A)) := by
  unfold miK
  cases hi : m.idx with
  | true => exact fineM_two (goodT_asc (by decide)) hla
  | false => exact fm (fineM_two (goodT_asc (by decide)) (fine_ob 4 (fineM_ds 1 (g2 hi) (z1 m.cfg (by simp)).1 (z1 m.cfg (by simp)).2))) (fineM_two (goodT_asc (by decide)) hla)
 have hsb : FineM (Fine 5) (sbK m.subj) := by
  cases hp : m.subj with
  | nil => trivial
  | cons y r => exact fineM_two (goodT_asc (by decide)) (hds 1 y (by rw [hp]; simp))
 refine fine_ob 5 ?_
 unfold mfK
 exact fm (fm (fm (fm (fm (fm trivial (fineM_two (goodT_asc (by decide)) (fine_lit 4 (lit_num _ (sz_lt z2 z3))))) (fineM_opJ 4 (goodT_asc (by decide)) (hm _ (by simp)))) hmi) (fineM_opP 3 (goodT_asc (by decide)) fun s hs => hm s (by simp [hs]))) hsb) (fineM_opJ 4 (goodT_asc (by decide)) (hm _ (by simp)))
end Go.V
namespace Go.V
def pfNames : List Bs := [[97, 114, 99, 104, 105, 116, 101, 99, 116, 117, 114, 101], [111, 115], [111, 115, 46, 118, 101, 114, 115, 105, 111, 110], [111, 115, 46, 102, 101, 97, 116, 117, 114, 101, 115], [118, 97, 114, 105, 97, 110, 116], [102, 101, 97, 116, 117, 114, 101, 115]]
def dsNames : List Bs := [[109, 101, 100, 105, 97, 84, 121, 112, 101], [115, 105, 122, 101], [100, 105, 103, 101, 115, 116], [100, 97, 116, 97], [117, 114, 108, 115], [97, 110, 110, 111, 116, 97, 116, 105, 111, 110, 115], [112, 108, 97, 116, 102, 111, 114, 109], [97, 114, 116, 105, 102, 97, 99, 116, 84, 121, 112, 101]]
def mfNames : List Bs := [[115, 99, 104, 101, 109, 97, 86, 101, 114, 115, 105, 111, 110], [109, 101, 100, 105, 97, 84, 121, 112, 101], [99, 111, 110, 102, 105, 103], [108, 97, 121, 101, 114, 115], [97, 110, 110, 111, 116, 97, 116, 105, 111, 110, 115], [115, 117, 98, 106, 101, 99, 116], [97, 114, 116, 105, 102, 97, 99, 116, 84, 121, 112, 101]]
def ixNames : List Bs := [[115, 99, 104, 101, 109, 97, 86, 101, 114, 115, 105, 111, 110], [109, 101, 100, 105, 97, 84, 121, 112, 101], [109, 97, 110, 105, 102, 101, 115, 116, 115], [97, 110, 110, 111, 116, 97, 116, 105, 111, 110, 115], [115, 117, 98, 106, 101, 99, 116], [97, 114, 116, 105, 102, 97, 99, 116, 84, 121, 112, 101]]
end Go.V
namespace Go.V
set_option maxRecDepth 10000
def opN (k s : Bs) : List NJ := if s = [] then [] else [(k, txJ s)]
def opNL (k : Bs) (l : List Bs) : List NJ := if l = [] then [] else [(k, lsJ l)]
def opNP (k : Bs) (l : List K2) : List NJ := if l = [] then [] else [(k, paJ l)]
theorem opN_eq (k s : Bs) : opJ k s = pairsJ (opN k s) := by unfold opJ opN; split <;> rfl
theorem opNL_eq (k : Bs) (l : List Bs) : opL k l = pairsJ (opNL k l) := by unfold opL opNL; split <;> rfl
theorem opNP_eq (k : Bs) (l : List K2) : opP k l = pairsJ (opNP k l) := by unfold opP opNP; split <;> rfl
theorem opN_sub (k s : Bs) : (opN k s).Sublist [(k, txJ s)] := by unfold opN; split <;> simp
theorem opNL_sub (k : Bs) (l : List Bs) : (opNL k l).Sublist [(k, lsJ l)] := by unfold opNL; split <;> simp
theorem opNP_sub (k : Bs) (l : List K2) : (opNP k l).Sublist [(k, paJ l)] := by unfold opNP; split <;> simp
theorem opN_mem {k s : Bs} {q : NJ} (h : q ∈ opN k s) : q = (k, txJ s) := List.mem_singleton.1 ((opN_sub k s).subset h)
theorem opNL_mem {k : Bs} {l : List Bs} {q : NJ} (h : q ∈ opNL k l) : q = (k, lsJ l) := List.mem_singleton.1 ((opNL_sub k l).subset h)
theorem opNP_mem {k : Bs} {l : List K2} {q : NJ} (h : q ∈ opNP k l) : q = (k, paJ l) := List.mem_singleton.1 ((opNP_sub k l).subset h)
theorem opN_has {k s : Bs} (h : s ≠ []) : (k, txJ s) ∈ opN k s := by unfold opN; rw [if_neg h]; exact List.mem_singleton.2 rfl
theorem opNL_has {k : Bs} {l : List Bs} (h : l ≠ []) : (k, lsJ l) ∈ opNL k l := by unfold opNL; rw [if_neg h]; exact List.mem_singleton.2 rfl
theorem opNP_has {k : Bs} {l : List K2} (h : l ≠ []) : (k, paJ l) ∈ opNP k l := by unfold opNP; rw [if_neg h]; exact List.mem_singleton.2 rfl
theorem hasF_of {names : List Bs} {K : List NJ} {q : NJ} {k : Int} (hq : q ∈ K) (hf : fieldR q.1 names = k) : hasF names K k = true := List.any_eq_true.2 ⟨q, hq, decide_eq_true hf⟩
theorem no_field {names : List Bs} {K : List NJ} {D : Int -> Bool} (hD : ∀ k, k ≠ -1 -> D k = hasF names K k) {k : Int} (hk : k ≠ -1) {q : NJ} {p : Prop} (hf : fieldR q.1 names = k) (h : ¬ p -> q ∈ K) : D k = false -> p := fun h0 => Classical.byContradiction fun hn => by
 rw [hD k hk, hasF_of (h hn) hf] at h0
 cases h0
def plN (x : PfL) : List NJ := [([97, 114, 99, 104, 105, 116, 101, 99, 116, 117, 114, 101], txJ x.1.arch)] ++ [([111, 115], txJ x.1.os)] ++ opN [111, 115, 46, 118, 101, 114, 115, 105, 111, 110] x.1.ver ++ opNL [111, 115, 46, 102, 101, 97, 116, 117, 114, 101, 115] x.2.1 ++ opN [118, 97, 114, 105, 97, 110, 116] x.1.var ++ opNL [102, 101, 97, 116, 117, 114, 101, 115] x.2.2
theorem plK_eq (x : PfL) : plK x = pairsJ (plN x) := by
 unfold plK plN
 simp only [pairsJ_app, opN_eq, opNL_eq, List.nil_append]
 rfl
def plM (x : PfL) (m : Bs × JV) : Prop := m.1.length <= 137438953472 /\ ((fieldR m.1 pfNames = 0 /\ m.2.kind = 34 /\ m.2.text = x.1.arch) \/ (fieldR m.1 pfNames = 1 /\ m.2.kind = 34 /\ m.2.text = x.1.os) \/ (fieldR m.1 pfNames = 2 /\ m.2.kind = 34 /\ m.2.text = x.1.ver) \/
 (fieldR m.1 pfNames = 3 /\ lsR m.2 x.2.1) \/ (fieldR m.1 pfNames = 4 /\ m.2.kind = 34 /\ m.2.text = x.1.var) \/ (fieldR m.1 pfNames = 5 /\ lsR m.2 x.2.2) \/ fieldR m.1 pfNames = -1)
def plE (x : PfL) (D : Int -> Bool) : Prop := (D 0 = false -> x.1.arch = []) /\ (D 1 = false -> x.1.os = []) /\ (D 2 = false -> x.1.ver = []) /\ (D 3 = false -> x.2.1 = []) /\ (D 4 = false -> x.1.var = []) /\ (D 5 = false -> x.2.2 = [])
def plR (x : PfL) (v : JV) : Prop := obR pfNames (plM x) (plE x) v
theorem plN_mem {x : PfL} {q : NJ} (h : q ∈ plN x) : q = ([97, 114, 99, 104, 105, 116, 101, 99, 116, 117, 114, 101], txJ x.1.arch) \/ q = ([111, 115], txJ x.1.os) \/ q = ([111, 115, 46, 118, 101, 114, 115, 105, 111, 110], txJ x.1.ver) \/ q = ([111, 115, 46, 102, 101, 97, 116, 117, 114, 101, 115], lsJ x.2.1) \/ q = ([118, 97, 114, 105, 97, 110, 116], txJ x.1.var) \/ q = ([102, 101, 97, 116, 117, 114, 101, 115], lsJ x.2.2) := by
 unfold plN at h
 simp only [List.mem_append, List.mem_singleton] at h
 rcases h with ((((h | h) | h) | h) | h) | h
 ·exact .inl h
 ·exact .inr (.inl h)
 ·exact .inr (.inr (.inl (opN_mem h)))
 ·exact .inr (.inr (.inr (.inl (opNL_mem h))))
 ·exact .inr (.inr (.inr (.inr (.inl (opN_mem h)))))
 ·exact .inr (.inr (.inr (.inr (.inr (opNL_mem h)))))
theorem obR_mono {names : List Bs} {Mb : Bs × JV -> Prop} {E E' : (Int -> Bool) -> Prop} {v : JV} (h : obR names Mb E v) (hE : ∀ D, E D -> E' D) : obR names Mb E' v := by
 obtain ⟨h0, ms, h1, h2, h3, h4, h5, h6⟩ := h
 exact ⟨h0, ms, h1, h2, h3, h4, h5, hE _ h6⟩
theorem rep_pl {d : Nat} {x : PfL} {v : JV} (h : Rep (d + 3) true (plJ x) v) : plR x v := by
 unfold plJ at h
 rw [plK_eq] at h
 have hs : (plN x).Sublist [([97, 114, 99, 104, 105, 116, 101, 99, 116, 117, 114, 101], txJ x.1.arch), ([111, 115], txJ x.1.os), ([111, 115, 46, 118, 101, 114, 115, 105, 111, 110], txJ x.1.ver), ([111, 115, 46, 102, 101, 97, 116, 117, 114, 101, 115], lsJ x.2.1), ([118, 97, 114, 105, 97, 110, 116], txJ x.1.var), ([102, 101, 97, 116, 117, 114, 101, 115], lsJ x.2.2)] :=
  (((((List.Sublist.refl [([97, 114, 99, 104, 105, 116, 101, 99, 116, 117, 114, 101], txJ x.1.arch)]).append (List.Sublist.refl [([111, 115], txJ x.1.os)])).append (opN_sub _ _)).append (opNL_sub _ _)).append (opN_sub _ _)).append (opNL_sub _ _)
 refine obR_mono (rep_obj (Mb := plM x) pfNames h ((hs.map _).nodup ?_) (by decide) (Nat.le_trans hs.length_le (lb rfl)) (fun q hq y hy => ?_) ⟨by first | decide | (dsimp only; decide), .inr (.inr (.inr (.inr (.inr (.inr (by decide))))))⟩) fun D hD => ?_
 ·show List.Nodup [fieldR [97, 114, 99, 104, 105, 116, 101, 99, 116, 117, 114, 101] pfNames, fieldR [111, 115] pfNames, fieldR [111, 115, 46, 118, 101, 114, 115, 105, 111, 110] pfNames, fieldR [111, 115, 46, 102, 101, 97, 116, 117, 114, 101, 115] pfNames, fieldR [118, 97, 114, 105, 97, 110, 116] pfNames, fieldR [102, 101, 97, 116, 117, 114, 101, 115] pfNames]
  decide
 ·rcases plN_mem hq with rfl | rfl | rfl | rfl | rfl | rfl
  ·exact ⟨by first | decide | (dsimp only; decide), .inl ⟨by first | decide | (dsimp only; decide), rep_tx hy⟩⟩
  ·exact ⟨by first | decide | (dsimp only; decide), .inr (.inl ⟨by first | decide | (dsimp only; decide), rep_tx hy⟩)⟩
  ·exact ⟨by first | decide | (dsimp only; decide), .inr (.inr (.inl ⟨by first | decide | (dsimp only; decide), rep_tx hy⟩))⟩
  ·exact ⟨by first | decide | (dsimp only; decide), .inr (.inr (.inr (.inl ⟨by first | decide | (dsimp only; decide), rep_ls hy⟩)))⟩
  ·exact ⟨by first | decide | (dsimp only; decide), .inr (.inr (.inr (.inr (.inl ⟨by first | decide | (dsimp only; decide), rep_tx hy⟩))))⟩
  ·exact ⟨by first | decide | (dsimp only; decide), .inr (.inr (.inr (.inr (.inr (.inl ⟨by first | decide | (dsimp only; decide), rep_ls hy⟩)))))⟩
 ·refine ⟨no_field hD (by decide) (q := ([97, 114, 99, 104, 105, 116, 101, 99, 116, 117, 114, 101], txJ x.1.arch)) (by dsimp only; decide) fun _ => by simp [plN], no_field hD (by decide) (q := ([111, 115], txJ x.1.os)) (by dsimp only; decide) fun _ => by simp [plN], no_field hD (by decide) (q := ([111, 115, 46, 118, 101, 114, 115, 105, 111, 110], txJ x.1.ver)) (by dsimp only; decide) fun hn => ?_, no_field hD (by decide) (q := ([111, 115, 46, 102, 101, 97, 116, 117, 114, 101, 115], lsJ x.2.1)) (by dsimp only; decide) fun hn => ?_, no_field hD (by decide) (q := ([118, 97, 114, 105, 97, 110, 116], txJ x.1.var)) (by dsimp only; decide) fun hn => ?_, no_field hD (by decide) (q := ([102, 101, 97, 116, 117, 114, 101, 115], lsJ x.2.2)) (by dsimp only; decide) fun hn => ?_⟩
  ·have := opN_has (k := [111, 115, 46, 118, 101, 114, 115, 105, 111, 110]) hn; unfold plN; simp only [List.mem_append]; simp [this]
  ·have := opNL_has (k := [111, 115, 46, 102, 101, 97, 116, 117, 114, 101, 115]) hn; unfold plN; simp only [List.mem_append]; simp [this]
  ·have := opN_has (k := [118, 97, 114, 105, 97, 110, 116]) hn; unfold plN; simp only [List.mem_append]; simp [this]
  ·have := opNL_has (k := [102, 101, 97, 116, 117, 114, 101, 115]) hn; unfold plN; simp only [List.mem_append]; simp [this]
def ptN (l : List PfL) : List NJ := match l with
 | [] => []
 | x :: _ => [([112, 108, 97, 116, 102, 111, 114, 109], plJ x)]
def dsN (x : Ds) : List NJ := [([109, 101, 100, 105, 97, 84, 121, 112, 101], txJ x.media)] ++ [([115, 105, 122, 101], nuJ x.size)] ++ [([100, 105, 103, 101, 115, 116], txJ (hTell x.dig))] ++ opN [100, 97, 116, 97] (b64 x.data) ++ opNL [117, 114, 108, 115] x.urls ++ opNP [97, 110, 110, 111, 116, 97, 116, 105, 111, 110, 115] x.anns ++ ptN x.plats ++ opN [97, 114, 116, 105, 102, 97, 99, 116, 84, 121, 112, 101] x.art
theorem dsK_eq (x : Ds) : dsK x = pairsJ (dsN x) := by
 have hp : ptK x.plats = pairsJ (ptN x.plats) := by cases x.plats <;> rfl
 unfold dsK dsN
 simp only [pairsJ_app, opN_eq, opNL_eq, opNP_eq, hp, List.nil_append]
 rfl
def dsM (x : Ds) (m : Bs × JV) : Prop := m.1.length <= 137438953472 /\ ((fieldR m.1 dsNames = 0 /\ m.2.kind = 34 /\ m.2.text = x.media) \/ (fieldR m.1 dsNames = 1 /\ m.2.kind = 48 /\ m.2.text = numT x.size) \/ (fieldR m.1 dsNames = 2 /\ m.2.kind = 34 /\ m.2.text = hTell x.dig) \/
 (fieldR m.1 dsNames = 3 /\ m.2.kind = 34 /\ m.2.text = b64 x.data /\ x.data ≠ []) \/ (fieldR m.1 dsNames = 4 /\ lsR m.2 x.urls) \/ (fieldR m.1 dsNames = 5 /\ paR m.2 x.anns) \/ (fieldR m.1 dsNames = 6 /\ ∃ p r, x.plats = p :: r /\ plR p m.2) \/ (fieldR m.1 dsNames = 7 /\ m.2.kind = 34 /\ m.2.text = x.art) \/ fieldR m.1 dsNames = -1)
def dsE (x : Ds) (D : Int -> Bool) : Prop := (D 0 = false -> x.media = []) /\ (D 1 = false -> x.size = 0) /\ (D 2 = false -> x.dig = ([], [])) /\ (D 3 = false -> x.data = []) /\ (D 4 = false -> x.urls = []) /\ (D 5 = false -> x.anns = []) /\ (D 6 = false -> x.plats = []) /\ (D 7 = false -> x.art = [])
def dsR (x : Ds) (v : JV) : Prop := obR dsNames (dsM x) (dsE x) v
theorem ptN_mem {l : List PfL} {q : NJ} (h : q ∈ ptN l) : ∃ p r, l = p :: r /\ q = ([112, 108, 97, 116, 102, 111, 114, 109], plJ p) := by
 cases l with
 | nil => cases h
 | cons p r => exact ⟨p, r, rfl, List.mem_singleton.1 h⟩
theorem ptN_map (l : List PfL) : ((ptN l).map fun q => fieldR q.1 dsNames).Sublist [6] := by
 cases l with
 | nil => exact List.nil_sublist _
 | cons p r => exact List.Sublist.refl _
theorem b64_nil : b64 [] = [] := rfl
theorem b64_ne {s : Bs} (h : s ≠ []) : b64 s ≠ [] := fun e => by
 have := b64_len s
 rw [e] at this
 have := List.length_pos_iff.2 h
 simp only [List.length_nil] at *
 omega
theorem one_field {names : List Bs} {k : Bs} {j : Js} {i : Int} {l : List NJ} (hl : l.Sublist [(k, j)]) (hf : fieldR k names = i) : (l.map fun q => fieldR q.1 names).Sublist [i] := by
 have := hl.map fun q : NJ => fieldR q.1 names
 rw [<- hf]; exact this
theorem rep_ds {d : Nat} {x : Ds} {v : JV} (h : Rep (d + 4) true (dsJ x) v) (h1 : -9223372036854775808 <= x.size) (h2 : x.size <= 9223372036854775807) : dsR x v := by
 unfold dsJ at h
 rw [dsK_eq] at h
 have hs : ((dsN x).map fun q => fieldR q.1 dsNames).Sublist [0, 1, 2, 3, 4, 5, 6, 7] := by
  unfold dsN
  simp only [List.map_append]
  exact ((((((((one_field (List.Sublist.refl _) (by decide)).append (one_field (List.Sublist.refl _) (by decide))).append (one_field (List.Sublist.refl _) (by decide))).append (one_field (opN_sub _ _) (by decide))).append (one_field (opNL_sub _ _) (by decide))).append (one_field (opNP_sub _ _) (by decide))).append (ptN_map _)).append (one_field (opN_sub _ _) (by decide)))
 have hlen : (dsN x).length <= 900000 := by have := hs.length_le; rw [List.length_map] at this; simp only [List.length_cons, List.length_nil] at this; omega
 refine obR_mono (rep_obj (Mb := dsM x) dsNames h (hs.nodup (by decide)) (by decide) hlen (fun q hq y hy => ?_) ⟨by first | decide | (dsimp only; decide), .inr (.inr (.inr (.inr (.inr (.inr (.inr (.inr (by decide))))))))⟩) fun D hD => ?_
 ·unfold dsN at hq
  simp only [List.mem_append, List.mem_singleton] at hq
  rcases hq with ((((((hq | hq) | hq) | hq) | hq) | hq) | hq) | hq
  ·subst hq; exact ⟨by first | decide | (dsimp only; decide), .inl ⟨by first | decide | (dsimp only; decide), rep_tx hy⟩⟩
  ·subst hq
   obtain rfl := rep_lit hy (lit_num _ (sz_lt h1 h2))
   exact ⟨by first | decide | (dsimp only; decide), .inr (.inl ⟨by first | decide | (dsimp only; decide), rfl, rfl⟩)⟩
  ·subst hq; exact ⟨by first | decide | (dsimp only; decide), .inr (.inr (.inl ⟨by first | decide | (dsimp only; decide), rep_tx hy⟩))⟩
  ·have hne : x.data ≠ [] := fun e => by rw [e, b64_nil] at hq; cases hq
   obtain rfl := opN_mem hq
   exact ⟨by first | decide | (dsimp only; decide), .inr (.inr (.inr (.inl ⟨by first | decide | (dsimp only; decide), (rep_tx hy).1, (rep_tx hy).2, hne⟩)))⟩
  ·obtain rfl := opNL_mem hq
   exact ⟨by first | decide | (dsimp only; decide), .inr (.inr (.inr (.inr (.inl ⟨by first | decide | (dsimp only; decide), rep_ls hy⟩))))⟩
  ·obtain rfl := opNP_mem hq
   exact ⟨by first | decide | (dsimp only; decide), .inr (.inr (.inr (.inr (.inr (.inl ⟨by first | decide | (dsimp only; decide), rep_pa hy⟩)))))⟩
  ·obtain ⟨p, r, e, rfl⟩ := ptN_mem hq
   exact ⟨by first | decide | (dsimp only; decide), .inr (.inr (.inr (.inr (.inr (.inr (.inl ⟨by first | decide | (dsimp only; decide), p, r, e, rep_pl hy⟩))))))⟩
  ·obtain rfl := opN_mem hq
   exact ⟨by first | decide | (dsimp only; decide), .inr (.inr (.inr (.inr (.inr (.inr (.inr (.inl ⟨by first | decide | (dsimp only; decide), rep_tx hy⟩)))))))⟩
 ·refine ⟨no_field hD (by decide) (q := ([109, 101, 100, 105, 97, 84, 121, 112, 101], txJ x.media)) (by dsimp only; decide) fun _ => by simp [dsN], no_field hD (by decide) (q := ([115, 105, 122, 101], nuJ x.size)) (by dsimp only; decide) fun _ => by simp [dsN], no_field hD (by decide) (q := ([100, 105, 103, 101, 115, 116], txJ (hTell x.dig))) (by dsimp only; decide) fun _ => by simp [dsN], no_field hD (by decide) (q := ([100, 97, 116, 97], txJ (b64 x.data))) (by dsimp only; decide) fun hn => ?_, no_field hD (by decide) (q := ([117, 114, 108, 115], lsJ x.urls)) (by dsimp only; decide) fun hn => ?_, no_field hD (by decide) (q := ([97, 110, 110, 111, 116, 97, 116, 105, 111, 110, 115], paJ x.anns)) (by dsimp only; decide) fun hn => ?_, fun h0 => ?_, no_field hD (by decide) (q := ([97, 114, 116, 105, 102, 97, 99, 116, 84, 121, 112, 101], txJ x.art)) (by dsimp only; decide) fun hn => ?_⟩
  ·have := opN_has (k := [100, 97, 116, 97]) (b64_ne hn); unfold dsN; simp only [List.mem_append]; simp [this]
  ·have := opNL_has (k := [117, 114, 108, 115]) hn; unfold dsN; simp only [List.mem_append]; simp [this]
  ·have := opNP_has (k := [97, 110, 110, 111, 116, 97, 116, 105, 111, 110, 115]) hn; unfold dsN; simp only [List.mem_append]; simp [this]
  ·cases hp : x.plats with
   | nil => rfl
   | cons p r =>
    have hm : ([112, 108, 97, 116, 102, 111, 114, 109], plJ p) ∈ dsN x := by unfold dsN; rw [hp]; simp [ptN]
    rw [hD 6 (by decide), hasF_of hm (by dsimp only; decide)] at h0
    cases h0
  ·have := opN_has (k := [97, 114, 116, 105, 102, 97, 99, 116, 84, 121, 112, 101]) hn; unfold dsN; simp only [List.mem_append]; simp [this]
end Go.V
namespace Go.V
open Go.RowKit
set_option maxRecDepth 10000
theorem All2.imp_mem {α β : Type} {R S : α -> β -> Prop} {l : List α} {m : List β} (h : All2 R l m) (hRS : ∀ x ∈ l, ∀ y, R x y -> S x y) : All2 S l m := by
 induction h with
 | nil => exact .nil
 | cons h1 _ ih => exact .cons (hRS _ List.mem_cons_self _ h1) (ih fun x hx => hRS x (List.mem_cons_of_mem _ hx))
theorem All2.of_map {α β γ : Type} {R : γ -> β -> Prop} {f : α -> γ} : ∀ {l : List α} {m : List β}, All2 R (l.map f) m -> All2 (fun x y => R (f x) y) l m
 | [], m, h => by cases h; exact .nil
 | x :: l, m, h => by
  cases h with
  | cons a b => exact .cons a (All2.of_map b)
def szD (x : Ds) : Prop := -9223372036854775808 <= x.size /\ x.size <= 9223372036854775807
def laR (nn : Bool) (l : List Ds) (v : JV) : Prop := (nn = false /\ v.kind = 110 /\ l = []) \/ (nn = true /\ v.kind = 91 /\ All2 dsR l v.kids)
theorem rep_la {d : Nat} {A : Option Addr} {l : List Ds} {v : JV} (h : Rep (d + 5) true (laJ l (nkO A)) v) (hz : ∀ x ∈ l, szD x) (hA : A = none -> l = []) : laR A.isSome l v := by
 cases A with
 | none =>
  obtain rfl := rep_lit (t := [110, 117, 108, 108]) h lit_null
  exact .inl ⟨rfl, rfl, hA rfl⟩
 | some a =>
  obtain ⟨h1, h2⟩ := rep_li (t := []) h
  exact .inr ⟨rfl, h1, (All2.of_map h2).imp_mem fun x hx y hr => rep_ds hr (hz x hx).1 (hz x hx).2⟩
def sbN (l : List Ds) : List NJ := match l with
 | [] => []
 | x :: _ => [([115, 117, 98, 106, 101, 99, 116], dsJ x)]
theorem sbN_mem {l : List Ds} {q : NJ} (h : q ∈ sbN l) : ∃ p r, l = p :: r /\ q = ([115, 117, 98, 106, 101, 99, 116], dsJ p) := by
 cases l with
 | nil => cases h
 | cons p r => exact ⟨p, r, rfl, List.mem_singleton.1 h⟩
theorem sbN_sub (names : List Bs) (l : List Ds) {i : Int} (hf : fieldR [115, 117, 98, 106, 101, 99, 116] names = i) : ((sbN l).map fun q => fieldR q.1 names).Sublist [i] := by
 cases l with
 | nil => exact List.nil_sublist _
 | cons p r => subst hf; exact List.Sublist.refl _
def miN (m : Mf) (nk : UInt8 × Bs) : List NJ := if m.idx then [([109, 97, 110, 105, 102, 101, 115, 116, 115], laJ m.lays nk)] else [([99, 111, 110, 102, 105, 103], dsJ m.cfg)] ++ [([108, 97, 121, 101, 114, 115], laJ m.lays nk)]
def mfN (m : Mf) (nk : UInt8 × Bs) : List NJ := [([115, 99, 104, 101, 109, 97, 86, 101, 114, 115, 105, 111, 110], nuJ m.ver)] ++ opN [109, 101, 100, 105, 97, 84, 121, 112, 101] m.media ++ miN m nk ++ opNP [97, 110, 110, 111, 116, 97, 116, 105, 111, 110, 115] m.anns ++ sbN m.subj ++ opN [97, 114, 116, 105, 102, 97, 99, 116, 84, 121, 112, 101] m.art
theorem mfK_eq (m : Mf) (nk : UInt8 × Bs) : mfK m nk = pairsJ (mfN m nk) := by
 have hp : sbK m.subj = pairsJ (sbN m.subj) := by cases m.subj <;> rfl
 have hi : miK m nk = pairsJ (miN m nk) := by unfold miK miN; split <;> rfl
 unfold mfK mfN
 simp only [pairsJ_app, opN_eq, opNP_eq, hp, hi, List.nil_append]
 rfl
def mfM (m : Mf) (nn : Bool) (q : Bs × JV) : Prop := q.1.length <= 137438953472 /\ ((fieldR q.1 mfNames = 0 /\ q.2.kind = 48 /\ q.2.text = numT m.ver) \/ (fieldR q.1 mfNames = 1 /\ q.2.kind = 34 /\ q.2.text = m.media) \/ (fieldR q.1 mfNames = 2 /\ dsR m.cfg q.2) \/ (fieldR q.1 mfNames = 3 /\ laR nn m.lays q.2) \/
 (fieldR q.1 mfNames = 4 /\ paR q.2 m.anns) \/ (fieldR q.1 mfNames = 5 /\ ∃ p r, m.subj = p :: r /\ dsR p q.2) \/ (fieldR q.1 mfNames = 6 /\ q.2.kind = 34 /\ q.2.text = m.art) \/ fieldR q.1 mfNames = -1)
def mfE (m : Mf) (nn : Bool) (D : Int -> Bool) : Prop := (D 0 = false -> m.ver = 0) /\ (D 1 = false -> m.media = []) /\ D 2 = true /\ D 3 = true /\ (D 4 = false -> m.anns = []) /\ (D 5 = false -> m.subj = []) /\ (D 6 = false -> m.art = [])
def ixM (m : Mf) (nn : Bool) (q : Bs × JV) : Prop := q.1.length <= 137438953472 /\ ((fieldR q.1 ixNames = 0 /\ q.2.kind = 48 /\ q.2.text = numT m.ver) \/ (fieldR q.1 ixNames = 1 /\ q.2.kind = 34 /\ q.2.text = m.media) \/ (fieldR q.1 ixNames = 2 /\ laR nn m.lays q.2) \/
 (fieldR q.1 ixNames = 3 /\ paR q.2 m.anns) \/ (fieldR q.1 ixNames = 4 /\ ∃ p r, m.subj = p :: r /\ dsR p q.2) \/ (fieldR q.1 ixNames = 5 /\ q.2.kind = 34 /\ q.2.text = m.art) \/ fieldR q.1 ixNames = -1)
def ixE (m : Mf) (nn : Bool) (D : Int -> Bool) : Prop := (D 0 = false -> m.ver = 0) /\ (D 1 = false -> m.media = []) /\ (D 2 = false -> nn = false /\ m.lays = []) /\ (D 3 = false -> m.anns = []) /\ (D 4 = false -> m.subj = []) /\ (D 5 = false -> m.art = [])
theorem sub_len {names : List Bs} {K : List NJ} {l : List Int} (h : (K.map fun q => fieldR q.1 names).Sublist l) (hl : l.length <= 900000) : K.length <= 900000 := by
 have := h.length_le
 rw [List.length_map] at this; omega
theorem rep_mf {m : Mf} {A : Option Addr} {v : JV} (h : Rep 6 true (mfJ m (nkO A)) v) (hi : m.idx = false) (hv1 : -9223372036854775808 <= m.ver) (hv2 : m.ver <= 9223372036854775807) (hc : szD m.cfg) (hz : ∀ x ∈ m.lays, szD x) (hs : ∀ x ∈ m.subj, szD x) (hA : A = none -> m.lays = []) : obR mfNames (mfM m A.isSome) (mfE m A.isSome) v := by
 unfold mfJ at h
 rw [mfK_eq] at h
 have hsub : ((mfN m (nkO A)).map fun q => fieldR q.1 mfNames).Sublist [0, 1, 2, 3, 4, 5, 6] := by
  unfold mfN miN
  rw [hi]
  simp only [List.map_append, Bool.false_eq_true, if_false]
  exact (((((one_field (List.Sublist.refl _) (by decide)).append (one_field (opN_sub _ _) (by decide))).append ((one_field (List.Sublist.refl _) (by decide)).append (one_field (List.Sublist.refl _) (by decide)))).append (one_field (opNP_sub _ _) (by decide))).append (sbN_sub _ _ (by decide))).append (one_field (opN_sub _ _) (by decide))
 refine obR_mono (rep_obj (Mb := mfM m A.isSome) mfNames h (hsub.nodup (by decide)) (by decide) (sub_len hsub (by decide)) (fun q hq y hy => ?_) ⟨by first | decide | (dsimp only; decide), .inr (.inr (.inr (.inr (.inr (.inr (.inr (by decide)))))))⟩) fun D hD => ?_
 ·unfold mfN miN at hq
  rw [hi] at hq
  simp only [List.mem_append, List.mem_singleton, Bool.false_eq_true, if_false] at hq
  rcases hq with ((((hq | hq) | (hq | hq)) | hq) | hq) | hq
  ·subst hq
   obtain rfl := rep_lit hy (lit_num _ (sz_lt hv1 hv2))
   exact ⟨by first | decide | (dsimp only; decide), .inl ⟨by first | decide | (dsimp only; decide), rfl, rfl⟩⟩
  ·obtain rfl := opN_mem hq
   exact ⟨by first | decide | (dsimp only; decide), .inr (.inl ⟨by first | decide | (dsimp only; decide), rep_tx hy⟩)⟩
  ·subst hq
   exact ⟨by first | decide | (dsimp only; decide), .inr (.inr (.inl ⟨by first | decide | (dsimp only; decide), rep_ds (d := 1) hy hc.1 hc.2⟩))⟩
  ·subst hq
   exact ⟨by first | decide | (dsimp only; decide), .inr (.inr (.inr (.inl ⟨by first | decide | (dsimp only; decide), rep_la (d := 0) hy hz hA⟩)))⟩
  ·obtain rfl := opNP_mem hq
   exact ⟨by first | decide | (dsimp only; decide), .inr (.inr (.inr (.inr (.inl ⟨by first | decide | (dsimp only; decide), rep_pa (d := 3) hy⟩))))⟩
  ·obtain ⟨p, r, e, rfl⟩ := sbN_mem hq
   have hp := hs p (by rw [e]; exact List.mem_cons_self)
   exact ⟨by first | decide | (dsimp only; decide), .inr (.inr (.inr (.inr (.inr (.inl ⟨by first | decide | (dsimp only; decide), p, r, e, rep_ds (d := 1) hy hp.1 hp.2⟩)))))⟩
  ·obtain rfl := opN_mem hq
   exact ⟨by first | decide | (dsimp only; decide), .inr (.inr (.inr (.inr (.inr (.inr (.inl ⟨by first | decide | (dsimp only; decide), rep_tx hy⟩))))))⟩
 ·refine ⟨no_field hD (by decide) (q := ([115, 99, 104, 101, 109, 97, 86, 101, 114, 115, 105, 111, 110], nuJ m.ver)) (by dsimp only; decide) fun _ => by simp [mfN], no_field hD (by decide) (q := ([109, 101, 100, 105, 97, 84, 121, 112, 101], txJ m.media)) (by dsimp only; decide) fun hn => ?_, ?_, ?_, no_field hD (by decide) (q := ([97, 110, 110, 111, 116, 97, 116, 105, 111, 110, 115], paJ m.anns)) (by dsimp only; decide) fun hn => ?_, fun h0 => ?_, no_field hD (by decide) (q := ([97, 114, 116, 105, 102, 97, 99, 116, 84, 121, 112, 101], txJ m.art)) (by dsimp only; decide) fun hn => ?_⟩
  ·have := opN_has (k := [109, 101, 100, 105, 97, 84, 121, 112, 101]) hn; unfold mfN; simp only [List.mem_append]; simp [this]
  ·rw [hD 2 (by decide)]; exact hasF_of (q := ([99, 111, 110, 102, 105, 103], dsJ m.cfg)) (by simp [mfN, miN, hi]) (by dsimp only; decide)
  ·rw [hD 3 (by decide)]; exact hasF_of (q := ([108, 97, 121, 101, 114, 115], laJ m.lays (nkO A))) (by simp [mfN, miN, hi]) (by dsimp only; decide)
  ·have := opNP_has (k := [97, 110, 110, 111, 116, 97, 116, 105, 111, 110, 115]) hn; unfold mfN; simp only [List.mem_append]; simp [this]
  ·cases hp : m.subj with
   | nil => rfl
   | cons p r =>
    have hm : ([115, 117, 98, 106, 101, 99, 116], dsJ p) ∈ mfN m (nkO A) := by unfold mfN; rw [hp]; simp [sbN]
    rw [hD 5 (by decide), hasF_of hm (by dsimp only; decide)] at h0
    cases h0
  ·have := opN_has (k := [97, 114, 116, 105, 102, 97, 99, 116, 84, 121, 112, 101]) hn; unfold mfN; simp only [List.mem_append]; simp [this]
theorem rep_ix {m : Mf} {A : Option Addr} {v : JV} (h : Rep 6 true (mfJ m (nkO A)) v) (hi : m.idx = true) (hv1 : -9223372036854775808 <= m.ver) (hv2 : m.ver <= 9223372036854775807) (hz : ∀ x ∈ m.lays, szD x) (hs : ∀ x ∈ m.subj, szD x) (hA : A = none -> m.lays = []) : obR ixNames (ixM m A.isSome) (ixE m A.isSome) v := by
 unfold mfJ at h
 rw [mfK_eq] at h
 have hsub : ((mfN m (nkO A)).map fun q => fieldR q.1 ixNames).Sublist [0, 1, 2, 3, 4, 5] := by
  unfold mfN miN
  rw [hi]
  simp only [List.map_append, if_true]
  exact (((((one_field (List.Sublist.refl _) (by decide)).append (one_field (opN_sub _ _) (by decide))).append (one_field (List.Sublist.refl _) (by decide))).append (one_field (opNP_sub _ _) (by decide))).append (sbN_sub _ _ (by decide))).append (one_field (opN_sub _ _) (by decide))
 refine obR_mono (rep_obj (Mb := ixM m A.isSome) ixNames h (hsub.nodup (by decide)) (by decide) (sub_len hsub (by decide)) (fun q hq y hy => ?_) ⟨by first | decide | (dsimp only; decide), .inr (.inr (.inr (.inr (.inr (.inr (by decide))))))⟩) fun D hD => ?_
 ·unfold mfN miN at hq
  rw [hi] at hq
  simp only [List.mem_append, List.mem_singleton, if_true] at hq
  rcases hq with ((((hq | hq) | hq) | hq) | hq) | hq
  ·subst hq
   obtain rfl := rep_lit hy (lit_num _ (sz_lt hv1 hv2))
   exact ⟨by first | decide | (dsimp only; decide), .inl ⟨by first | decide | (dsimp only; decide), rfl, rfl⟩⟩
  ·obtain rfl := opN_mem hq
   exact ⟨by first | decide | (dsimp only; decide), .inr (.inl ⟨by first | decide | (dsimp only; decide), rep_tx hy⟩)⟩
  ·subst hq
   exact ⟨by first | decide | (dsimp only; decide), .inr (.inr (.inl ⟨by first | decide | (dsimp only; decide), rep_la (d := 0) hy hz hA⟩))⟩
  ·obtain rfl := opNP_mem hq
   exact ⟨by first | decide | (dsimp only; decide), .inr (.inr (.inr (.inl ⟨by first | decide | (dsimp only; decide), rep_pa (d := 3) hy⟩)))⟩
  ·obtain ⟨p, r, e, rfl⟩ := sbN_mem hq
   have hp := hs p (by rw [e]; exact List.mem_cons_self)
   exact ⟨by first | decide | (dsimp only; decide), .inr (.inr (.inr (.inr (.inl ⟨by first | decide | (dsimp only; decide), p, r, e, rep_ds (d := 1) hy hp.1 hp.2⟩))))⟩
  ·obtain rfl := opN_mem hq
   exact ⟨by first | decide | (dsimp only; decide), .inr (.inr (.inr (.inr (.inr (.inl ⟨by first | decide | (dsimp only; decide), rep_tx hy⟩)))))⟩
 ·refine ⟨no_field hD (by decide) (q := ([115, 99, 104, 101, 109, 97, 86, 101, 114, 115, 105, 111, 110], nuJ m.ver)) (by dsimp only; decide) fun _ => by simp [mfN], no_field hD (by decide) (q := ([109, 101, 100, 105, 97, 84, 121, 112, 101], txJ m.media)) (by dsimp only; decide) fun hn => ?_, no_field hD (by decide) (q := ([109, 97, 110, 105, 102, 101, 115, 116, 115], laJ m.lays (nkO A))) (by dsimp only; decide) fun _ => by simp [mfN, miN, hi], no_field hD (by decide) (q := ([97, 110, 110, 111, 116, 97, 116, 105, 111, 110, 115], paJ m.anns)) (by dsimp only; decide) fun hn => ?_, fun h0 => ?_, no_field hD (by decide) (q := ([97, 114, 116, 105, 102, 97, 99, 116, 84, 121, 112, 101], txJ m.art)) (by dsimp only; decide) fun hn => ?_⟩
  ·have := opN_has (k := [109, 101, 100, 105, 97, 84, 121, 112, 101]) hn; unfold mfN; simp only [List.mem_append]; simp [this]
  ·have := opNP_has (k := [97, 110, 110, 111, 116, 97, 116, 105, 111, 110, 115]) hn; unfold mfN; simp only [List.mem_append]; simp [this]
  ·cases hp : m.subj with
   | nil => rfl
   | cons p r =>
    have hm : ([115, 117, 98, 106, 101, 99, 116], dsJ p) ∈ mfN m (nkO A) := by unfold mfN; rw [hp]; simp [sbN]
    rw [hD 4 (by decide), hasF_of hm (by dsimp only; decide)] at h0
    cases h0
  ·have := opN_has (k := [97, 114, 116, 105, 102, 97, 99, 116, 84, 121, 112, 101]) hn; unfold mfN; simp only [List.mem_append]; simp [this]
end Go.V
namespace Go.V
open Go.RowKit Go.ChangeMaps
def lef (es : Array MapEntry) (seen : Array Nat) : List MapEntry := es.toList.filter fun e => !seen.contains e.born
theorem lef_left (es : Array MapEntry) (seen : Array Nat) : (leftOf es seen).toList = lef es seen := by unfold leftOf lef; rw [Array.toList_filter]
theorem lef_nil (es : Array MapEntry) : lef es #[] = es.toList := by unfold lef; simp
theorem lef_push (es : Array MapEntry) (seen : Array Nat) (e : MapEntry) (hn : (es.toList.map (·.born)).Nodup) (he : e ∈ lef es seen) : (lef es seen).Perm (e :: lef es (seen.push e.born)) := by
 have hf : lef es (seen.push e.born) = (lef es seen).filter fun x => x.born != e.born := by
  unfold lef
  rw [List.filter_filter]
  congr 1
  funext x
  simp only [Array.contains_push, Bool.not_or, bne, Bool.and_comm]
 rw [hf]
 have hn' : ((lef es seen).map (·.born)).Nodup := hn.sublist (List.filter_sublist.map _)
 generalize lef es seen = l at he hn'
 clear hf hn
 induction l with
 | nil => cases he
 | cons x l ih =>
  rw [List.map_cons, List.nodup_cons] at hn'
  obtain ⟨h1, h2⟩ := hn'
  have hall : ∀ y ∈ l, y.born ≠ x.born := fun y hy h => h1 (h ▸ List.mem_map_of_mem hy)
  by_cases hx : e = x
  ·subst hx
   rw [List.filter_cons_of_neg (by simp), List.filter_eq_self.2 fun y hy => by simpa using hall y hy]
  ·have hel : e ∈ l := (List.mem_cons.1 he).resolve_left hx
   rw [List.filter_cons_of_pos (by simpa using (hall e hel).symm)]
   exact ((ih hel h2).cons x).trans (List.Perm.swap _ _ _)
section
variable {P : Program} {n : Nat} {C : Cx} {k : List Item} {env : Env} {L : Own} {I : Imm} {ops : Array Oper} {i : Nat} {l : List Oper} {S : World → Prop}
variable {ty : TypeId} {ps : String} {af : Array Edge} {g : Option (Nat × Bool)} {d : Nat}
theorem Ops.rangeI {x : Operand} {ts kt et : TypeId} {bm clock : Nat} {es : Array MapEntry} (T : Tab P) (hI : I bm = some (.map es clock)) (hg : want env ops g = some true) (hd : d < n) (hu : T.und ts = some (.map kt et)) (hx : opnd env x = some (.map (some bm)))
  (next : ∀ b, Ops P n C ops (i + 1) l k ((d, .pointer (some ⟨b, 0, none⟩)) :: env) ((b, .mapIter (some bm) clock #[] clock) :: L) I) : Ops P n C ops i (⟨some d, .range ts x, ty, ps, af, g⟩ :: l) k env L I :=
 Ops.valW hg (dOk hd) fun a W he hi => ⟨.pointer (some ⟨W.heap.size, 0, none⟩), W.alloc (.mapIter (some bm) clock #[] clock), (W.heap.size, .mapIter (some bm) clock #[] clock) :: L, I,
  .inl (by
   have : ({ W with heap := W.heap.push (.mapIter (some bm) clock #[] clock) } : World) = W.alloc (.mapIter (some bm) clock #[] clock) := rfl
   have hW := hi.fits.imm bm _ hI
   have hgo := run_getObj (P := P) hW (fun _ _ _ h => by cases h)
   simp [execOp, Instr.range, eval_opnd he hx, T.undOk hu, newObj, Sem.run, this, hgo]), hi.alloc _, next _⟩
theorem Ops.nextI {x : Operand} {r bm since c0 clock : Nat} {seen : Array Nat} {es : Array MapEntry} (j : Nat) (hI : I bm = some (.map es clock)) (hold : ∀ e ∈ es.toList, e.born < since) (hsc : since <= c0) (hg : want env ops g = some true) (hd : d < n) (hx : opnd env x = some (.pointer (some ⟨r, 0, none⟩)))
  (hL : L[j]? = some (r, .mapIter (some bm) since seen c0))
  (hdone : lef es seen = [] -> Ops P n C ops (i + 1) l k ((d, .tuple #[.bool false]) :: env) L I)
  (hmore : ∀ e ∈ lef es seen, Ops P n C ops (i + 1) l k ((d, .tuple #[.bool true, e.key, e.val]) :: env) (upL L j (.mapIter (some bm) since (seen.push e.born) clock)) I) : Ops P n C ops i (⟨some d, .next x false, ty, ps, af, g⟩ :: l) k env L I :=
 Ops.valW hg (dOk hd) fun a W he hi => by
  have hW := hi.fits.own r _ (List.mem_of_getElem? hL)
  have hB := hi.fits.imm bm _ hI
  rcases run_next_at (P := P) W ty r bm since c0 seen es clock hW hB hold hsc with ⟨h0, hr⟩ | ⟨e, hmem, w1, hw1, hr⟩
  ·refine ⟨.tuple #[.bool false], W, L, I, .inl ?_, hi, hdone ?_⟩
   ·simp only [execOp, eval_opnd he hx, Sem.run_bind, hr, Result.andThen_ok]; rfl
   ·rw [<- lef_left]
    have : leftOf es seen = #[] := Array.eq_empty_of_size_eq_zero h0
    rw [this]
  ·obtain ⟨R, hp1, hp2⟩ := upL_perm L j r _ (.mapIter (some bm) since (seen.push e.born) clock) hL
   have hi1 : Inv C.w0 C.I0 C.L0 I L w1 := by
    rcases hw1 with rfl | rfl
    ·exact hi
    ·exact hi.drew
   refine ⟨.tuple #[.bool true, e.key, e.val], setBlock w1 r (.mapIter (some bm) since (seen.push e.born) clock), upL L j (.mapIter (some bm) since (seen.push e.born) clock), I, .inl ?_, ((hi1.perm hp1).setObj _).perm hp2.symm, hmore e (by rw [<- lef_left]; exact hmem)⟩
   simp only [execOp, eval_opnd he hx, Sem.run_bind, hr, Result.andThen_ok]; rfl
theorem Ops.entryI {x : Operand} {r bm since clock : Nat} {seen : Array Nat} {es : Array MapEntry} {e : MapEntry} (j : Nat) (hI : I bm = some (.map es clock)) (hn : (es.toList.map (·.born)).Nodup) (hem : e ∈ es.toList) (hg : want env ops g = some true) (hd : d < n) (hx : opnd env x = some (.pointer (some ⟨r, 0, none⟩)))
  (hL : L[j]? = some (r, .mapIter (some bm) since (seen.push e.born) clock))
  (next : Ops P n C ops (i + 1) l k ((d, .tuple #[e.key, e.val]) :: env) L I) : Ops P n C ops i (⟨some d, .entry x, ty, ps, af, g⟩ :: l) k env L I :=
 Ops.val hg (dOk hd) (fun a W he hi => by
  have hr := run_entry_at (P := P) W r bm since seen es clock e (hi.fits.own r _ (List.mem_of_getElem? hL)) (hi.fits.imm bm _ hI) hem hn
  simp only [execOp, eval_opnd he hx, Sem.run_bind, hr, Result.andThen_ok]; rfl) next
theorem Ev.lssS {x y : Operand} {t t' : TypeId} {s u : List UInt8} (hx : opnd env x = some (str s)) (hy : opnd env y = some (str u)) : Ev P n env (.binOp .lss t x y t') (.bool (decide (s < u))) :=
 Ev.of2 hx hy (fun _ => run_eqGuard_string ..) fun W => by
  rw [<- bless_eq]
  simp [str, binOp, Op.stringOp, str_toList]
theorem Ops.mapGetV {t kt et : TypeId} {x y : Operand} {b : Nat} {o : Obj} {m : KV} {key : List UInt8} {z : Value} (T : Tab P) (hI : I b = some o) (hM : Mp o m) (hg : want env ops g = some true) (hd : d < n) (hx : opnd env x = some (.map (some b))) (hy : opnd env y = some (str key))
  (hu : T.und t = some (.map kt et)) (hk : T.und kt = some .string) (hz : T.zero et = some z)
  (next : Ops P n C ops (i + 1) l k ((d, (mget key m).getD z) :: env) L I) : Ops P n C ops i (⟨some d, .lookup t x y false, ty, ps, af, g⟩ :: l) k env L I :=
 Ops.val hg (dOk hd) (fun a W he hi => by
  have hW := hi.fits.imm b _ hI
  have hr := run_mapGet (P := P) (key := key) hW hM (und_of_run (W := W) (T.undOk hu W)) (und_of_run (W := W) (T.undOk hk W)) (T.zeroOk hz) false
  simp only [execOp, eval_opnd he hx, eval_opnd he hy, Sem.run_bind, hr, Result.andThen_ok]; rfl) next
end
end Go.V
namespace Go.V
open Go.RowKit
set_option maxRecDepth 10000
theorem setAt_in {cells dc ws : List Value} {off k : Nat} (h1 : k + ws.length <= dc.length) (h2 : off + dc.length <= cells.length) : setAt (setAt cells off dc) (off + k) ws = setAt cells off (setAt dc k ws) := by
 have hl : (cells.take off).length = off := by rw [List.length_take]; omega
 have e1 : ∀ z : List Value, (cells.take off ++ z).take (off + k) = cells.take off ++ z.take k := fun z => by
  rw [List.take_append, hl, List.take_of_length_le (by omega), Nat.add_sub_cancel_left]
 have e2 : ∀ z : List Value, (cells.take off ++ z).drop (off + k + ws.length) = z.drop (k + ws.length) := fun z => by
  rw [Nat.add_assoc, <- List.drop_drop, List.drop_left' hl]
 have hl2 : (dc.take k).length = k := by rw [List.length_take]; omega
 have e3 : ((dc.take k ++ ws ++ dc.drop (k + ws.length)).length) = dc.length := by simp only [List.length_append, List.length_take, List.length_drop]; omega
 unfold setAt
 rw [List.append_assoc (cells.take off) dc, e1, e2, List.take_append_of_le_length (by omega), List.drop_append_of_le_length (by omega), e3]
 simp only [List.append_assoc]
theorem setAt_nth {cells dc : List Value} {off k : Nat} {w : Value} (h : dc[k]? = some w) (h2 : off + dc.length <= cells.length) : (setAt cells off dc)[off + k]? = some w := by
 have hk := (List.getElem?_eq_some_iff.1 h).1
 unfold setAt
 rw [List.append_assoc, List.getElem?_append_right (by rw [List.length_take]; omega), List.length_take, Nat.min_eq_left (by omega), Nat.add_sub_cancel_left, List.getElem?_append_left hk, h]
theorem setAt_length {cells dc : List Value} {off : Nat} (h2 : off + dc.length <= cells.length) : (setAt cells off dc).length = cells.length := by
 unfold setAt
 simp only [List.length_append, List.length_take, List.length_drop]; omega
theorem setAt_midW (A B C X : List Value) (h : X.length = B.length) : setAt (A ++ (B ++ C)) A.length X = A ++ (X ++ C) := by
 unfold setAt
 rw [List.take_left' rfl, h, <- List.drop_drop, List.drop_left' rfl, List.drop_left' rfl, List.append_assoc]
def kvs (l : List K2) : KV := l.foldl (fun mp p => mset p.1 (str p.2) mp) []
def MapR (J : Imm) (c : Value) (l : List K2) : Prop := (c = .map none /\ l = []) \/ ∃ m o, c = .map (some m) /\ J m = some o /\ Mp o (kvs l)
theorem MapR.mono {J K : Imm} {c : Value} {l : List K2} (h : MapR J c l) (hle : Le J K) : MapR K c l := by
 rcases h with h | ⟨m, o, h1, h2, h3⟩
 ·exact .inl h
 ·exact .inr ⟨m, o, h1, hle m o h2, h3⟩
end Go.V
