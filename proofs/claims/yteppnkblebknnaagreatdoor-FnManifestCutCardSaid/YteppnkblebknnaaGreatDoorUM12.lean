import Derived.Test.YteppnkblebknnaaGreatDoorUM11
import Derived.Test.YteppnkblebknnaaGreatDoorUM4
import Derived.Shelf.Strconv.ParseIntPublic10
import Derived.Test.YteppnkblebknnaaGreatDoorProg
import Derived.KernelRfl
set_option linter.unusedVariables false
set_option linter.unusedSimpArgs false
namespace Go.V
open Go.Proofs.Tryz
open Go.RowKit
set_option maxRecDepth 10000
attribute [local irreducible] Run Ops QD
def sbK (l : List Ds) : List Js := match l with
 | [] => []
 | x :: _ => [txJ [115, 117, 98, 106, 101, 99, 116], dsJ x]
theorem sbK_len (l : List Ds) : (sbK l).length ≤ 2 := by cases l <;> simp [sbK]
theorem sbK_head {l : List Ds} {q : Ds} (h : l[0]? = some q) : sbK l = [txJ [115, 117, 98, 106, 101, 99, 116], dsJ q] := by
 cases l with
 | nil => cases h
 | cons x l => obtain rfl : x = q := Option.some.inj h; rfl
def nkO (A : Option Addr) : UInt8 × Bs := match A with
 | none => (110, [110, 117, 108, 108])
 | some _ => (108, [])
def laJ (l : List Ds) (nk : UInt8 × Bs) : Js := .mk nk.1 nk.2 (l.map dsJ)
def miK (m : Mf) (nk : UInt8 × Bs) : List Js := if m.idx then [txJ [109, 97, 110, 105, 102, 101, 115, 116, 115], laJ m.lays nk] else [txJ [99, 111, 110, 102, 105, 103], dsJ m.cfg] ++ [txJ [108, 97, 121, 101, 114, 115], laJ m.lays nk]
def mfK (m : Mf) (nk : UInt8 × Bs) : List Js := [] ++ [txJ [115, 99, 104, 101, 109, 97, 86, 101, 114, 115, 105, 111, 110], nuJ m.ver] ++ opJ [109, 101, 100, 105, 97, 84, 121, 112, 101] m.media ++ miK m nk ++ opP [97, 110, 110, 111, 116, 97, 116, 105, 111, 110, 115] m.anns ++ sbK m.subj ++ opJ [97, 114, 116, 105, 102, 97, 99, 116, 84, 121, 112, 101] m.art
def mfJ (m : Mf) (nk : UInt8 × Bs) : Js := .mk 111 [] (mfK m nk)
def okM (m : Mf) : Prop := (∀ x ∈ m.lays, okD x) ∧ (∀ x ∈ m.subj, okD x) ∧ (m.idx = false → okD m.cfg) ∧ m.lays.length ≤ 100000 ∧ m.anns.length ≤ 400000 ∧ -9223372036854775808 ≤ m.ver ∧ m.ver ≤ 9223372036854775807
set_option maxHeartbeats 4000000 in
theorem spec_ManifestJson (d : Nat) (I : Imm) (m : Mf) (A1 : Option Addr) (n1 c1 : Nat) (A2 : Option Addr) (n2 c2 : Nat) (A3 : Option Addr) (n3 c3 : Nat) (A4 : Option Addr) (n4 c4 : Nat) (A5 : Option Addr) (n5 c5 : Nat) (A6 : Option Addr) (n6 c6 : Nat)
  (hL : MfL I m (.slice A1 n1 c1) (.slice A2 n2 c2) (.slice A3 n3 c3) (.slice A4 n4 c4) (.slice A5 n5 c5) (.slice A6 n6 c6)) (hok : okM m) :
  Pure prog 21 [.agg (m.cs (.slice A1 n1 c1) (.slice A2 n2 c2) (.slice A3 n3 c3) (.slice A4 n4 c4) (.slice A5 n5 c5) (.slice A6 n6 c6)).toArray] I fun w J => ∃ vk, w = .agg [.int .u8 111, str [], vk].toArray ∧ Sl (tJs (d + 5)) J vk (mfK m (nkO A4)) := by
 obtain ⟨idx, ver, media, cfg, lays, anns, subj, art⟩ := m
 obtain ⟨hd, hl, ha, hs⟩ := hL
 obtain ⟨hkl, hks, hkc, hll, hla, hz1, hz2⟩ := hok
 simp only at hd hl ha hs hkl hks hkc hll hla hz1 hz2
 obtain ⟨_, _, e1, _⟩ := id hl
 obtain ⟨_, _, e2, _⟩ := id ha
 obtain ⟨_, _, e3, _⟩ := id hs
 obtain ⟨_, _, e4, _⟩ := id hd.1
 obtain ⟨_, _, e5, _⟩ := id hd.2.1
 obtain ⟨_, _, e6, _⟩ := id hd.2.2
 cases e1
 cases e2
 cases e3
 cases e4
 cases e5
 cases e6
 refine Spec.enter 75 [(0, _)] func21 rfl ntmps21 (by simp) rfl ?_
 intro C hCf hR hCI
 refine Run.seq ?_
 refine Run.region ?_
 refine Ops.box rfl dc rfl rfl (fun b1 => ?_)
 refine Ops.alloc rfl dc (T.zeroOk rfl) rfl (fun b2 => ?_)
 refine Ops.nil ?_
 refine Run.seq ?_
 refine Run.region ?_
 refine Ops.buildL bd39 rfl dc rfl rfl ?_
 refine Ops.buildL bd114 rfl dc rfl rfl ?_
 refine Ops.box rfl dc rfl rfl (fun b3 => ?_)
 refine Ops.pure T rfl dc rfl ?_
 refine Ops.nil ?_
 refine Run.perm (L' := [_, _] ++ [(b3, _)]) ((List.Perm.swap _ _ _).trans (List.Perm.cons _ (List.Perm.swap _ _ _))) ?_
 refine Run.seq ?_
 have hG0 := Gr.nil (tJs (d + 4 + 1)) I 39
 have le0 := Le.refl I
 have hn0 : ([] : List Js).length ≤ 0 := Nat.le_refl _
 refine Run.regionP (D := [some 10, some 11, some 12, some 13, some 14]) [true, true, true] 3 rfl rfl rfl (by simp only [List.drop_succ_cons, List.drop_zero]; rfl) (fun Z hZ => ?_)
 iterate 2 refine q1 dc rfl rfl ?_
 refine QD.yv dc rfl (Yv.load 1 T rfl rfl rfl rfl) ?_
 refine QD.nil (hZ _ ?_)
 clear hZ Z
 refine Ops.call ((spec_jNumber I ver hz1 hz2)) rfl dc call56 rfl ?_
 rintro y1 K1 k1 rfl
 refine Ops.callP (N := [_, _]) (object_put (d + 4) _ b3 [115, 99, 104, 101, 109, 97, 86, 101, 114, 115, 105, 111, 110] _ (nuJ ver) [] (.slice none 0 0) [] (hG0.mono k1) (nuJ_rel _ _ _) (by omega)) (.refl _) rfl dc call43 rfl ?_
 rintro y J1 N1 j1 ⟨vk1, M1, rfl, hG1⟩
 refine Ops.nil ?_
 refine Run.seq ?_
 have le1 := le0.trans (k1.trans j1)
 obtain ⟨ks1, hks1⟩ : ∃ ks : List Js, ks = [] ++ ([txJ [115, 99, 104, 101, 109, 97, 86, 101, 114, 115, 105, 111, 110], nuJ ver]) := ⟨_, rfl⟩
 have hG1 : Gr (tJs (d + 4 + 1)) J1 39 vk1 ks1 M1 := by rw [hks1]; exact hG1
 have hn1 : ks1.length ≤ 2 := by rw [hks1, List.length_append]; have h2 : ([txJ [115, 99, 104, 101, 109, 97, 86, 101, 114, 115, 105, 111, 110], nuJ ver] : List Js).length ≤ 2 := show _ ≤ 2 from Nat.le_refl 2; omega
 refine Run.regionP (D := [some 15, some 16, some 17, some 18]) [true, true, true] 3 rfl rfl rfl (by simp only [List.drop_succ_cons, List.drop_zero]; rfl) (fun Z hZ => ?_)
 iterate 2 refine q1 dc rfl rfl ?_
 refine QD.yv dc rfl (Yv.load 1 T rfl rfl rfl rfl) ?_
 refine QD.nil (hZ _ ?_)
 clear hZ Z
 refine Ops.callP (N := [_, _]) (object_text (d + 4) J1 b3 [109, 101, 100, 105, 97, 84, 121, 112, 101] media ks1 vk1 M1 hG1 (by omega)) (.refl _) rfl dc call45 rfl ?_
 rintro y J2 N2 j2 ⟨vk2, M2, rfl, hG2⟩
 refine Ops.nil ?_
 refine Run.seq ?_
 have le2 := le1.trans j2
 obtain ⟨ks2, hks2⟩ : ∃ ks : List Js, ks = ks1 ++ (opJ [109, 101, 100, 105, 97, 84, 121, 112, 101] media) := ⟨_, rfl⟩
 have hG2 : Gr (tJs (d + 4 + 1)) J2 39 vk2 ks2 M2 := by rw [hks2]; exact hG2
 have hn2 : ks2.length ≤ 4 := by rw [hks2, List.length_append]; have h2 : (opJ [109, 101, 100, 105, 97, 84, 121, 112, 101] media : List Js).length ≤ 2 := opJ_len _ _; omega
 refine Run.region ?_
 refine Ops.buildL bd39 rfl dc rfl rfl ?_
 refine Ops.alloc rfl dc (T.zeroOk rfl) rfl (fun b4 => ?_)
 refine Ops.store 0 rfl rfl rfl rfl rfl (T.sizeOk rfl) rfl (Nat.le_of_ble_eq_true rfl) rfl rfl ?_
 refine Ops.nil ?_
 repeat refine Run.seq ?_
 have hnk : ∃ nk : UInt8 × Bs, nk = nkO A4 := ⟨_, rfl⟩
 obtain ⟨nk, hnk⟩ := hnk
 cases A4 with
 | none =>
  refine Run.regionO (D := [some 20, some 21, some 22]) [true, true, true] rfl rfl rfl (fun Z hZ => ?_)
  refine q1 dc rfl rfl ?_
  refine QD.yv dc rfl (Yv.load 2 T rfl rfl rfl rfl) ?_
  refine QD.e (Ev.eqlNil T rfl rfl rfl rfl rfl) dc rfl ?_
  refine QD.nil (hZ _ ?_)
  clear hZ Z
  refine Run.cond_t rfl ?_
  refine Run.region ?_
  refine Ops.buildL bd39 rfl dc rfl rfl ?_
  refine Ops.store 0 rfl rfl rfl rfl rfl (T.sizeOk rfl) rfl (Nat.le_of_ble_eq_true rfl) rfl rfl ?_
  refine Ops.nil ?_
  repeat refine Run.seq ?_
  skip
  refine Run.regionO (D := [some 24, some 25, some 26, some 27]) [true, true, true, true] rfl rfl rfl (fun Z hZ => ?_)
  refine q1 dc rfl rfl ?_
  refine QD.yv dc rfl (Yv.load 2 T rfl rfl rfl rfl) ?_
  iterate 2 refine q1 dc rfl rfl ?_
  refine QD.nil (hZ _ ?_)
  clear hZ Z
  refine Run.block ?_
  refine Run.keep [1, 2, 3, 4, 25, 26, 27] [_, _, _, _, _, _, _] rfl ?_
  refine Run.rounds (fun mm env L J => ∃ (i : Nat) (vl : Value) (Ml : Own), mm = lays.length - i ∧ i ≤ lays.length ∧ Gr (tJs (d + 3 + 1)) J 39 vl ((lays.take i).map dsJ) Ml ∧ env = [(1, .pointer (some ⟨b1, 0, none⟩)), (2, .pointer (some ⟨b2, 0, none⟩)), (3, .pointer (some ⟨b3, 0, none⟩)), (4, .pointer (some ⟨b4, 0, none⟩)), (25, .slice none lays.length c4), (26, .int .i64 (lays.length : Int)), (27, .int .i64 (i : Int))] ∧ L = (b4, blk [.int .u8 110, str ([110, 117, 108, 108]), vl] 39) :: (Ml ++ ((b2, blk [.int .u8 0, str [], .slice none 0 0] 39) :: (b1, blk (Mf.cs ⟨idx, ver, media, cfg, lays, anns, subj, art⟩ (.slice A1 cfg.urls.length c1) (.slice A2 cfg.anns.length c2) (.slice A3 cfg.plats.length c3) (.slice none lays.length c4) (.slice A5 anns.length c5) (.slice A6 subj.length c6)) 50) :: (b3, obj vk2) :: M2)) ∧ Le J2 J) lays.length ⟨0, .slice none 0 0, [], by omega, by omega, Gr.nil _ _ _, rfl, rfl, Le.refl _⟩ ?_
  rintro mm env L J ⟨i, vl, Ml, rfl, hi, hGl, rfl, rfl, hle⟩ ih
  by_cases hlt : i < lays.length
  ·skip
   refine Run.seq ?_
   refine Run.regionO (D := [some 28]) [true] rfl rfl rfl (fun Z hZ => ?_)
   refine qt (Ev.lss rfl rfl) (by omega) dc rfl ?_
   refine QD.nil (hZ _ ?_)
   clear hZ Z
   repeat (first | refine Run.seq ?_ | refine Run.skip ?_ | refine Run.block ?_ | refine Run.cond_t rfl ?_)
   refine Run.region ?_
   refine Ops.indexSl (j := (i : Int)) ((hl.mono le2).mono hle) rfl dc rfl rfl (T.undOk rfl) (T.sizeOk rfl) (by omega) (by omega) fun bb off q cs hq hr hA => ?_
   obtain ⟨D1, d1, D2, d2, D3, d3, rfl, hqL⟩ := hr
   rw [Int.toNat_natCast] at hq
   refine Ops.loadIN rfl dc rfl hA (T.aggOk rfl) (T.sizeOk rfl) rfl ?_
   refine Ops.alloc rfl dc (T.zeroOk rfl) rfl (fun b6 => ?_)
   refine Ops.store 0 rfl rfl rfl rfl rfl (T.sizeOk rfl) rfl (Nat.le_of_ble_eq_true rfl) rfl rfl ?_
   refine Ops.nil ?_
   skip
   have hkl2 : ((lays.take i).map dsJ).length ≤ 100000 := by rw [List.length_map, List.length_take]; omega
   obtain ⟨_, _, e7, _⟩ := id hqL.1
   obtain ⟨_, _, e8, _⟩ := id hqL.2.1
   obtain ⟨_, _, e9, _⟩ := id hqL.2.2
   refine Run.regionL [7] (Holds J []) (Holds J [(b6, blk (q.cs (.slice D1 q.urls.length d1) (.slice D2 q.anns.length d2) (.slice D3 q.plats.length d3)) 47), (b4, blk [.int .u8 110, str ([110, 117, 108, 108]), vl] 39)]) (bl 8 0) (by kernel_rfl) (by kernel_rfl) (fun W h => ⟨h.holds (Le.refl _) (by first | exact mp rfl | exact mq rfl | exact mr rfl), h.holds (Le.refl _) (by first | exact mp rfl | exact mq rfl | exact mr rfl)⟩) ?_
   refine RAnyL.tk 0 (bl 8 1) rfl (by kernel_rfl) dc rfl (T := fun _ => True) (.inl fun _ _ => trivial) (Yld.eval T rfl rfl) ?_
   refine RAnyL.tk 1 (bl 8 3) rfl (by kernel_rfl) dc rfl (.inr ⟨by kernel_rfl, fun _ h => h⟩) (Yld.load 1 T rfl rfl rfl rfl rfl) ?_
   refine RAnyL.tk 2 (bl 8 7) rfl (by kernel_rfl) dc rfl (.inr ⟨by kernel_rfl, fun _ h => h⟩) (Yld.loadN 0 T rfl rfl rfl rfl rfl rfl rfl) ?_
   refine RAnyL.on 3 (bl 8 15) rfl (by kernel_rfl) rfl dc (Eff.call (spec_DescriptorJson d J q _ _ _ _ _ _ _ _ _ hqL (hkl q (List.mem_of_getElem? hq))) call57 rfl fun y J2 l2 hy => ⟨⟨fun W h => h.holds l2 (fun _ h => by cases h), .inr fun W h => h.holds l2 (by exact mp rfl)⟩, ?_⟩)
   obtain ⟨vq, rfl, hSq⟩ := hy
   obtain ⟨Aq, aq, rfl⟩ := hSq.isSl
   refine RAnyL.on 4 (bl 8 31) rfl (by kernel_rfl) rfl dc (Eff.lit T rfl rfl rfl dc dc rfl rfl rfl rfl rfl fun bq => ⟨⟨fun W h => h.holds l2 (fun _ h => by cases h), .inr fun W h => h.holds l2 (by exact mq rfl)⟩, ?_⟩)
   refine RAnyL.on 5 (bl 8 63) rfl (by kernel_rfl) rfl dc (Eff.appOneP (t := tJs (d + 3 + 1)) (y := dsJ q) (b := bq) (M := Ml) (N := (bq, _) :: (b6, _) :: (b4, _) :: ((b2, blk [.int .u8 0, str [], .slice none 0 0] 39) :: (b1, blk (Mf.cs ⟨idx, ver, media, cfg, lays, anns, subj, art⟩ (.slice A1 cfg.urls.length c1) (.slice A2 cfg.anns.length c2) (.slice A3 cfg.plats.length c3) (.slice none lays.length c4) (.slice A5 anns.length c5) (.slice A6 subj.length c6)) 50) :: (b3, obj vk2) :: M2)) el37 (hGl.mono l2) ⟨_, rfl, hSq⟩ rfl rfl (List.perm_append_comm_assoc [(bq, _), (b6, _), (b4, _)] Ml _) List.mem_cons_self rfl (by omega) (by omega) fun v' M' hG' => ⟨⟨fun W h => h.holds l2 (fun _ h => by cases h), .inr fun W h => h.holds l2 (by intro x hx; simp only [List.mem_cons, List.not_mem_nil, or_false] at hx; rcases hx with rfl | rfl; exact List.mem_append_right _ (.tail _ (.head _)); exact List.mem_append_right _ (.tail _ (.tail _ (.head _))))⟩, ?_⟩)
   obtain ⟨A', c', rfl⟩ := hG'.isSl
   refine RAnyL.perm (List.perm_append_comm_assoc [(bq, _), (b6, _), (b4, _)] M' _).symm ?_
   skip
   refine RAnyL.tk 6 (bl 8 127) rfl (by kernel_rfl) dc rfl (T := fun _ => True) (.inl fun _ _ => trivial) (Yld.eval T rfl rfl) ?_
   refine RAnyL.os 7 (bl 8 255) rfl (by kernel_rfl) rfl (Eff.store 2 rfl rfl rfl rfl (T.sizeOk rfl) rfl (Nat.le_of_ble_eq_true rfl) rfl rfl ⟨⟨fun W h => h.holds l2 (fun _ h => by cases h), .inl rfl⟩, ?_⟩)
   refine RAnyL.done _ (by kernel_rfl) ?_
   skip
   refine Run.inBlock ?_
   iterate 2 refine Run.dropL (List.sublist_cons_self _ _) ?_
   refine Run.regionO (D := [some 38, some 27]) [true, true] rfl rfl rfl (fun Z hZ => ?_)
   refine QD.e (Ev.addK (r := ((i + 1 : Nat) : Int)) rfl rfl (by rw [wI (by omega) (by omega)]; omega)) dc rfl ?_
   refine q1 dc rfl rfl ?_
   refine QD.nil (hZ _ ?_)
   clear hZ Z
   skip
   refine Run.keep [1, 2, 3, 4, 25, 26, 27] [_, _, _, _, _, _, _] rfl ?_
   refine ih (lays.length - (i + 1)) _ _ _ (by omega) ⟨i + 1, _, M', rfl, by omega, ?_, rfl, rfl, hle.trans l2⟩
   obtain ⟨hi2, rfl⟩ := List.getElem?_eq_some_iff.1 hq
   rw [List.take_succ_eq_append_getElem hi2, List.map_append]
   exact hG'
  ·obtain rfl : i = lays.length := by omega
   rw [List.take_length] at hGl
   clear ih
   refine Run.seq ?_
   refine Run.regionO (D := [some 28]) [true] rfl rfl rfl (fun Z hZ => ?_)
   refine qf (Ev.lss rfl rfl) (by omega) dc rfl ?_
   refine QD.nil (hZ _ ?_)
   clear hZ Z
   repeat (first | refine Run.seq ?_ | refine Run.exit rfl ?_ | refine Run.cond_f rfl ?_)
   refine Run.keepGr hGl (N := (b4, _) :: ((b2, blk [.int .u8 0, str [], .slice none 0 0] 39) :: (b1, blk (Mf.cs ⟨idx, ver, media, cfg, lays, anns, subj, art⟩ (.slice A1 cfg.urls.length c1) (.slice A2 cfg.anns.length c2) (.slice A3 cfg.plats.length c3) (.slice none lays.length c4) (.slice A5 anns.length c5) (.slice A6 subj.length c6)) 50) :: (b3, obj vk2) :: M2)) (List.perm_middle (l₁ := Ml)).symm fun J5 l5 hSl => ?_
   obtain ⟨A8, c8, rfl⟩ := hSl.isSl
   have le5 := (le2.trans hle).trans l5
   have hG5 := (hG2.mono hle).mono l5
   clear hGl hle
   have hrl : (tJs (d + 4 + 1)).rel J5 [.int .u8 110, str ([110, 117, 108, 108]), .slice A8 (lays.map dsJ).length c8] (laJ lays nk) := by rw [hnk]; exact ⟨_, rfl, hSl⟩
   skip
   refine Run.perm (L' := [(b4, _), (b2, blk [.int .u8 0, str [], .slice none 0 0] 39), (b1, blk (Mf.cs ⟨idx, ver, media, cfg, lays, anns, subj, art⟩ (.slice A1 cfg.urls.length c1) (.slice A2 cfg.anns.length c2) (.slice A3 cfg.plats.length c3) (.slice none lays.length c4) (.slice A5 anns.length c5) (.slice A6 subj.length c6)) 50)] ++ (b3, obj vk2) :: M2) (.refl _) ?_
   refine Run.regionO (D := [some 39, some 40]) [true, true] rfl rfl rfl (fun Z hZ => ?_)
   refine q1 dc rfl rfl ?_
   refine QD.yv dc rfl (Yv.load 2 T rfl rfl rfl rfl) ?_
   refine QD.nil (hZ _ ?_)
   clear hZ Z
   skip
   refine Run.keep [1, 2, 3, 4, 40] [_, _, _, _, _] rfl ?_
   refine Run.piece (fun env' L' I' => ∃ (vk : Value) (M : Own), env' = [(1, .pointer (some ⟨b1, 0, none⟩)), (2, .pointer (some ⟨b2, 0, none⟩)), (3, .pointer (some ⟨b3, 0, none⟩)), (4, .pointer (some ⟨b4, 0, none⟩))] ∧ L' = [(b4, blk [.int .u8 110, str ([110, 117, 108, 108]), .slice A8 (lays.map dsJ).length c8] 39), (b2, blk [.int .u8 0, str [], .slice none 0 0] 39), (b1, blk (Mf.cs ⟨idx, ver, media, cfg, lays, anns, subj, art⟩ (.slice A1 cfg.urls.length c1) (.slice A2 cfg.anns.length c2) (.slice A3 cfg.plats.length c3) (.slice none lays.length c4) (.slice A5 anns.length c5) (.slice A6 subj.length c6)) 50)] ++ (b3, obj vk) :: M ∧ Gr (tJs (d + 4 + 1)) I' 39 vk (ks2 ++ miK ⟨idx, ver, media, cfg, lays, anns, subj, art⟩ nk) M ∧ Le J5 I') ?_ ?_
   ·intro k' fin
    cases idx with
    | true =>
     refine Run.cond_t rfl ?_
     refine Run.regionP (D := [some 41, some 42, some 43]) [true, true] 2 rfl rfl rfl (by simp only [List.drop_succ_cons, List.drop_zero]; rfl) (fun Z hZ => ?_)
     refine q1 dc rfl rfl ?_
     refine QD.yv dc rfl (Yv.loadN 0 T rfl rfl rfl rfl rfl rfl) ?_
     refine QD.nil (hZ _ ?_)
     clear hZ Z
     refine Ops.callP (N := [_, _, _]) (object_put (d + 4) J5 b3 [109, 97, 110, 105, 102, 101, 115, 116, 115] _ (laJ lays nk) ks2 vk2 M2 hG5 hrl (by omega)) (.refl _) rfl dc call43 rfl ?_
     rintro y J6 N6 l6 ⟨vk6, M6, rfl, hG6⟩
     refine Ops.nil ?_
     skip
     refine Run.keep [1, 2, 3, 4] [_, _, _, _] rfl ?_
     exact fin _ _ _ ⟨vk6, M6, rfl, rfl, hG6, l6⟩
    | false =>
     repeat (first | refine Run.seq ?_ | refine Run.cond_f rfl ?_)
     refine Run.regionP (D := [some 44, some 45, some 46, some 47, some 48]) [true, true, true] 3 rfl rfl rfl (by simp only [List.drop_succ_cons, List.drop_zero]; rfl) (fun Z hZ => ?_)
     iterate 2 refine q1 dc rfl rfl ?_
     refine QD.yv dc rfl (Yv.loadN 2 T rfl rfl rfl rfl rfl rfl) ?_
     refine QD.nil (hZ _ ?_)
     clear hZ Z
     refine Ops.call ((spec_DescriptorJson (d + 1) J5 cfg _ _ _ _ _ _ _ _ _ (hd.mono le5) (hkc rfl))) rfl dc call57 rfl ?_
     rintro y K6 k6 ⟨vc, rfl, hSc⟩
     refine Ops.callP (N := [_, _, _]) (object_put (d + 4) K6 b3 [99, 111, 110, 102, 105, 103] _ (dsJ cfg) ks2 vk2 M2 (hG5.mono k6) ⟨vc, rfl, hSc⟩ (by omega)) (.refl _) rfl dc call43 rfl ?_
     rintro y J6 N6 l6 ⟨vk6, M6, rfl, hG6⟩
     refine Ops.nil ?_
     skip
     refine Run.regionP (D := [some 49, some 50, some 51]) [true, true] 2 rfl rfl rfl (by simp only [List.drop_succ_cons, List.drop_zero]; rfl) (fun Z hZ => ?_)
     refine q1 dc rfl rfl ?_
     refine QD.yv dc rfl (Yv.loadN 0 T rfl rfl rfl rfl rfl rfl) ?_
     refine QD.nil (hZ _ ?_)
     clear hZ Z
     refine Ops.callP (N := [_, _, _]) (object_put (d + 4) J6 b3 [108, 97, 121, 101, 114, 115] _ (laJ lays nk) _ vk6 M6 hG6 ((tJs (d + 4 + 1)).mono hrl (k6.trans l6)) (by rw [List.length_append]; simp only [List.length_cons, List.length_nil]; omega)) (.refl _) rfl dc call43 rfl ?_
     rintro y J7 N7 l7 ⟨vk7, M7, rfl, hG7⟩
     refine Ops.nil ?_
     skip
     refine Run.keep [1, 2, 3, 4] [_, _, _, _] rfl ?_
     exact fin _ _ _ ⟨vk7, M7, rfl, rfl, by (have := hG7; rw [List.append_assoc] at this; exact this), (k6.trans l6).trans l7⟩
   rintro env L J ⟨vk, M, rfl, rfl, hG, hle⟩
   have le6 := le5.trans hle
   have hnm : (ks2 ++ miK ⟨idx, ver, media, cfg, lays, anns, subj, art⟩ nk).length ≤ 8 := by
    rw [List.length_append]
    cases idx <;> simp [miK] <;> omega
   obtain ⟨km, hkm⟩ : ∃ km, km = ks2 ++ miK ⟨idx, ver, media, cfg, lays, anns, subj, art⟩ nk := ⟨_, rfl⟩
   rw [← hkm] at hG hnm
   refine Run.seq ?_
   refine Run.regionP (D := [some 52, some 53, some 54, some 55]) [true, true, true] 3 rfl rfl rfl (by simp only [List.drop_succ_cons, List.drop_zero]; rfl) (fun Z hZ => ?_)
   iterate 2 refine q1 dc rfl rfl ?_
   refine QD.yv dc rfl (Yv.load 2 T rfl rfl rfl rfl) ?_
   refine QD.nil (hZ _ ?_)
   clear hZ Z
   refine Ops.callP (N := [_, _, _]) (object_pairs (d + 3) J b3 [97, 110, 110, 111, 116, 97, 116, 105, 111, 110, 115] anns _ (ha.mono le6) hla km vk M hG (by omega)) (.refl _) rfl dc call58 rfl ?_
   rintro y J9 N9 l9 ⟨vk9, M9, rfl, hG9⟩
   refine Ops.nil ?_
   repeat refine Run.seq ?_
   have hpl9 := opP_len [97, 110, 110, 111, 116, 97, 116, 105, 111, 110, 115] anns
   have le9 := le6.trans l9
   have hn9 : (km ++ opP [97, 110, 110, 111, 116, 97, 116, 105, 111, 110, 115] anns).length ≤ 10 := by rw [List.length_append]; omega
   by_cases hpe : subj = []
   ·skip
    refine Run.regionO (D := [some 56, some 57, some 58, some 59]) [true, true, true, true] rfl rfl rfl (fun Z hZ => ?_)
    refine q1 dc rfl rfl ?_
    refine QD.yv dc rfl (Yv.load 2 T rfl rfl rfl rfl) ?_
    refine q1 dc rfl rfl ?_
    refine qf (Ev.gtr rfl rfl) (by rw [hpe]; simp) dc rfl ?_
    refine QD.nil (hZ _ ?_)
    clear hZ Z
    repeat (first | refine Run.seq ?_ | refine Run.skip ?_ | refine Run.cond_f rfl ?_)
    have hGr : Gr (tJs (d + 4 + 1)) J9 39 vk9 (km ++ opP [97, 110, 110, 111, 116, 97, 116, 105, 111, 110, 115] anns ++ sbK subj) M9 := by rw [hpe, sbK, List.append_nil]; exact hG9
    skip
    have hptl := sbK_len subj
    have hnr : (km ++ opP [97, 110, 110, 111, 116, 97, 116, 105, 111, 110, 115] anns ++ sbK subj).length ≤ 12 := by rw [List.length_append]; omega
    refine Run.regionP (D := [some 67, some 68, some 69, some 70]) [true, true, true] 3 rfl rfl rfl (by simp only [List.drop_succ_cons, List.drop_zero]; rfl) (fun Z hZ => ?_)
    iterate 2 refine q1 dc rfl rfl ?_
    refine QD.yv dc rfl (Yv.load 2 T rfl rfl rfl rfl) ?_
    refine QD.nil (hZ _ ?_)
    clear hZ Z
    refine Ops.callP (N := [_, _, _]) (object_text (d + 4) J9 b3 [97, 114, 116, 105, 102, 97, 99, 116, 84, 121, 112, 101] art _ vk9 M9 hGr (by omega)) (.refl _) rfl dc call45 rfl ?_
    rintro y Jr Nr jr ⟨vkr, Mr, rfl, hGf⟩
    refine Ops.nil ?_
    refine Run.seq ?_
    refine Run.keepGr hGf (N := [_, _, _, _]) (List.perm_append_comm (l₁ := [_, _, _, _]) (l₂ := Mr)) fun JF lF hSf => ?_
    obtain ⟨AF, cF, rfl⟩ := hSf.isSl
    refine Run.region ?_
    iterate 3 refine Ops.pure T rfl dc rfl ?_
    refine Ops.loadN 3 rfl dc rfl rfl (T.aggOk rfl) (T.sizeOk rfl) rfl rfl ?_
    refine Ops.store 1 rfl rfl rfl rfl rfl (T.sizeOk rfl) rfl (Nat.le_of_ble_eq_true rfl) rfl rfl ?_
    refine Ops.nil ?_
    skip
    refine Run.retC T 1 (by rw [hCf]; exact func21) results21 rfl rfl rfl rfl rfl rfl (hR _ _ _ ?_)
    refine ⟨rfl, _, rfl, ?_⟩
    have e : km ++ opP [97, 110, 110, 111, 116, 97, 116, 105, 111, 110, 115] anns ++ sbK subj ++ opJ [97, 114, 116, 105, 102, 97, 99, 116, 84, 121, 112, 101] art = mfK ⟨idx, ver, media, cfg, lays, anns, subj, art⟩ (nkO none) := by simp only [hkm, hks2, hks1]; rw [hnk]; rfl
    rw [e] at hSf ⊢
    exact hSf
   ·have hpp := List.length_pos_iff.2 hpe
    refine Run.regionO (D := [some 56, some 57, some 58, some 59]) [true, true, true, true] rfl rfl rfl (fun Z hZ => ?_)
    refine q1 dc rfl rfl ?_
    refine QD.yv dc rfl (Yv.load 2 T rfl rfl rfl rfl) ?_
    refine q1 dc rfl rfl ?_
    refine qt (Ev.gtr rfl rfl) (by omega) dc rfl ?_
    refine QD.nil (hZ _ ?_)
    clear hZ Z
    refine Run.cond_t rfl ?_
    refine Run.regionP (D := [some 60, some 61, some 62, some 63, some 64, some 65, some 66]) [true, true, true] 3 rfl rfl rfl (by simp only [List.drop_succ_cons, List.drop_zero]; rfl) (fun Z hZ => ?_)
    iterate 2 refine q1 dc rfl rfl ?_
    refine QD.yv dc rfl (Yv.load 2 T rfl rfl rfl rfl) ?_
    refine QD.nil (hZ _ ?_)
    clear hZ Z
    refine Ops.indexSl (j := 0) (hs.mono le9) rfl dc rfl rfl (T.undOk rfl) (T.sizeOk rfl) (by omega) (by omega) fun bb off q cs hq hr hA => ?_
    obtain ⟨D1, d1, D2, d2, D3, d3, rfl, hqL⟩ := hr
    refine Ops.loadIN rfl dc rfl hA (T.aggOk rfl) (T.sizeOk rfl) rfl ?_
    refine Ops.call ((spec_DescriptorJson (d + 1) J9 q _ _ _ _ _ _ _ _ _ hqL (hks q (List.mem_of_getElem? hq)))) rfl dc call57 rfl ?_
    rintro y Kq kq ⟨vc, rfl, hSc⟩
    refine Ops.callP (N := [_, _, _]) (object_put (d + 4) Kq b3 [115, 117, 98, 106, 101, 99, 116] _ (dsJ q) _ vk9 M9 (hG9.mono kq) ⟨vc, rfl, hSc⟩ (by omega)) (.refl _) rfl dc call43 rfl ?_
    rintro y Jq Nq lq ⟨vkq, Mq, rfl, hGq⟩
    refine Ops.nil ?_
    refine Run.seq ?_
    have hGr : Gr (tJs (d + 4 + 1)) Jq 39 vkq (km ++ opP [97, 110, 110, 111, 116, 97, 116, 105, 111, 110, 115] anns ++ sbK subj) Mq := by rw [sbK_head (q := q) hq]; exact hGq
    skip
    have hptl := sbK_len subj
    have hnr : (km ++ opP [97, 110, 110, 111, 116, 97, 116, 105, 111, 110, 115] anns ++ sbK subj).length ≤ 12 := by rw [List.length_append]; omega
    refine Run.regionP (D := [some 67, some 68, some 69, some 70]) [true, true, true] 3 rfl rfl rfl (by simp only [List.drop_succ_cons, List.drop_zero]; rfl) (fun Z hZ => ?_)
    iterate 2 refine q1 dc rfl rfl ?_
    refine QD.yv dc rfl (Yv.load 2 T rfl rfl rfl rfl) ?_
    refine QD.nil (hZ _ ?_)
    clear hZ Z
    refine Ops.callP (N := [_, _, _]) (object_text (d + 4) Jq b3 [97, 114, 116, 105, 102, 97, 99, 116, 84, 121, 112, 101] art _ vkq Mq hGr (by omega)) (.refl _) rfl dc call45 rfl ?_
    rintro y Jr Nr jr ⟨vkr, Mr, rfl, hGf⟩
    refine Ops.nil ?_
    refine Run.seq ?_
    refine Run.keepGr hGf (N := [_, _, _, _]) (List.perm_append_comm (l₁ := [_, _, _, _]) (l₂ := Mr)) fun JF lF hSf => ?_
    obtain ⟨AF, cF, rfl⟩ := hSf.isSl
    refine Run.region ?_
    iterate 3 refine Ops.pure T rfl dc rfl ?_
    refine Ops.loadN 3 rfl dc rfl rfl (T.aggOk rfl) (T.sizeOk rfl) rfl rfl ?_
    refine Ops.store 1 rfl rfl rfl rfl rfl (T.sizeOk rfl) rfl (Nat.le_of_ble_eq_true rfl) rfl rfl ?_
    refine Ops.nil ?_
    skip
    refine Run.retC T 1 (by rw [hCf]; exact func21) results21 rfl rfl rfl rfl rfl rfl (hR _ _ _ ?_)
    refine ⟨rfl, _, rfl, ?_⟩
    have e : km ++ opP [97, 110, 110, 111, 116, 97, 116, 105, 111, 110, 115] anns ++ sbK subj ++ opJ [97, 114, 116, 105, 102, 97, 99, 116, 84, 121, 112, 101] art = mfK ⟨idx, ver, media, cfg, lays, anns, subj, art⟩ (nkO none) := by simp only [hkm, hks2, hks1]; rw [hnk]; rfl
    rw [e] at hSf ⊢
    exact hSf
 | some ad =>
  refine Run.regionO (D := [some 20, some 21, some 22]) [true, true, true] rfl rfl rfl (fun Z hZ => ?_)
  refine q1 dc rfl rfl ?_
  refine QD.yv dc rfl (Yv.load 2 T rfl rfl rfl rfl) ?_
  refine QD.e (Ev.eqlNil T rfl rfl rfl rfl rfl) dc rfl ?_
  refine QD.nil (hZ _ ?_)
  clear hZ Z
  repeat (first | refine Run.seq ?_ | refine Run.skip ?_ | refine Run.cond_f rfl ?_)
  skip
  refine Run.regionO (D := [some 24, some 25, some 26, some 27]) [true, true, true, true] rfl rfl rfl (fun Z hZ => ?_)
  refine q1 dc rfl rfl ?_
  refine QD.yv dc rfl (Yv.load 2 T rfl rfl rfl rfl) ?_
  iterate 2 refine q1 dc rfl rfl ?_
  refine QD.nil (hZ _ ?_)
  clear hZ Z
  refine Run.block ?_
  refine Run.keep [1, 2, 3, 4, 25, 26, 27] [_, _, _, _, _, _, _] rfl ?_
  refine Run.rounds (fun mm env L J => ∃ (i : Nat) (vl : Value) (Ml : Own), mm = lays.length - i ∧ i ≤ lays.length ∧ Gr (tJs (d + 3 + 1)) J 39 vl ((lays.take i).map dsJ) Ml ∧ env = [(1, .pointer (some ⟨b1, 0, none⟩)), (2, .pointer (some ⟨b2, 0, none⟩)), (3, .pointer (some ⟨b3, 0, none⟩)), (4, .pointer (some ⟨b4, 0, none⟩)), (25, .slice (some ad) lays.length c4), (26, .int .i64 (lays.length : Int)), (27, .int .i64 (i : Int))] ∧ L = (b4, blk [.int .u8 108, str ([]), vl] 39) :: (Ml ++ ((b2, blk [.int .u8 0, str [], .slice none 0 0] 39) :: (b1, blk (Mf.cs ⟨idx, ver, media, cfg, lays, anns, subj, art⟩ (.slice A1 cfg.urls.length c1) (.slice A2 cfg.anns.length c2) (.slice A3 cfg.plats.length c3) (.slice (some ad) lays.length c4) (.slice A5 anns.length c5) (.slice A6 subj.length c6)) 50) :: (b3, obj vk2) :: M2)) ∧ Le J2 J) lays.length ⟨0, .slice none 0 0, [], by omega, by omega, Gr.nil _ _ _, rfl, rfl, Le.refl _⟩ ?_
  rintro mm env L J ⟨i, vl, Ml, rfl, hi, hGl, rfl, rfl, hle⟩ ih
  by_cases hlt : i < lays.length
  ·skip
   refine Run.seq ?_
   refine Run.regionO (D := [some 28]) [true] rfl rfl rfl (fun Z hZ => ?_)
   refine qt (Ev.lss rfl rfl) (by omega) dc rfl ?_
   refine QD.nil (hZ _ ?_)
   clear hZ Z
   repeat (first | refine Run.seq ?_ | refine Run.skip ?_ | refine Run.block ?_ | refine Run.cond_t rfl ?_)
   refine Run.region ?_
   refine Ops.indexSl (j := (i : Int)) ((hl.mono le2).mono hle) rfl dc rfl rfl (T.undOk rfl) (T.sizeOk rfl) (by omega) (by omega) fun bb off q cs hq hr hA => ?_
   obtain ⟨D1, d1, D2, d2, D3, d3, rfl, hqL⟩ := hr
   rw [Int.toNat_natCast] at hq
   refine Ops.loadIN rfl dc rfl hA (T.aggOk rfl) (T.sizeOk rfl) rfl ?_
   refine Ops.alloc rfl dc (T.zeroOk rfl) rfl (fun b6 => ?_)
   refine Ops.store 0 rfl rfl rfl rfl rfl (T.sizeOk rfl) rfl (Nat.le_of_ble_eq_true rfl) rfl rfl ?_
   refine Ops.nil ?_
   skip
   have hkl2 : ((lays.take i).map dsJ).length ≤ 100000 := by rw [List.length_map, List.length_take]; omega
   obtain ⟨_, _, e7, _⟩ := id hqL.1
   obtain ⟨_, _, e8, _⟩ := id hqL.2.1
   obtain ⟨_, _, e9, _⟩ := id hqL.2.2
   refine Run.regionL [7] (Holds J []) (Holds J [(b6, blk (q.cs (.slice D1 q.urls.length d1) (.slice D2 q.anns.length d2) (.slice D3 q.plats.length d3)) 47), (b4, blk [.int .u8 108, str ([]), vl] 39)]) (bl 8 0) (by kernel_rfl) (by kernel_rfl) (fun W h => ⟨h.holds (Le.refl _) (by first | exact mp rfl | exact mq rfl | exact mr rfl), h.holds (Le.refl _) (by first | exact mp rfl | exact mq rfl | exact mr rfl)⟩) ?_
   refine RAnyL.tk 0 (bl 8 1) rfl (by kernel_rfl) dc rfl (T := fun _ => True) (.inl fun _ _ => trivial) (Yld.eval T rfl rfl) ?_
   refine RAnyL.tk 1 (bl 8 3) rfl (by kernel_rfl) dc rfl (.inr ⟨by kernel_rfl, fun _ h => h⟩) (Yld.load 1 T rfl rfl rfl rfl rfl) ?_
   refine RAnyL.tk 2 (bl 8 7) rfl (by kernel_rfl) dc rfl (.inr ⟨by kernel_rfl, fun _ h => h⟩) (Yld.loadN 0 T rfl rfl rfl rfl rfl rfl rfl) ?_
   refine RAnyL.on 3 (bl 8 15) rfl (by kernel_rfl) rfl dc (Eff.call (spec_DescriptorJson d J q _ _ _ _ _ _ _ _ _ hqL (hkl q (List.mem_of_getElem? hq))) call57 rfl fun y J2 l2 hy => ⟨⟨fun W h => h.holds l2 (fun _ h => by cases h), .inr fun W h => h.holds l2 (by exact mp rfl)⟩, ?_⟩)
   obtain ⟨vq, rfl, hSq⟩ := hy
   obtain ⟨Aq, aq, rfl⟩ := hSq.isSl
   refine RAnyL.on 4 (bl 8 31) rfl (by kernel_rfl) rfl dc (Eff.lit T rfl rfl rfl dc dc rfl rfl rfl rfl rfl fun bq => ⟨⟨fun W h => h.holds l2 (fun _ h => by cases h), .inr fun W h => h.holds l2 (by exact mq rfl)⟩, ?_⟩)
   refine RAnyL.on 5 (bl 8 63) rfl (by kernel_rfl) rfl dc (Eff.appOneP (t := tJs (d + 3 + 1)) (y := dsJ q) (b := bq) (M := Ml) (N := (bq, _) :: (b6, _) :: (b4, _) :: ((b2, blk [.int .u8 0, str [], .slice none 0 0] 39) :: (b1, blk (Mf.cs ⟨idx, ver, media, cfg, lays, anns, subj, art⟩ (.slice A1 cfg.urls.length c1) (.slice A2 cfg.anns.length c2) (.slice A3 cfg.plats.length c3) (.slice (some ad) lays.length c4) (.slice A5 anns.length c5) (.slice A6 subj.length c6)) 50) :: (b3, obj vk2) :: M2)) el37 (hGl.mono l2) ⟨_, rfl, hSq⟩ rfl rfl (List.perm_append_comm_assoc [(bq, _), (b6, _), (b4, _)] Ml _) List.mem_cons_self rfl (by omega) (by omega) fun v' M' hG' => ⟨⟨fun W h => h.holds l2 (fun _ h => by cases h), .inr fun W h => h.holds l2 (by intro x hx; simp only [List.mem_cons, List.not_mem_nil, or_false] at hx; rcases hx with rfl | rfl; exact List.mem_append_right _ (.tail _ (.head _)); exact List.mem_append_right _ (.tail _ (.tail _ (.head _))))⟩, ?_⟩)
   obtain ⟨A', c', rfl⟩ := hG'.isSl
   refine RAnyL.perm (List.perm_append_comm_assoc [(bq, _), (b6, _), (b4, _)] M' _).symm ?_
   skip
   refine RAnyL.tk 6 (bl 8 127) rfl (by kernel_rfl) dc rfl (T := fun _ => True) (.inl fun _ _ => trivial) (Yld.eval T rfl rfl) ?_
   refine RAnyL.os 7 (bl 8 255) rfl (by kernel_rfl) rfl (Eff.store 2 rfl rfl rfl rfl (T.sizeOk rfl) rfl (Nat.le_of_ble_eq_true rfl) rfl rfl ⟨⟨fun W h => h.holds l2 (fun _ h => by cases h), .inl rfl⟩, ?_⟩)
   refine RAnyL.done _ (by kernel_rfl) ?_
   skip
   refine Run.inBlock ?_
   iterate 2 refine Run.dropL (List.sublist_cons_self _ _) ?_
   refine Run.regionO (D := [some 38, some 27]) [true, true] rfl rfl rfl (fun Z hZ => ?_)
   refine QD.e (Ev.addK (r := ((i + 1 : Nat) : Int)) rfl rfl (by rw [wI (by omega) (by omega)]; omega)) dc rfl ?_
   refine q1 dc rfl rfl ?_
   refine QD.nil (hZ _ ?_)
   clear hZ Z
   skip
   refine Run.keep [1, 2, 3, 4, 25, 26, 27] [_, _, _, _, _, _, _] rfl ?_
   refine ih (lays.length - (i + 1)) _ _ _ (by omega) ⟨i + 1, _, M', rfl, by omega, ?_, rfl, rfl, hle.trans l2⟩
   obtain ⟨hi2, rfl⟩ := List.getElem?_eq_some_iff.1 hq
   rw [List.take_succ_eq_append_getElem hi2, List.map_append]
   exact hG'
  ·obtain rfl : i = lays.length := by omega
   rw [List.take_length] at hGl
   clear ih
   refine Run.seq ?_
   refine Run.regionO (D := [some 28]) [true] rfl rfl rfl (fun Z hZ => ?_)
   refine qf (Ev.lss rfl rfl) (by omega) dc rfl ?_
   refine QD.nil (hZ _ ?_)
   clear hZ Z
   repeat (first | refine Run.seq ?_ | refine Run.exit rfl ?_ | refine Run.cond_f rfl ?_)
   refine Run.keepGr hGl (N := (b4, _) :: ((b2, blk [.int .u8 0, str [], .slice none 0 0] 39) :: (b1, blk (Mf.cs ⟨idx, ver, media, cfg, lays, anns, subj, art⟩ (.slice A1 cfg.urls.length c1) (.slice A2 cfg.anns.length c2) (.slice A3 cfg.plats.length c3) (.slice (some ad) lays.length c4) (.slice A5 anns.length c5) (.slice A6 subj.length c6)) 50) :: (b3, obj vk2) :: M2)) (List.perm_middle (l₁ := Ml)).symm fun J5 l5 hSl => ?_
   obtain ⟨A8, c8, rfl⟩ := hSl.isSl
   have le5 := (le2.trans hle).trans l5
   have hG5 := (hG2.mono hle).mono l5
   clear hGl hle
   have hrl : (tJs (d + 4 + 1)).rel J5 [.int .u8 108, str ([]), .slice A8 (lays.map dsJ).length c8] (laJ lays nk) := by rw [hnk]; exact ⟨_, rfl, hSl⟩
   skip
   refine Run.perm (L' := [(b4, _), (b2, blk [.int .u8 0, str [], .slice none 0 0] 39), (b1, blk (Mf.cs ⟨idx, ver, media, cfg, lays, anns, subj, art⟩ (.slice A1 cfg.urls.length c1) (.slice A2 cfg.anns.length c2) (.slice A3 cfg.plats.length c3) (.slice (some ad) lays.length c4) (.slice A5 anns.length c5) (.slice A6 subj.length c6)) 50)] ++ (b3, obj vk2) :: M2) (.refl _) ?_
   refine Run.regionO (D := [some 39, some 40]) [true, true] rfl rfl rfl (fun Z hZ => ?_)
   refine q1 dc rfl rfl ?_
   refine QD.yv dc rfl (Yv.load 2 T rfl rfl rfl rfl) ?_
   refine QD.nil (hZ _ ?_)
   clear hZ Z
   skip
   refine Run.keep [1, 2, 3, 4, 40] [_, _, _, _, _] rfl ?_
   refine Run.piece (fun env' L' I' => ∃ (vk : Value) (M : Own), env' = [(1, .pointer (some ⟨b1, 0, none⟩)), (2, .pointer (some ⟨b2, 0, none⟩)), (3, .pointer (some ⟨b3, 0, none⟩)), (4, .pointer (some ⟨b4, 0, none⟩))] ∧ L' = [(b4, blk [.int .u8 108, str ([]), .slice A8 (lays.map dsJ).length c8] 39), (b2, blk [.int .u8 0, str [], .slice none 0 0] 39), (b1, blk (Mf.cs ⟨idx, ver, media, cfg, lays, anns, subj, art⟩ (.slice A1 cfg.urls.length c1) (.slice A2 cfg.anns.length c2) (.slice A3 cfg.plats.length c3) (.slice (some ad) lays.length c4) (.slice A5 anns.length c5) (.slice A6 subj.length c6)) 50)] ++ (b3, obj vk) :: M ∧ Gr (tJs (d + 4 + 1)) I' 39 vk (ks2 ++ miK ⟨idx, ver, media, cfg, lays, anns, subj, art⟩ nk) M ∧ Le J5 I') ?_ ?_
   ·intro k' fin
    cases idx with
    | true =>
     refine Run.cond_t rfl ?_
     refine Run.regionP (D := [some 41, some 42, some 43]) [true, true] 2 rfl rfl rfl (by simp only [List.drop_succ_cons, List.drop_zero]; rfl) (fun Z hZ => ?_)
     refine q1 dc rfl rfl ?_
     refine QD.yv dc rfl (Yv.loadN 0 T rfl rfl rfl rfl rfl rfl) ?_
     refine QD.nil (hZ _ ?_)
     clear hZ Z
     refine Ops.callP (N := [_, _, _]) (object_put (d + 4) J5 b3 [109, 97, 110, 105, 102, 101, 115, 116, 115] _ (laJ lays nk) ks2 vk2 M2 hG5 hrl (by omega)) (.refl _) rfl dc call43 rfl ?_
     rintro y J6 N6 l6 ⟨vk6, M6, rfl, hG6⟩
     refine Ops.nil ?_
     skip
     refine Run.keep [1, 2, 3, 4] [_, _, _, _] rfl ?_
     exact fin _ _ _ ⟨vk6, M6, rfl, rfl, hG6, l6⟩
    | false =>
     repeat (first | refine Run.seq ?_ | refine Run.cond_f rfl ?_)
     refine Run.regionP (D := [some 44, some 45, some 46, some 47, some 48]) [true, true, true] 3 rfl rfl rfl (by simp only [List.drop_succ_cons, List.drop_zero]; rfl) (fun Z hZ => ?_)
     iterate 2 refine q1 dc rfl rfl ?_
     refine QD.yv dc rfl (Yv.loadN 2 T rfl rfl rfl rfl rfl rfl) ?_
     refine QD.nil (hZ _ ?_)
     clear hZ Z
     refine Ops.call ((spec_DescriptorJson (d + 1) J5 cfg _ _ _ _ _ _ _ _ _ (hd.mono le5) (hkc rfl))) rfl dc call57 rfl ?_
     rintro y K6 k6 ⟨vc, rfl, hSc⟩
     refine Ops.callP (N := [_, _, _]) (object_put (d + 4) K6 b3 [99, 111, 110, 102, 105, 103] _ (dsJ cfg) ks2 vk2 M2 (hG5.mono k6) ⟨vc, rfl, hSc⟩ (by omega)) (.refl _) rfl dc call43 rfl ?_
     rintro y J6 N6 l6 ⟨vk6, M6, rfl, hG6⟩
     refine Ops.nil ?_
     skip
     refine Run.regionP (D := [some 49, some 50, some 51]) [true, true] 2 rfl rfl rfl (by simp only [List.drop_succ_cons, List.drop_zero]; rfl) (fun Z hZ => ?_)
     refine q1 dc rfl rfl ?_
     refine QD.yv dc rfl (Yv.loadN 0 T rfl rfl rfl rfl rfl rfl) ?_
     refine QD.nil (hZ _ ?_)
     clear hZ Z
     refine Ops.callP (N := [_, _, _]) (object_put (d + 4) J6 b3 [108, 97, 121, 101, 114, 115] _ (laJ lays nk) _ vk6 M6 hG6 ((tJs (d + 4 + 1)).mono hrl (k6.trans l6)) (by rw [List.length_append]; simp only [List.length_cons, List.length_nil]; omega)) (.refl _) rfl dc call43 rfl ?_
     rintro y J7 N7 l7 ⟨vk7, M7, rfl, hG7⟩
     refine Ops.nil ?_
     skip
     refine Run.keep [1, 2, 3, 4] [_, _, _, _] rfl ?_
     exact fin _ _ _ ⟨vk7, M7, rfl, rfl, by (have := hG7; rw [List.append_assoc] at this; exact this), (k6.trans l6).trans l7⟩
   rintro env L J ⟨vk, M, rfl, rfl, hG, hle⟩
   have le6 := le5.trans hle
   have hnm : (ks2 ++ miK ⟨idx, ver, media, cfg, lays, anns, subj, art⟩ nk).length ≤ 8 := by
    rw [List.length_append]
    cases idx <;> simp [miK] <;> omega
   obtain ⟨km, hkm⟩ : ∃ km, km = ks2 ++ miK ⟨idx, ver, media, cfg, lays, anns, subj, art⟩ nk := ⟨_, rfl⟩
   rw [← hkm] at hG hnm
   refine Run.seq ?_
   refine Run.regionP (D := [some 52, some 53, some 54, some 55]) [true, true, true] 3 rfl rfl rfl (by simp only [List.drop_succ_cons, List.drop_zero]; rfl) (fun Z hZ => ?_)
   iterate 2 refine q1 dc rfl rfl ?_
   refine QD.yv dc rfl (Yv.load 2 T rfl rfl rfl rfl) ?_
   refine QD.nil (hZ _ ?_)
   clear hZ Z
   refine Ops.callP (N := [_, _, _]) (object_pairs (d + 3) J b3 [97, 110, 110, 111, 116, 97, 116, 105, 111, 110, 115] anns _ (ha.mono le6) hla km vk M hG (by omega)) (.refl _) rfl dc call58 rfl ?_
   rintro y J9 N9 l9 ⟨vk9, M9, rfl, hG9⟩
   refine Ops.nil ?_
   repeat refine Run.seq ?_
   have hpl9 := opP_len [97, 110, 110, 111, 116, 97, 116, 105, 111, 110, 115] anns
   have le9 := le6.trans l9
   have hn9 : (km ++ opP [97, 110, 110, 111, 116, 97, 116, 105, 111, 110, 115] anns).length ≤ 10 := by rw [List.length_append]; omega
   by_cases hpe : subj = []
   ·skip
    refine Run.regionO (D := [some 56, some 57, some 58, some 59]) [true, true, true, true] rfl rfl rfl (fun Z hZ => ?_)
    refine q1 dc rfl rfl ?_
    refine QD.yv dc rfl (Yv.load 2 T rfl rfl rfl rfl) ?_
    refine q1 dc rfl rfl ?_
    refine qf (Ev.gtr rfl rfl) (by rw [hpe]; simp) dc rfl ?_
    refine QD.nil (hZ _ ?_)
    clear hZ Z
    repeat (first | refine Run.seq ?_ | refine Run.skip ?_ | refine Run.cond_f rfl ?_)
    have hGr : Gr (tJs (d + 4 + 1)) J9 39 vk9 (km ++ opP [97, 110, 110, 111, 116, 97, 116, 105, 111, 110, 115] anns ++ sbK subj) M9 := by rw [hpe, sbK, List.append_nil]; exact hG9
    skip
    have hptl := sbK_len subj
    have hnr : (km ++ opP [97, 110, 110, 111, 116, 97, 116, 105, 111, 110, 115] anns ++ sbK subj).length ≤ 12 := by rw [List.length_append]; omega
    refine Run.regionP (D := [some 67, some 68, some 69, some 70]) [true, true, true] 3 rfl rfl rfl (by simp only [List.drop_succ_cons, List.drop_zero]; rfl) (fun Z hZ => ?_)
    iterate 2 refine q1 dc rfl rfl ?_
    refine QD.yv dc rfl (Yv.load 2 T rfl rfl rfl rfl) ?_
    refine QD.nil (hZ _ ?_)
    clear hZ Z
    refine Ops.callP (N := [_, _, _]) (object_text (d + 4) J9 b3 [97, 114, 116, 105, 102, 97, 99, 116, 84, 121, 112, 101] art _ vk9 M9 hGr (by omega)) (.refl _) rfl dc call45 rfl ?_
    rintro y Jr Nr jr ⟨vkr, Mr, rfl, hGf⟩
    refine Ops.nil ?_
    refine Run.seq ?_
    refine Run.keepGr hGf (N := [_, _, _, _]) (List.perm_append_comm (l₁ := [_, _, _, _]) (l₂ := Mr)) fun JF lF hSf => ?_
    obtain ⟨AF, cF, rfl⟩ := hSf.isSl
    refine Run.region ?_
    iterate 3 refine Ops.pure T rfl dc rfl ?_
    refine Ops.loadN 3 rfl dc rfl rfl (T.aggOk rfl) (T.sizeOk rfl) rfl rfl ?_
    refine Ops.store 1 rfl rfl rfl rfl rfl (T.sizeOk rfl) rfl (Nat.le_of_ble_eq_true rfl) rfl rfl ?_
    refine Ops.nil ?_
    skip
    refine Run.retC T 1 (by rw [hCf]; exact func21) results21 rfl rfl rfl rfl rfl rfl (hR _ _ _ ?_)
    refine ⟨rfl, _, rfl, ?_⟩
    have e : km ++ opP [97, 110, 110, 111, 116, 97, 116, 105, 111, 110, 115] anns ++ sbK subj ++ opJ [97, 114, 116, 105, 102, 97, 99, 116, 84, 121, 112, 101] art = mfK ⟨idx, ver, media, cfg, lays, anns, subj, art⟩ (nkO (some ad)) := by simp only [hkm, hks2, hks1]; rw [hnk]; rfl
    rw [e] at hSf ⊢
    exact hSf
   ·have hpp := List.length_pos_iff.2 hpe
    refine Run.regionO (D := [some 56, some 57, some 58, some 59]) [true, true, true, true] rfl rfl rfl (fun Z hZ => ?_)
    refine q1 dc rfl rfl ?_
    refine QD.yv dc rfl (Yv.load 2 T rfl rfl rfl rfl) ?_
    refine q1 dc rfl rfl ?_
    refine qt (Ev.gtr rfl rfl) (by omega) dc rfl ?_
    refine QD.nil (hZ _ ?_)
    clear hZ Z
    refine Run.cond_t rfl ?_
    refine Run.regionP (D := [some 60, some 61, some 62, some 63, some 64, some 65, some 66]) [true, true, true] 3 rfl rfl rfl (by simp only [List.drop_succ_cons, List.drop_zero]; rfl) (fun Z hZ => ?_)
    iterate 2 refine q1 dc rfl rfl ?_
    refine QD.yv dc rfl (Yv.load 2 T rfl rfl rfl rfl) ?_
    refine QD.nil (hZ _ ?_)
    clear hZ Z
    refine Ops.indexSl (j := 0) (hs.mono le9) rfl dc rfl rfl (T.undOk rfl) (T.sizeOk rfl) (by omega) (by omega) fun bb off q cs hq hr hA => ?_
    obtain ⟨D1, d1, D2, d2, D3, d3, rfl, hqL⟩ := hr
    refine Ops.loadIN rfl dc rfl hA (T.aggOk rfl) (T.sizeOk rfl) rfl ?_
    refine Ops.call ((spec_DescriptorJson (d + 1) J9 q _ _ _ _ _ _ _ _ _ hqL (hks q (List.mem_of_getElem? hq)))) rfl dc call57 rfl ?_
    rintro y Kq kq ⟨vc, rfl, hSc⟩
    refine Ops.callP (N := [_, _, _]) (object_put (d + 4) Kq b3 [115, 117, 98, 106, 101, 99, 116] _ (dsJ q) _ vk9 M9 (hG9.mono kq) ⟨vc, rfl, hSc⟩ (by omega)) (.refl _) rfl dc call43 rfl ?_
    rintro y Jq Nq lq ⟨vkq, Mq, rfl, hGq⟩
    refine Ops.nil ?_
    refine Run.seq ?_
    have hGr : Gr (tJs (d + 4 + 1)) Jq 39 vkq (km ++ opP [97, 110, 110, 111, 116, 97, 116, 105, 111, 110, 115] anns ++ sbK subj) Mq := by rw [sbK_head (q := q) hq]; exact hGq
    skip
    have hptl := sbK_len subj
    have hnr : (km ++ opP [97, 110, 110, 111, 116, 97, 116, 105, 111, 110, 115] anns ++ sbK subj).length ≤ 12 := by rw [List.length_append]; omega
    refine Run.regionP (D := [some 67, some 68, some 69, some 70]) [true, true, true] 3 rfl rfl rfl (by simp only [List.drop_succ_cons, List.drop_zero]; rfl) (fun Z hZ => ?_)
    iterate 2 refine q1 dc rfl rfl ?_
    refine QD.yv dc rfl (Yv.load 2 T rfl rfl rfl rfl) ?_
    refine QD.nil (hZ _ ?_)
    clear hZ Z
    refine Ops.callP (N := [_, _, _]) (object_text (d + 4) Jq b3 [97, 114, 116, 105, 102, 97, 99, 116, 84, 121, 112, 101] art _ vkq Mq hGr (by omega)) (.refl _) rfl dc call45 rfl ?_
    rintro y Jr Nr jr ⟨vkr, Mr, rfl, hGf⟩
    refine Ops.nil ?_
    refine Run.seq ?_
    refine Run.keepGr hGf (N := [_, _, _, _]) (List.perm_append_comm (l₁ := [_, _, _, _]) (l₂ := Mr)) fun JF lF hSf => ?_
    obtain ⟨AF, cF, rfl⟩ := hSf.isSl
    refine Run.region ?_
    iterate 3 refine Ops.pure T rfl dc rfl ?_
    refine Ops.loadN 3 rfl dc rfl rfl (T.aggOk rfl) (T.sizeOk rfl) rfl rfl ?_
    refine Ops.store 1 rfl rfl rfl rfl rfl (T.sizeOk rfl) rfl (Nat.le_of_ble_eq_true rfl) rfl rfl ?_
    refine Ops.nil ?_
    skip
    refine Run.retC T 1 (by rw [hCf]; exact func21) results21 rfl rfl rfl rfl rfl rfl (hR _ _ _ ?_)
    refine ⟨rfl, _, rfl, ?_⟩
    have e : km ++ opP [97, 110, 110, 111, 116, 97, 116, 105, 111, 110, 115] anns ++ sbK subj ++ opJ [97, 114, 116, 105, 102, 97, 99, 116, 84, 121, 112, 101] art = mfK ⟨idx, ver, media, cfg, lays, anns, subj, art⟩ (nkO (some ad)) := by simp only [hkm, hks2, hks1]; rw [hnk]; rfl
    rw [e] at hSf ⊢
    exact hSf
end Go.V
namespace Go.V
set_option maxRecDepth 10000
theorem encs_len_geM : ∀ rs : List Nat, rs.length ≤ (encs rs).length
 | [] => Nat.zero_le _
 | r :: rs => by
  have := encs_len_geM rs
  have := (encR_pos r).1
  rw [encs_cons, List.length_append, List.length_cons]; omega
theorem wquo_le (s : Bs) (h : GoodT s) (w : Bs) : (wquo s w).1.length ≤ 12 * s.length + 2 := by
 obtain ⟨rs, rfl, hg⟩ := h
 have h1 := wtext_len rs w hg
 have h2 := encs_len_geM rs
 unfold wquo
 rw [runesOf_encs hg]
 simp only [List.length_append, List.length_cons, List.length_nil]; omega
theorem goodS.t {s : Bs} (h : goodS s) : GoodT s := runes_of_valid h.1
theorem hTell_asc {h : K2} (hd : digGood (hTell h) = true) : ∀ c ∈ hTell h, c.toNat < 128 := by
 obtain ⟨e, h1, h2⟩ := digGood_split hd
 rw [e]
 intro c hc
 rcases List.mem_append.1 hc with hc | hc
 ·have : ∀ x ∈ ([115, 104, 97, 50, 53, 54, 58] : Bs), x.toNat < 128 := by decide
  exact this c hc
 ·unfold allIn at h2
  rw [List.all_eq_true] at h2
  have h3 := h2 c hc
  have : ∀ x ∈ (hexT : Bs), x.toNat < 128 := by decide
  exact this c (by simpa using h3)
theorem hTell_len {h : K2} (hd : digGood (hTell h) = true) : (hTell h).length = 71 := by
 unfold digGood at hd
 simp only [Bool.and_eq_true, decide_eq_true_eq] at hd
 exact hd.1
theorem fine_tx (d : Nat) {s : Bs} (h : GoodT s) : Fine (d + 1) (txJ s) := by
 unfold Fine
 rw [if_pos (show (txJ s).kind = 115 from rfl)]; exact h
theorem fine_lit (d : Nat) {t : Bs} {k : List Js} {v : JV} (h : LitR t v) : Fine (d + 1) (.mk 110 t k) := by
 unfold Fine
 rw [if_neg (show (Js.mk 110 t k).kind ≠ 115 from (by decide : (110 : UInt8) ≠ 115)), if_neg (show (Js.mk 110 t k).kind ≠ 108 from (by decide : (110 : UInt8) ≠ 108)), if_neg (show (Js.mk 110 t k).kind ≠ 111 from (by decide : (110 : UInt8) ≠ 111))]
 exact ⟨v, h⟩
theorem fine_li (d : Nat) {t : Bs} {l : List Js} (h : ∀ x ∈ l, Fine d x) : Fine (d + 1) (.mk 108 t l) := by
 unfold Fine
 rw [if_neg (show (Js.mk 108 t l).kind ≠ 115 from (by decide : (108 : UInt8) ≠ 115)), if_pos (show (Js.mk 108 t l).kind = 108 from rfl)]
 exact h
theorem fine_ob (d : Nat) {t : Bs} {l : List Js} (h : FineM (Fine d) l) : Fine (d + 1) (.mk 111 t l) := by
 unfold Fine
 rw [if_neg (show (Js.mk 111 t l).kind ≠ 115 from (by decide : (111 : UInt8) ≠ 115)), if_neg (show (Js.mk 111 t l).kind ≠ 108 from (by decide : (111 : UInt8) ≠ 108)), if_pos (show (Js.mk 111 t l).kind = 111 from rfl)]
 exact h
theorem fineM_two {R : Js → Prop} {k : Bs} {v : Js} (hk : GoodT k) (hv : R v) : FineM R [txJ k, v] := ⟨hk, hv, trivial⟩
theorem fine_ls (d : Nat) {l : List Bs} (h : ∀ s ∈ l, GoodT s) : Fine (d + 2) (lsJ l) := fine_li _ fun x hx => by
 obtain ⟨s, hs, rfl⟩ := List.mem_map.1 hx
 exact fine_tx d (h s hs)
theorem fine_pa (d : Nat) : ∀ {l : List K2}, (∀ s ∈ aTexts l, GoodT s) → FineM (Fine (d + 1)) (prJs l)
 | [], _ => trivial
 | x :: l, h => ⟨h x.1 (by simp [aTexts]), fine_tx d (h x.2 (by simp [aTexts])), fine_pa d fun s hs => h s (by simp only [aTexts, List.flatMap_cons] at hs ⊢; exact List.mem_append_right _ hs)⟩
theorem fineM_opJ (d : Nat) {k s : Bs} (hk : GoodT k) (hs : GoodT s) : FineM (Fine (d + 1)) (opJ k s) := by
 unfold opJ
 split
 ·trivial
 ·exact fineM_two hk (fine_tx d hs)
theorem fineM_opL (d : Nat) {k : Bs} {l : List Bs} (hk : GoodT k) (hs : ∀ s ∈ l, GoodT s) : FineM (Fine (d + 2)) (opL k l) := by
 unfold opL
 split
 ·trivial
 ·exact fineM_two hk (fine_ls d hs)
theorem fineM_opP (d : Nat) {k : Bs} {l : List K2} (hk : GoodT k) (hs : ∀ s ∈ aTexts l, GoodT s) : FineM (Fine (d + 2)) (opP k l) := by
 unfold opP
 split
 ·trivial
 ·exact fineM_two hk (fine_ob _ (fine_pa d hs))
theorem fm {R : Js → Prop} {a b : List Js} (h : FineM R a) (k : FineM R b) : FineM R (a ++ b) := FineM.append _ a (Nat.le_refl _) h k
theorem fineM_pl (d : Nat) {x : PfL} (h : ∀ s ∈ pTexts [x], goodS s) : FineM (Fine (d + 2)) (plK x) := by
 have hm : ∀ s, s ∈ [x.1.os, x.1.arch, x.1.ver, x.1.var] ++ x.2.2 ++ x.2.1 → GoodT s := fun s hs => (h s (by simp only [pTexts, List.flatMap_cons, List.flatMap_nil, List.append_nil]; exact hs)).t
 unfold plK
 refine fm (fm (fm (fm (fm (fm trivial (fineM_two (goodT_asc (by decide)) (fine_tx _ (hm _ (by simp))))) (fineM_two (goodT_asc (by decide)) (fine_tx _ (hm _ (by simp))))) (fineM_opJ _ (goodT_asc (by decide)) (hm _ (by simp)))) (fineM_opL d (goodT_asc (by decide)) fun s hs => hm s (by simp [hs]))) (fineM_opJ _ (goodT_asc (by decide)) (hm _ (by simp)))) (fineM_opL d (goodT_asc (by decide)) fun s hs => hm s (by simp [hs]))
theorem sz_lt {n : Int} (h1 : -9223372036854775808 ≤ n) (h2 : n ≤ 9223372036854775807) : n.natAbs < 10 ^ 20 := by
 have : n.natAbs ≤ 9223372036854775808 := by omega
 exact Nat.lt_of_le_of_lt this (by decide)
theorem b64_goodT (s : Bs) : GoodT (b64 s) := goodT_asc fun c hc => by have := (b64_asc s c hc).2.1; omega
theorem fineM_ds (d : Nat) {x : Ds} (h : goodD x) (h1 : -9223372036854775808 ≤ x.size) (h2 : x.size ≤ 9223372036854775807) : FineM (Fine (d + 3)) (dsK x) := by
 obtain ⟨g1, g2, g3, g4, g5, g6, g7, g8⟩ := h
 have hm : ∀ s ∈ dTexts x, GoodT s := fun s hs => (g8 s hs).t
 have hpt : FineM (Fine (d + 3)) (ptK x.plats) := by
  cases hp : x.plats with
  | nil => trivial
  | cons y r =>
   refine fineM_two (goodT_asc (by decide)) (fine_ob _ (fineM_pl d fun s hs => g8 s ?_))
   unfold dTexts
   rw [hp]
   refine List.mem_append_right _ ?_
   simp only [pTexts, List.flatMap_cons, List.flatMap_nil, List.append_nil] at hs ⊢
   exact List.mem_append_left _ hs
 unfold dsK
 refine fm (fm (fm (fm (fm (fm (fm (fm trivial (fineM_two (goodT_asc (by decide)) (fine_tx _ (hm _ (by simp [dTexts]))))) (fineM_two (goodT_asc (by decide)) (fine_lit _ (lit_num _ (sz_lt h1 h2))))) (fineM_two (goodT_asc (by decide)) (fine_tx _ (goodT_asc (hTell_asc g1))))) (fineM_opJ _ (goodT_asc (by decide)) (b64_goodT _)))
  (fineM_opL _ (goodT_asc (by decide)) fun s hs => hm s (by simp [dTexts, hs]))) (fineM_opP _ (goodT_asc (by decide)) fun s hs => hm s (by simp [dTexts, hs]))) hpt) (fineM_opJ _ (goodT_asc (by decide)) (hm _ (by simp [dTexts])))
def szM (m : Mf) : Prop := (∀ x ∈ m.lays ++ m.subj ++ [m.cfg], -9223372036854775808 ≤ x.size ∧ x.size ≤ 9223372036854775807) ∧ -9223372036854775808 ≤ m.ver ∧ m.ver ≤ 9223372036854775807
theorem fine_mf {m : Mf} (A : Option Addr) (h : goodM m) (hz : szM m) : Fine 6 (mfJ m (nkO A)) := by
 obtain ⟨g1, g2, g3, g4, g5, g6, g7⟩ := h
 obtain ⟨z1, z2, z3⟩ := hz
 have hm : ∀ s ∈ aTexts m.anns ++ [m.media, m.art], GoodT s := fun s hs => (g7 s hs).t
 have hds : ∀ (d : Nat) (x : Ds), x ∈ m.lays ++ m.subj → Fine (d + 4) (dsJ x) := fun d x hx => fine_ob _ (fineM_ds d (g1 x hx) (z1 x (List.mem_append_left _ hx)).1 (z1 x (List.mem_append_left _ hx)).2)
 have hla : Fine 5 (laJ m.lays (nkO A)) := by
  cases A with
  | none => exact fine_lit 4 lit_null
  | some a =>
   refine fine_li 4 fun x hx => ?_
   obtain ⟨y, hy, rfl⟩ := List.mem_map.1 hx
   exact hds 0 y (by simp [hy])
 have hmi : FineM (Fine 5) (miK m (nkO A)) := by
  unfold miK
  cases hi : m.idx with
  | true => exact fineM_two (goodT_asc (by decide)) hla
  | false => exact fm (fineM_two (goodT_asc (by decide)) (fine_ob 4 (fineM_ds 1 (g2 hi) (z1 m.cfg (by simp)).1 (z1 m.cfg (by simp)).2))) (fineM_two (goodT_asc (by decide)) hla)
 have hsb : FineM (Fine 5) (sbK m.subj) := by
  cases hp : m.subj with
  | nil => trivial
  | cons y r => exact fineM_two (goodT_asc (by decide)) (hds 1 y (by rw [hp]; simp))
 refine fine_ob 5 ?_
 unfold mfK
 exact fm (fm (fm (fm (fm (fm trivial (fineM_two (goodT_asc (by decide)) (fine_lit 4 (lit_num _ (sz_lt z2 z3))))) (fineM_opJ 4 (goodT_asc (by decide)) (hm _ (by simp)))) hmi) (fineM_opP 3 (goodT_asc (by decide)) fun s hs => hm s (by simp [hs]))) hsb) (fineM_opJ 4 (goodT_asc (by decide)) (hm _ (by simp)))
end Go.V
namespace Go.V
set_option maxRecDepth 10000
theorem encR_high {r : Nat} (h : goodR r) (h1 : 128 ≤ r) : ∀ c ∈ encR (r : Int), 128 ≤ c.toNat := by
 have hg := h
 unfold goodR at hg
 rw [encR_good h, if_neg (by omega)]
 intro c hc
 split at hc
 ·simp only [List.mem_cons, List.not_mem_nil, or_false] at hc
  rcases hc with rfl | rfl <;> (rw [ofNat_nat (by omega)]; omega)
 split at hc
 ·simp only [List.mem_cons, List.not_mem_nil, or_false] at hc
  rcases hc with rfl | rfl | rfl <;> (rw [ofNat_nat (by omega)]; omega)
 ·simp only [List.mem_cons, List.not_mem_nil, or_false] at hc
  rcases hc with rfl | rfl | rfl | rfl <;> (rw [ofNat_nat (by omega)]; omega)
theorem rune_more {c : UInt8} {s : Bs} (h : (34 : UInt8) ∈ s) (x : Bs) : runeAt (c :: s ++ x) 0 = runeAt (c :: s) 0 := by
 have key : ∀ {r : Nat} {t : Bs}, goodR r → c :: s = encR (r : Int) ++ t → runeAt (c :: s ++ x) 0 = runeAt (c :: s) 0 := by
  intro r t hg e
  rw [e, List.append_assoc, runeAt_enc hg, runeAt_enc hg]
 by_cases h1 : (runeAt (c :: s) 0).1 = 65533 ∧ (runeAt (c :: s) 0).2 = 1
 ·by_cases h2 : (runeAt (c :: s ++ x) 0).1 = 65533 ∧ (runeAt (c :: s ++ x) 0).2 = 1
  ·exact Prod.ext (by rw [h1.1, h2.1]) (by rw [h1.2, h2.2])
  ·obtain ⟨hg, e⟩ := dec_good (s := c :: s ++ x) (by simp) h2
   generalize (runeAt (c :: s ++ x) 0).1 = r at *
   generalize (c :: s ++ x).drop (runeAt (c :: s ++ x) 0).2 = t at *
   by_cases hl : (encR (r : Int)).length ≤ (c :: s).length
   ·have ht : (c :: s).take (encR (r : Int)).length = encR (r : Int) := by
     have := congrArg (List.take (encR (r : Int)).length) e
     rw [List.take_left, List.take_append_of_le_length hl] at this
     exact this
    exact key hg (t := (c :: s).drop (encR (r : Int)).length) (by
     have := List.take_append_drop (encR (r : Int)).length (c :: s)
     rw [ht] at this; exact this.symm)
   ·exfalso
    have ht : c :: s = (encR (r : Int)).take (c :: s).length := by
     have := congrArg (List.take (c :: s).length) e
     rw [List.take_left, List.take_append_of_le_length (by omega)] at this
     exact this
    have hm : (34 : UInt8) ∈ encR (r : Int) := by
     have : (34 : UInt8) ∈ c :: s := by simp [h]
     rw [ht] at this
     exact List.mem_of_mem_take this
    by_cases h128 : 128 ≤ r
    ·have := encR_high hg h128 _ hm
     exact absurd this (by decide)
    ·have hl1 : (encR (r : Int)).length = 1 := by rw [encR_len hg, if_pos (by omega)]
     rw [hl1] at hl
     simp at hl
 ·obtain ⟨hg, e⟩ := dec_good (s := c :: s) (by simp) h1
  exact key hg e
theorem word_none {w : UInt8} {s : Bs} (hs : s ≠ []) (h : wordR [w] s = none) (x : Bs) : wordR [w] (s ++ x) = none := by
 obtain ⟨c, t, rfl⟩ := List.exists_cons_of_ne_nil hs
 unfold wordR at h ⊢
 simpa using h
theorem word_more {w s r : Bs} (h : wordR w s = some r) (x : Bs) : wordR w (s ++ x) = some (r ++ x) := by
 obtain ⟨_, e⟩ := word_sfx h
 rw [e, List.append_assoc]; exact word_app w _
theorem unit_more : ∀ (k y : Nat) (s : Bs) {z : Nat} {r : Bs} (x : Bs), unitR k y s = some (z, r) → unitR k y (s ++ x) = some (z, r ++ x)
 | 0, y, s, z, r, x, h => by simp only [unitR, Option.some.injEq, Prod.mk.injEq] at h ⊢; exact ⟨h.1, by rw [h.2]⟩
 | k + 1, y, [], z, r, x, h => by simp [unitR] at h
 | k + 1, y, c :: s, z, r, x, h => by
  rw [List.cons_append]
  simp only [unitR] at h ⊢
  split at h
  ·cases h
  ·rename_i d hd
   exact unit_more k _ s x h
theorem escU_more {s r : Bs} {y : Nat} (h : escU s = some (y, r)) (h1 : r ≠ []) (h2 : r ≠ [92]) (x : Bs) : escU (s ++ x) = some (y, r ++ x) := by
 have outU : ∀ {a z : Nat} {b y : Bs}, (some (a, b) : Option (Nat × Bs)) = some (z, y) → (some (a, b ++ x) : Option (Nat × Bs)) = some (z, y ++ x) := fun h => by cases h; rfl
 unfold escU at h ⊢
 split at h
 ·cases h
 ·rename_i a s1 e1
  rw [unit_more _ _ _ x e1]
  simp only
  split at h
  ·rename_i hc
   rw [if_pos hc]
   split at h
   ·rename_i e2
    cases h
    have : wordR [92, 117] (r ++ x) = none := by
     cases r with
     | nil => exact absurd rfl h1
     | cons c t =>
      cases t with
      | nil =>
       have hne : c ≠ 92 := fun e => h2 (by rw [e])
       unfold wordR
       rw [if_neg]
       simp [hne]
      | cons d t =>
       unfold wordR at e2 ⊢
       simpa using e2
    rw [this]
   ·rename_i s2 e2
    rw [word_more e2 x]
    simp only
    split at h
    ·cases h
    ·rename_i b s3 e3
     rw [unit_more _ _ _ x e3]
     simp only
     split at h
     ·rename_i hb
      rw [if_pos hb]
      exact outU h
     ·rename_i hb
      rw [if_neg hb]
      exact outU h
  ·rename_i hc
   rw [if_neg hc]
   exact outU h
theorem escR_more {c : UInt8} {s e r : Bs} (h : escR c s = some (e, r)) (h1 : r ≠ []) (h2 : r ≠ [92]) (x : Bs) : escR c (s ++ x) = some (e, r ++ x) := by
 have out : ∀ {a b z y : Bs}, (some (a, b) : Option (Bs × Bs)) = some (z, y) → (some (a, b ++ x) : Option (Bs × Bs)) = some (z, y ++ x) := fun h => by cases h; rfl
 unfold escR at h ⊢
 split at h
 ·rename_i hc; rw [if_pos hc]; exact out h
 rename_i hc; rw [if_neg hc]; clear hc
 split at h
 ·rename_i hc; rw [if_pos hc]; exact out h
 rename_i hc; rw [if_neg hc]; clear hc
 split at h
 ·rename_i hc; rw [if_pos hc]; exact out h
 rename_i hc; rw [if_neg hc]; clear hc
 split at h
 ·rename_i hc; rw [if_pos hc]; exact out h
 rename_i hc; rw [if_neg hc]; clear hc
 split at h
 ·rename_i hc; rw [if_pos hc]; exact out h
 rename_i hc; rw [if_neg hc]; clear hc
 split at h
 ·rename_i hc; rw [if_pos hc]; exact out h
 rename_i hc; rw [if_neg hc]; clear hc
 split at h
 ·rename_i hc; rw [if_pos hc]
  cases he : escU s with
  | none => rw [he] at h; cases h
  | some p =>
   obtain ⟨y, q⟩ := p
   rw [he] at h
   simp only [Option.map_some, Option.some.injEq, Prod.mk.injEq] at h
   obtain ⟨rfl, rfl⟩ := h
   rw [escU_more he h1 h2 x]; rfl
 ·cases h
theorem text_quote : ∀ (n : Nat) (s out : Bs) {t r : Bs}, textR n s out = some (t, r) → (34 : UInt8) ∈ s
 | 0, s, out, t, r, h => by simp [textR] at h
 | n + 1, [], out, t, r, h => by simp [textR] at h
 | n + 1, c :: s, out, t, r, h => by
  simp only [textR] at h
  split at h
  ·rename_i hc; rw [hc]; simp
  split at h
  ·cases h
  split at h
  ·cases s with
   | nil => simp at h
   | cons d u =>
    simp only at h
    split at h
    ·cases h
    ·rename_i x r' he
     have := text_quote n _ _ h
     obtain ⟨v, rfl⟩ := escR_sfx he
     simp [this]
  ·have := text_quote n _ _ h
   exact List.mem_of_mem_drop this
theorem text_more : ∀ (n : Nat) (s out : Bs) {t r : Bs} (x : Bs) (m : Nat), textR n s out = some (t, r) → n ≤ m → textR m (s ++ x) out = some (t, r ++ x)
 | 0, s, out, t, r, x, m, h, _ => by simp [textR] at h
 | n + 1, [], out, t, r, x, m, h, _ => by simp [textR] at h
 | n + 1, c :: s, out, t, r, x, m, h, hm => by
  obtain ⟨m, rfl⟩ : ∃ q, m = q + 1 := ⟨m - 1, by omega⟩
  rw [List.cons_append]
  simp only [textR] at h ⊢
  split at h
  ·rename_i hc; rw [if_pos hc]; cases h; rfl
  rename_i hc; rw [if_neg hc]
  split at h
  ·cases h
  rename_i hc2; rw [if_neg hc2]
  split at h
  ·rename_i hc3; rw [if_pos hc3]
   cases s with
   | nil => simp at h
   | cons d u =>
    rw [List.cons_append]
    simp only at h ⊢
    split at h
    ·cases h
    ·rename_i e r' he
     have h1 : r' ≠ [] := fun hh => by subst hh; have := text_quote n _ _ h; cases this
     have h2 : r' ≠ [92] := fun hh => by
      subst hh; have := text_quote n _ _ h
      rw [List.mem_singleton] at this; exact absurd this (by decide)
     rw [escR_more he h1 h2 x]
     exact text_more n _ _ x m h (by omega)
  ·rename_i hc3; rw [if_neg hc3]
   have hq := text_quote n _ _ h
   have h34 : (34 : UInt8) ∈ s := by
    obtain ⟨w, hw⟩ : ∃ w, (runeAt (c :: s) 0).2 = w + 1 := ⟨(runeAt (c :: s) 0).2 - 1, by have := (runeAt_width (c :: s) 0).1; omega⟩
    rw [hw, List.drop_succ_cons] at hq
    exact List.mem_of_mem_drop hq
   have hr := rune_more (c := c) h34 x
   rw [List.cons_append] at hr
   rw [hr]
   have hl : (runeAt (c :: s) 0).2 ≤ (c :: s).length := by
    refine Nat.le_of_not_lt fun hlt => ?_
    rw [List.drop_of_length_le (by omega)] at hq
    cases hq
   have hd : (c :: (s ++ x)).drop (runeAt (c :: s) 0).2 = (c :: s).drop (runeAt (c :: s) 0).2 ++ x := by
    rw [← List.cons_append, List.drop_append_of_le_length hl]
   rw [hd]
   exact text_more n _ _ x m h (by omega)
theorem str_more {s t r : Bs} (h : strR s = some (t, r)) (x : Bs) : strR (s ++ x) = some (t, r ++ x) :=
 text_more _ _ _ x _ h (by rw [List.length_append]; omega)
theorem dropW_more (p : UInt8 → Bool) : ∀ (s x : Bs), s.dropWhile p ≠ [] → (s ++ x).dropWhile p = s.dropWhile p ++ x
 | [], x, h => absurd rfl h
 | c :: s, x, h => by
  rw [List.cons_append, List.dropWhile_cons, List.dropWhile_cons] at *
  split
  ·rename_i hp; rw [if_pos hp] at h; exact dropW_more p s x h
  ·rfl
theorem digs_more {s r : Bs} (h : digsR s = some r) (hr : r ≠ []) (x : Bs) : digsR (s ++ x) = some (r ++ x) := by
 unfold digsR at h
 split at h
 ·cases h
 ·rename_i c t
  unfold digsR
  rw [List.cons_append]
  simp only
  split at h
  ·rename_i hd; rw [if_pos hd]; cases h
   rw [dropW_more _ _ _ hr]
  ·cases h
theorem num1_more {s : Bs} (hs : s ≠ []) (x : Bs) : numR1 (s ++ x) = numR1 s ++ x := by
 unfold numR1
 cases h : wordR [45] s with
 | none => rw [word_none hs h]; rfl
 | some r => rw [word_more h]; rfl
theorem num2_more {s r : Bs} (h : numR2 s = some r) (hr : r ≠ []) (x : Bs) : numR2 (s ++ x) = some (r ++ x) := by
 have hs : s ≠ [] := fun e => by subst e; simp [numR2, wordR, digsR] at h
 unfold numR2 at h ⊢
 split at h
 ·rename_i q hq
  cases h; rw [word_more hq]
 ·rename_i hq
  rw [word_none hs hq]; exact digs_more h hr x
theorem num3_more {s r : Bs} (h : numR3 s = some r) (hr : r ≠ []) (x : Bs) : numR3 (s ++ x) = some (r ++ x) := by
 have hs : s ≠ [] := fun e => by
  subst e
  have := (num3_sfx h).len
  exact hr (List.length_eq_zero_iff.1 (by simpa using this))
 unfold numR3 at h ⊢
 split at h
 ·rename_i q hq
  rw [word_more hq]; exact digs_more h hr x
 ·rename_i hq
  rw [word_none hs hq]; cases h; rfl
theorem sgn_more {s : Bs} (hs : s ≠ []) (x : Bs) : (wordR [43] (s ++ x)).getD (numR1 (s ++ x)) = (wordR [43] s).getD (numR1 s) ++ x := by
 cases h : wordR [43] s with
 | none => rw [word_none hs h, Option.getD_none, Option.getD_none, num1_more hs]
 | some r => rw [word_more h]; rfl
theorem num4_more {s r : Bs} (h : numR4 s = some r) (hr : r ≠ []) (x : Bs) : numR4 (s ++ x) = some (r ++ x) := by
 have hs : s ≠ [] := fun e => by
  subst e
  have := (num4_sfx h).len
  exact hr (List.length_eq_zero_iff.1 (by simpa using this))
 have go : ∀ q : Bs, digsR ((wordR [43] q).getD (numR1 q)) = some r → digsR ((wordR [43] (q ++ x)).getD (numR1 (q ++ x))) = some (r ++ x) := by
  intro q hq
  have hne : q ≠ [] := fun e => by subst e; simp [wordR, numR1, digsR] at hq
  rw [sgn_more hne]; exact digs_more hq hr x
 unfold numR4 at h ⊢
 split at h
 ·rename_i q hq
  rw [word_more hq]; exact go q h
 ·rename_i hq
  rw [word_none hs hq]
  simp only
  split at h
  ·rename_i q hq2
   rw [word_more hq2]; exact go q h
  ·rename_i hq2
   rw [word_none hs hq2]; cases h; rfl
theorem num_more {s r : Bs} (h : numR s = some r) (hr : r ≠ []) (x : Bs) : numR (s ++ x) = some (r ++ x) := by
 unfold numR at h ⊢
 cases h2 : numR2 (numR1 s) with
 | none => rw [h2] at h; cases h
 | some a =>
  rw [h2, Option.bind_some] at h
  cases h3 : numR3 a with
  | none => rw [h3] at h; cases h
  | some b =>
   rw [h3, Option.bind_some] at h
   have hb : b ≠ [] := fun e => by
    subst e; exact hr (List.length_eq_zero_iff.1 (by simpa using (num4_sfx h).len))
   have ha : a ≠ [] := fun e => by
    subst e; exact hb (List.length_eq_zero_iff.1 (by simpa using (num3_sfx h3).len))
   have hs : s ≠ [] := fun e => by subst e; simp [numR1, numR2, wordR, digsR] at h2
   rw [num1_more hs, num2_more h2 ha x, Option.bind_some, num3_more h3 hb x, Option.bind_some, num4_more h hr x]
def Mor (val : Bs → Option (JV × Bs)) : Prop := ∀ {s v r}, val s = some (v, r) → r ≠ [] → ∀ x, val (s ++ x) = some (v, r ++ x)
theorem skip_nil_ne {s : Bs} {c : UInt8} {t : Bs} (h : skipB s = c :: t) : s ≠ [] := fun e => by subst e; cases h
theorem elems_more {val : Bs → Option (JV × Bs)} (hv : Mor val) : ∀ (n : Nat) (s : Bs) (acc : List JV) {l : List JV} {r : Bs} (x : Bs) (m : Nat), elemsR val n s acc = some (l, r) → n ≤ m → elemsR val m (s ++ x) acc = some (l, r ++ x)
 | 0, s, acc, l, r, x, m, h, _ => by simp [elemsR] at h
 | n + 1, s, acc, l, r, x, m, h, hm => by
  obtain ⟨m, rfl⟩ : ∃ q, m = q + 1 := ⟨m - 1, by omega⟩
  simp only [elemsR] at h ⊢
  split at h
  ·cases h
  ·rename_i y s1 h1
   split at h
   ·cases h
   ·rename_i c s2 h2
    rw [hv h1 (skip_nil_ne h2) x]
    simp only
    rw [skip_app h2 x, List.cons_append]
    simp only
    split at h
    ·rename_i hc; rw [if_pos hc]; cases h; rfl
    ·rename_i hc; rw [if_neg hc]
     split at h
     ·rename_i hc2; rw [if_pos hc2]; exact elems_more hv n _ _ x m h (by omega)
     ·cases h
theorem key_more {s k r : Bs} (h : keyR s = some (k, r)) (x : Bs) : keyR (s ++ x) = some (k, r ++ x) := by
 unfold keyR at h ⊢
 split at h
 ·cases h
 ·rename_i c s1 h1
  rw [skip_app h1 x, List.cons_append]
  simp only
  split at h
  ·rename_i hc; rw [if_pos hc]
   split at h
   ·cases h
   ·rename_i k' s2 h2
    rw [str_more h2 x]
    simp only
    split at h
    ·cases h
    ·rename_i c' s3 h3
     rw [skip_app h3 x, List.cons_append]
     simp only
     split at h
     ·rename_i hc2; rw [if_pos hc2]; cases h; rfl
     ·cases h
  ·cases h
theorem membs_more {val : Bs → Option (JV × Bs)} (hv : Mor val) : ∀ (n : Nat) (s : Bs) (ks : List Bs) (vs : List JV) {l : List Bs} {w : List JV} {r : Bs} (x : Bs) (m : Nat), membsR val n s ks vs = some (l, w, r) → n ≤ m → membsR val m (s ++ x) ks vs = some (l, w, r ++ x)
 | 0, s, ks, vs, l, w, r, x, m, h, _ => by simp [membsR] at h
 | n + 1, s, ks, vs, l, w, r, x, m, h, hm => by
  obtain ⟨m, rfl⟩ : ∃ q, m = q + 1 := ⟨m - 1, by omega⟩
  simp only [membsR] at h ⊢
  split at h
  ·cases h
  ·rename_i k s0 h0
   rw [key_more h0 x]
   simp only
   split at h
   ·cases h
   ·rename_i y s1 h1
    split at h
    ·cases h
    ·rename_i c s2 h2
     rw [hv h1 (skip_nil_ne h2) x]
     simp only
     rw [skip_app h2 x, List.cons_append]
     simp only
     split at h
     ·rename_i hc; rw [if_pos hc]; cases h; rfl
     ·rename_i hc; rw [if_neg hc]
      split at h
      ·rename_i hc2; rw [if_pos hc2]; exact membs_more hv n _ _ _ x m h (by omega)
      ·cases h
theorem keyR_nil : keyR [] = none := rfl
theorem obj_more {val : Bs → Option (JV × Bs)} (hv : Mor val) {t : Bs} {v : JV} {r : Bs} (h : objR val t = some (v, r)) (x : Bs) : objR val (t ++ x) = some (v, r ++ x) := by
 unfold objR at h ⊢
 have hne : skipB t ≠ [] := fun e => by
  rw [e] at h
  simp [wordR, membsR, keyR_nil] at h
 rw [skip_ne hne x]
 split at h
 ·rename_i q hq
  rw [word_more hq x]; cases h; rfl
 ·rename_i hq
  rw [word_none hne hq x]
  simp only
  cases hm : membsR val (t.length + 1) (skipB t) [] [] with
  | none => rw [hm] at h; cases h
  | some p =>
   obtain ⟨ks, vs, r'⟩ := p
   rw [hm] at h
   rw [membs_more hv _ _ _ _ x ((t ++ x).length + 1) hm (by rw [List.length_append]; omega)]
   cases h; rfl
theorem list_more {val : Bs → Option (JV × Bs)} (hv : Mor val) (h0 : val [] = none) {t : Bs} {v : JV} {r : Bs} (h : listR val t = some (v, r)) (x : Bs) : listR val (t ++ x) = some (v, r ++ x) := by
 unfold listR at h ⊢
 have hne : skipB t ≠ [] := fun e => by
  rw [e] at h
  simp [wordR, elemsR, h0] at h
 rw [skip_ne hne x]
 split at h
 ·rename_i q hq
  rw [word_more hq x]; cases h; rfl
 ·rename_i hq
  rw [word_none hne hq x]
  simp only
  cases hm : elemsR val (t.length + 1) (skipB t) [] with
  | none => rw [hm] at h; cases h
  | some p =>
   obtain ⟨vs, r'⟩ := p
   rw [hm] at h
   rw [elems_more hv _ _ _ x ((t ++ x).length + 1) hm (by rw [List.length_append]; omega)]
   cases h; rfl
theorem eaten_more {s r : Bs} (x : Bs) : eaten (s ++ x) (r ++ x) = eaten s r := by
 unfold eaten
 rw [List.length_append, List.length_append, show s.length + x.length - (r.length + x.length) = s.length - r.length by omega, List.take_append_of_le_length (by omega)]
theorem step_more {sub : Option (Bs → Option (JV × Bs))} (hs : ∀ val, sub = some val → Mor val ∧ val [] = none) {s : Bs} {v : JV} {r : Bs} (h : stepR sub s = some (v, r)) (hr : r ≠ [] ∨ v.kind ≠ 48) (x : Bs) : stepR sub (s ++ x) = some (v, r ++ x) := by
 unfold stepR at h ⊢
 split at h
 ·cases h
 rename_i c t e
 rw [skip_app e x, List.cons_append]
 simp only
 split at h
 ·rename_i hc; rw [if_pos hc]
  cases sub with
  | none => cases h
  | some val => rw [Option.bind_some] at h ⊢; exact obj_more (hs val rfl).1 h x
 rename_i hc; rw [if_neg hc]; clear hc
 split at h
 ·rename_i hc; rw [if_pos hc]
  cases sub with
  | none => cases h
  | some val => rw [Option.bind_some] at h ⊢; exact list_more (hs val rfl).1 (hs val rfl).2 h x
 rename_i hc; rw [if_neg hc]; clear hc
 split at h
 ·rename_i hc; rw [if_pos hc]
  cases hq : strR t with
  | none => rw [hq] at h; cases h
  | some p =>
   obtain ⟨a, q⟩ := p
   rw [hq] at h
   rw [str_more hq x]
   simp only [Option.map_some, Option.some.injEq, Prod.mk.injEq] at h ⊢
   obtain ⟨rfl, rfl⟩ := h
   rw [← List.cons_append, eaten_more]; exact ⟨rfl, rfl⟩
 rename_i hc; rw [if_neg hc]; clear hc
 have wd : ∀ (w : Bs) (k : UInt8), (wordR w (c :: t)).map (fun r => (JV.mk k false [] [] [], r)) = some (v, r) → (wordR w (c :: (t ++ x))).map (fun r => (JV.mk k false [] [] [], r)) = some (v, r ++ x) := by
  intro w k h
  cases hq : wordR w (c :: t) with
  | none => rw [hq] at h; cases h
  | some q =>
   rw [hq] at h
   rw [← List.cons_append, word_more hq x]
   simp only [Option.map_some, Option.some.injEq, Prod.mk.injEq] at h ⊢
   exact ⟨h.1, by rw [h.2]⟩
 split at h
 ·rename_i hc; rw [if_pos hc]; exact wd _ _ h
 rename_i hc; rw [if_neg hc]; clear hc
 split at h
 ·rename_i hc; rw [if_pos hc]; exact wd _ _ h
 rename_i hc; rw [if_neg hc]; clear hc
 split at h
 ·rename_i hc; rw [if_pos hc]; exact wd _ _ h
 rename_i hc; rw [if_neg hc]; clear hc
 cases hq : numR (c :: t) with
 | none => rw [hq] at h; cases h
 | some q =>
  rw [hq] at h
  simp only [Option.map_some, Option.some.injEq, Prod.mk.injEq] at h
  obtain ⟨rfl, rfl⟩ := h
  have hne : q ≠ [] := hr.resolve_right fun h => h rfl
  rw [← List.cons_append, num_more hq hne x]
  simp only [Option.map_some, eaten_more]
theorem rdV_nil (f : Nat) : rdV f [] = none := by cases f <;> rfl
theorem rdV_mor : ∀ f, ∀ {s v r}, rdV f s = some (v, r) → (r ≠ [] ∨ v.kind ≠ 48) → ∀ x, rdV f (s ++ x) = some (v, r ++ x)
 | 0, s, v, r, h, hr, x => step_more (sub := none) (fun _ h => by cases h) h hr x
 | f + 1, s, v, r, h, hr, x => step_more (sub := some (rdV f)) (fun val e => by
   cases e
   exact ⟨fun h1 h2 y => rdV_mor f h1 (.inl h2) y, rdV_nil f⟩) h hr x
theorem rdV_first {f : Nat} {s : Bs} {v : JV} {r : Bs} (h : rdV f s = some (v, r)) : ∃ c t, skipB s = c :: t ∧ (c = 123 ↔ v.kind = 123) := by
 obtain ⟨sub, e, _⟩ := rdV_eq f s
 rw [e] at h
 unfold stepR at h
 split at h
 ·cases h
 rename_i c t e
 refine ⟨c, t, e, ?_⟩
 have nn : ∀ (k : UInt8) (p : Bool) (a : Bs) (b : List JV) (d : List Bs), (JV.mk k p a b d).kind = k := fun _ _ _ _ _ => rfl
 split at h
 ·rename_i hc
  refine ⟨fun _ => ?_, fun _ => hc⟩
  cases sub with
  | none => cases h
  | some val =>
   rw [Option.bind_some] at h
   unfold objR at h
   split at h
   ·cases h; rfl
   ·cases hm : membsR val (t.length + 1) (skipB t) [] [] with
    | none => rw [hm] at h; cases h
    | some p => rw [hm] at h; cases h; rfl
 rename_i hc
 refine ⟨fun h => absurd h hc, fun hk => ?_⟩
 exfalso
 split at h
 ·cases sub with
  | none => cases h
  | some val =>
   rw [Option.bind_some] at h
   unfold listR at h
   split at h
   ·cases h; exact absurd hk (by decide)
   ·cases hm : elemsR val (t.length + 1) (skipB t) [] with
    | none => rw [hm] at h; cases h
    | some p => rw [hm] at h; cases h; exact absurd hk (by decide : ¬ (91 : UInt8) = 123)
 split at h
 ·cases hm : strR t with
  | none => rw [hm] at h; cases h
  | some p => rw [hm] at h; cases h; exact absurd hk (by decide : ¬ (34 : UInt8) = 123)
 split at h
 ·cases hm : wordR [116, 114, 117, 101] (c :: t) with
  | none => rw [hm] at h; cases h
  | some p => rw [hm] at h; cases h; exact absurd hk (by decide : ¬ (116 : UInt8) = 123)
 split at h
 ·cases hm : wordR [102, 97, 108, 115, 101] (c :: t) with
  | none => rw [hm] at h; cases h
  | some p => rw [hm] at h; cases h; exact absurd hk (by decide : ¬ (102 : UInt8) = 123)
 split at h
 ·cases hm : wordR [110, 117, 108, 108] (c :: t) with
  | none => rw [hm] at h; cases h
  | some p => rw [hm] at h; cases h; exact absurd hk (by decide : ¬ (110 : UInt8) = 123)
 cases hm : numR (c :: t) with
 | none => rw [hm] at h; cases h
 | some p => rw [hm] at h; cases h; exact absurd hk (by decide : ¬ (48 : UInt8) = 123)
theorem rdV_cut {f : Nat} {p x b : Bs} {v : JV} (h : rdV f (p ++ x) = some (v, b)) (hk : v.kind = 123) (hb : ∀ c ∈ b, isBl c = true) (hx : (125 : UInt8) ∈ x) : rdV f p = none := by
 cases hp : rdV f p with
 | none => rfl
 | some q =>
  exfalso
  obtain ⟨v', r⟩ := q
  obtain ⟨c, t, e, hc⟩ := rdV_first h
  obtain ⟨c', t', e', hc'⟩ := rdV_first hp
  have := skip_app e' x
  rw [e, List.cons_append] at this
  have hcc : c = c' := (List.cons.inj this).1
  have hk' : v'.kind = 123 := hc'.1 (by rw [← hcc]; exact hc.2 hk)
  have h2 := rdV_mor f hp (.inr (by rw [hk']; decide)) x
  rw [h] at h2
  have hbe : b = r ++ x := (Prod.mk.inj (Option.some.inj h2)).2
  have := hb 125 (by rw [hbe]; simp [hx])
  exact absurd this (by decide)
end Go.V
namespace Go.V
set_option maxRecDepth 10000
theorem cost_tx (d : Nat) (s : Bs) : cost d (txJ s) = 12 * s.length + 60 := by cases d <;> rfl
theorem cost_nu (d : Nat) (t : Bs) : cost d (.mk 110 t []) = 12 * t.length + 60 := by cases d <;> rfl
theorem csum_nil (d : Nat) : csum d [] = 0 := rfl
theorem csum_two (d : Nat) (k : Bs) (v : Js) (hk : k.length ≤ 20) : csum d [txJ k, v] ≤ 302 + cost d v := by
 rw [csum_cons, csum_cons, csum_nil, cost_tx]; omega
theorem csum_opJ (d : Nat) (k s : Bs) (hk : k.length ≤ 20) (hs : s.length ≤ 4000) : csum d (opJ k s) ≤ 48400 := by
 unfold opJ
 split
 ·rw [csum_nil]; omega
 ·have := csum_two d k (txJ s) hk
  rw [cost_tx] at this; omega
theorem csum_texts (d : Nat) : ∀ l : List Bs, (∀ s ∈ l, s.length ≤ 4000) → csum d (l.map txJ) ≤ l.length * 48061
 | [], _ => by simp [csum]
 | s :: l, h => by
  have h1 := csum_texts d l fun x hx => h x (by simp [hx])
  have h2 := h s (by simp)
  rw [List.map_cons, csum_cons, cost_tx, List.length_cons]; omega
theorem csum_opL (d : Nat) (k : Bs) (l : List Bs) (hk : k.length ≤ 20) (hs : ∀ s ∈ l, s.length ≤ 4000) : csum (d + 1) (opL k l) ≤ 400 + l.length * 48061 := by
 unfold opL
 split
 ·rw [csum_nil]; omega
 ·have h1 := csum_two (d + 1) k (lsJ l) hk
  have h2 := csum_texts d l hs
  have h3 : cost (d + 1) (lsJ l) = 60 + csum d (l.map txJ) := by rw [cost_succ]; rfl
  omega
theorem csum_pr (d : Nat) : ∀ l : List K2, (∀ s ∈ aTexts l, s.length ≤ 4000) → csum d (prJs l) ≤ l.length * 96122
 | [], _ => by simp [csum, prJs]
 | x :: l, h => by
  have h1 := csum_pr d l fun s hs => h s (by simp only [aTexts, List.flatMap_cons] at hs ⊢; exact List.mem_append_right _ hs)
  have h2 := h x.1 (by simp [aTexts])
  have h3 := h x.2 (by simp [aTexts])
  have e : prJs (x :: l) = txJ x.1 :: txJ x.2 :: prJs l := rfl
  rw [e, csum_cons, csum_cons, cost_tx, cost_tx, List.length_cons]; omega
theorem csum_opP (d : Nat) (k : Bs) (l : List K2) (hk : k.length ≤ 20) (hs : ∀ s ∈ aTexts l, s.length ≤ 4000) : csum (d + 1) (opP k l) ≤ 400 + l.length * 96122 := by
 unfold opP
 split
 ·rw [csum_nil]; omega
 ·have h1 := csum_two (d + 1) k (paJ l) hk
  have h2 := csum_pr d l hs
  have h3 : cost (d + 1) (paJ l) = 60 + csum d (prJs l) := by rw [cost_succ]; rfl
  omega
theorem cost_pl (d : Nat) {x : PfL} (h : ∀ s ∈ pTexts [x], s.length ≤ 4000) (hl : (pTexts [x]).length ≤ 60) : cost (d + 2) (plJ x) ≤ 7000000 := by
 have hm : ∀ s, s ∈ [x.1.os, x.1.arch, x.1.ver, x.1.var] ++ x.2.2 ++ x.2.1 → s.length ≤ 4000 := fun s hs => h s (by simp only [pTexts, List.flatMap_cons, List.flatMap_nil, List.append_nil]; exact hs)
 have hl1 : x.2.1.length ≤ 60 ∧ x.2.2.length ≤ 60 := by
  simp only [pTexts, List.flatMap_cons, List.flatMap_nil, List.append_nil, List.length_append, List.length_cons, List.length_nil] at hl
  omega
 have e : cost (d + 2) (plJ x) = 60 + csum (d + 1) (plK x) := by rw [cost_succ]; rfl
 have a1 := csum_two (d + 1) [97, 114, 99, 104, 105, 116, 101, 99, 116, 117, 114, 101] (txJ x.1.arch) (by decide)
 have a2 := csum_two (d + 1) [111, 115] (txJ x.1.os) (by decide)
 have a3 := csum_opJ (d + 1) [111, 115, 46, 118, 101, 114, 115, 105, 111, 110] x.1.ver (by decide) (hm _ (by simp))
 have a4 := csum_opL d [111, 115, 46, 102, 101, 97, 116, 117, 114, 101, 115] x.2.1 (by decide) fun s hs => hm s (by simp [hs])
 have a5 := csum_opJ (d + 1) [118, 97, 114, 105, 97, 110, 116] x.1.var (by decide) (hm _ (by simp))
 have a6 := csum_opL d [102, 101, 97, 116, 117, 114, 101, 115] x.2.2 (by decide) fun s hs => hm s (by simp [hs])
 have b1 := hm x.1.arch (by simp)
 have b2 := hm x.1.os (by simp)
 rw [cost_tx] at a1 a2
 rw [e]
 unfold plK
 simp only [csum_append, csum_nil]
 omega
theorem cost_ds (d : Nat) {x : Ds} (h : goodD x) : cost (d + 3) (dsJ x) ≤ 30000000 := by
 obtain ⟨g1, g2, g3, g4, g5, g6, g7, g8⟩ := h
 have hm : ∀ s ∈ dTexts x, s.length ≤ 4000 := fun s hs => (g8 s hs).2
 have hpt : csum (d + 2) (ptK x.plats) ≤ 7000400 := by
  cases hp : x.plats with
  | nil => unfold ptK; rw [csum_nil]; omega
  | cons y r =>
   have hr : r = [] := by
    rw [hp, List.length_cons] at g3
    exact List.eq_nil_of_length_eq_zero (by omega)
   subst hr
   have hsub : ∀ s ∈ pTexts [y], s ∈ dTexts x := fun s hs => by unfold dTexts; rw [hp]; exact List.mem_append_right _ hs
   have hlen : (pTexts [y]).length ≤ 60 := by
    have := g7
    unfold dTexts at this
    rw [List.length_append, hp] at this; omega
   have h1 := cost_pl d (fun s hs => hm s (hsub s hs)) hlen
   have h2 := csum_two (d + 2) [112, 108, 97, 116, 102, 111, 114, 109] (plJ y) (by decide)
   show csum (d + 2) [txJ [112, 108, 97, 116, 102, 111, 114, 109], plJ y] ≤ 7000400
   omega
 have e : cost (d + 3) (dsJ x) = 60 + csum (d + 2) (dsK x) := by rw [cost_succ]; rfl
 have hb : (b64 x.data).length ≤ 4000 := by rw [b64_len]; omega
 have hn := numT_len x.size
 have ht := hTell_len g1
 have a1 := csum_two (d + 2) [109, 101, 100, 105, 97, 84, 121, 112, 101] (txJ x.media) (by decide)
 have a2 := csum_two (d + 2) [115, 105, 122, 101] (nuJ x.size) (by decide)
 have a3 := csum_two (d + 2) [100, 105, 103, 101, 115, 116] (txJ (hTell x.dig)) (by decide)
 have a4 := csum_opJ (d + 2) [100, 97, 116, 97] (b64 x.data) (by decide) hb
 have a5 : csum (d + 2) (opL [117, 114, 108, 115] x.urls) ≤ 400 + x.urls.length * 48061 := csum_opL (d + 1) [117, 114, 108, 115] x.urls (by decide) fun s hs => hm s (by simp [dTexts, hs])
 have a6 : csum (d + 2) (opP [97, 110, 110, 111, 116, 97, 116, 105, 111, 110, 115] x.anns) ≤ 400 + x.anns.length * 96122 := csum_opP (d + 1) [97, 110, 110, 111, 116, 97, 116, 105, 111, 110, 115] x.anns (by decide) fun s hs => hm s (by simp [dTexts, hs])
 have a7 := csum_opJ (d + 2) [97, 114, 116, 105, 102, 97, 99, 116, 84, 121, 112, 101] x.art (by decide) (hm _ (by simp [dTexts]))
 have b1 := hm x.media (by simp [dTexts])
 rw [cost_tx] at a1 a3
 have e2 : cost (d + 2) (nuJ x.size) = 12 * (numT x.size).length + 60 := cost_nu _ _
 rw [e2] at a2
 rw [e]
 unfold dsK
 simp only [csum_append, csum_nil]
 omega
theorem cost_mf {m : Mf} (A : Option Addr) (h : goodM m) : cost 6 (mfJ m (nkO A)) ≤ 34359738368 := by
 obtain ⟨g1, g2, g3, g4, g5, g6, g7⟩ := h
 have hm : ∀ s ∈ aTexts m.anns ++ [m.media, m.art], s.length ≤ 4000 := fun s hs => (g7 s hs).2
 have hal := aTexts_len m.anns
 rw [List.length_append] at g6
 have hla : cost 5 (laJ m.lays (nkO A)) ≤ 400000000 := by
  have e : cost 5 (laJ m.lays (nkO A)) = 12 * (nkO A).2.length + 60 + csum 4 (m.lays.map dsJ) := rfl
  have h1 := csum_le 4 30000000 (m.lays.map dsJ) fun x hx => by
   obtain ⟨y, hy, rfl⟩ := List.mem_map.1 hx
   exact cost_ds 1 (g1 y (by simp [hy]))
  rw [List.length_map] at h1
  have h2 : (nkO A).2.length ≤ 4 := by
   cases A with
   | none => decide
   | some a => exact Nat.zero_le 4
  omega
 have hmi : csum 5 (miK m (nkO A)) ≤ 500000000 := by
  unfold miK
  cases hi : m.idx with
  | true =>
   have := csum_two 5 [109, 97, 110, 105, 102, 101, 115, 116, 115] (laJ m.lays (nkO A)) (by decide)
   simp only [if_true]; omega
  | false =>
   have h1 := csum_two 5 [108, 97, 121, 101, 114, 115] (laJ m.lays (nkO A)) (by decide)
   have h2 := csum_two 5 [99, 111, 110, 102, 105, 103] (dsJ m.cfg) (by decide)
   have h3 : cost 5 (dsJ m.cfg) ≤ 30000000 := cost_ds 2 (g2 hi)
   simp only [Bool.false_eq_true, if_false, csum_append]; omega
 have hsb : csum 5 (sbK m.subj) ≤ 30001000 := by
  cases hp : m.subj with
  | nil => unfold sbK; rw [csum_nil]; omega
  | cons y r =>
   have h1 := csum_two 5 [115, 117, 98, 106, 101, 99, 116] (dsJ y) (by decide)
   have h2 : cost 5 (dsJ y) ≤ 30000000 := cost_ds 2 (g1 y (by rw [hp]; simp))
   show csum 5 [txJ [115, 117, 98, 106, 101, 99, 116], dsJ y] ≤ 30001000
   omega
 have e : cost 6 (mfJ m (nkO A)) = 60 + csum 5 (mfK m (nkO A)) := by rw [cost_succ]; rfl
 have a1 := csum_two 5 [115, 99, 104, 101, 109, 97, 86, 101, 114, 115, 105, 111, 110] (nuJ m.ver) (by decide)
 have e2 : cost 5 (nuJ m.ver) = 12 * (numT m.ver).length + 60 := cost_nu _ _
 have hn := numT_len m.ver
 rw [e2] at a1
 have a2 := csum_opJ 5 [109, 101, 100, 105, 97, 84, 121, 112, 101] m.media (by decide) (hm _ (by simp))
 have a3 : csum 5 (opP [97, 110, 110, 111, 116, 97, 116, 105, 111, 110, 115] m.anns) ≤ 400 + m.anns.length * 96122 := csum_opP 4 [97, 110, 110, 111, 116, 97, 116, 105, 111, 110, 115] m.anns (by decide) fun s hs => hm s (by simp [hs])
 have a4 := csum_opJ 5 [97, 114, 116, 105, 102, 97, 99, 116, 84, 121, 112, 101] m.art (by decide) (hm _ (by simp))
 rw [e]
 unfold mfK
 simp only [csum_append, csum_nil]
 omega
def lastB : Bs → Nat → Nat
 | s, 0 => if s.getD 0 0 = 125 then 0 else 0
 | s, n + 1 => if s.getD (n + 1) 0 = 125 then n + 1 else lastB s n
theorem lastB_le (s : Bs) : ∀ n, lastB s n ≤ n
 | 0 => by simp [lastB]
 | n + 1 => by
  unfold lastB
  split
  ·exact Nat.le_refl _
  ·have := lastB_le s n; omega
theorem lastB_spec (s : Bs) : ∀ n, lastB s n = 0 ∨ s.getD (lastB s n) 0 = 125
 | 0 => .inl (by simp [lastB])
 | n + 1 => by
  unfold lastB
  split
  ·rename_i h; exact .inr h
  ·exact lastB_spec s n
theorem cut_none {s : Bs} {v : JV} {t : Bs} (h : rdV 10000 s = some (v, t)) (hk : v.kind = 123) (ht : ∀ c ∈ t, isBl c = true) (q : Nat) (hq : q ≤ lastB s (s.length - 1)) : rdV 10000 (s.take q) = none := by
 by_cases h0 : lastB s (s.length - 1) = 0
 ·have : q = 0 := by omega
  subst this
  rw [List.take_zero]; exact rdV_nil _
 ·have hb := (lastB_spec s (s.length - 1)).resolve_left h0
  have hle := lastB_le s (s.length - 1)
  generalize lastB s (s.length - 1) = e at *
  have hlt : e < s.length := by omega
  have e1 : s.take q ++ s.drop q = s := List.take_append_drop q s
  refine rdV_cut (x := s.drop q) (b := t) (v := v) (by rw [e1]; exact h) hk ht ?_
  rw [List.getD_eq_getElem?_getD, List.getElem?_eq_getElem hlt, Option.getD_some] at hb
  rw [← hb]
  refine List.mem_iff_getElem.2 ⟨e - q, by rw [List.length_drop]; omega, ?_⟩
  rw [List.getElem_drop]
  congr 1; omega
theorem mf_reads {m : Mf} (A : Option Addr) (h : goodM m) (hz : szM m) (ws : Bs) : ∃ v t, rdV 10000 (wval 6 (mfJ m (nkO A)) true ws).1 = some (v, t) ∧ v.kind = 123 ∧ ∀ c ∈ t, isBl c = true := by
 obtain ⟨v, hrep, a, b, hb, e, hr⟩ := wval_reads 6 (mfJ m (nkO A)) true ws 10000 (fine_mf A h hz) (by decide)
 have hr := hr [] (.inr (.inr (.inl rfl)))
 rw [List.append_nil, List.append_nil] at hr
 refine ⟨v, b, hr, ?_, hb⟩
 unfold Rep at hrep
 rw [if_neg (show (mfJ m (nkO A)).kind ≠ 115 from (by decide : (111 : UInt8) ≠ 115)), if_neg (show (mfJ m (nkO A)).kind ≠ 108 from (by decide : (111 : UInt8) ≠ 108)), if_pos (show (mfJ m (nkO A)).kind = 111 from rfl)] at hrep
 obtain ⟨base, ms, rfl, _, _⟩ := hrep
 rfl
end Go.V
namespace Go.V
open Go.Proofs.Tryz
open Go.Shelf Go.Proofs
set_option maxRecDepth 100000
def ren174 : Go.Shelf.Ren := ⟨fun | 129 => 283 | 171 => 274 | 174 => 251 | 205 => 248 | 243 => 276 | 245 => 260 | 246 => 281 | 247 => 259 | 279 => 266 | 280 => 267 | 281 => 268 | 282 => 269 | 283 => 277 | 284 => 278 | 285 => 279 | 286 => 280 | 287 => 265 | 316 => 273 | 317 => 282 | 318 => 284 | 319 => 285 | 320 => 286 | 321 => 271 | 322 => 272 | 337 => 287 | 338 => 288 | n => n, fun | 0 => 0 | 2 => 2 | 3 => 3 | 4 => 4 | 5 => 5 | 9 => 9 | 20 => 20 | 21 => 21 | 37 => 31 | 46 => 221 | 51 => 278 | 53 => 260 | 75 => 87 | 80 => 123 | 85 => 347 | 127 => 289 | 143 => 279 | 145 => 353 | 167 => 366 | 168 => 369 | 171 => 377 | 173 => 380 | 175 => 367 | 210 => 374 | 212 => 383 | 213 => 384 | 232 => 388 | 233 => 389 | n => n, fun | 15 => 3 | 16 => 4 | 17 => 5 | 18 => 6 | 19 => 7 | n => n⟩
theorem lays174 : LaysC.n174 prog ren174 := {
 mixed := by kernel_rfl
 f129 := func283.trans (congrArg some (by kernel_rfl))
 f171 := func274.trans (congrArg some (by kernel_rfl))
 f174 := func251.trans (congrArg some (by kernel_rfl))
 f205 := func248.trans (congrArg some (by kernel_rfl))
 f243 := func276.trans (congrArg some (by kernel_rfl))
 f245 := func260.trans (congrArg some (by kernel_rfl))
 f246 := func281.trans (congrArg some (by kernel_rfl))
 f247 := func259.trans (congrArg some (by kernel_rfl))
 f279 := func266.trans (congrArg some (by kernel_rfl))
 f280 := func267.trans (congrArg some (by kernel_rfl))
 f281 := func268.trans (congrArg some (by kernel_rfl))
 f282 := func269.trans (congrArg some (by kernel_rfl))
 f283 := func277.trans (congrArg some (by kernel_rfl))
 f284 := func278.trans (congrArg some (by kernel_rfl))
 f285 := func279.trans (congrArg some (by kernel_rfl))
 f286 := func280.trans (congrArg some (by kernel_rfl))
 f287 := func265.trans (congrArg some (by kernel_rfl))
 f316 := func273.trans (congrArg some (by kernel_rfl))
 f317 := func282.trans (congrArg some (by kernel_rfl))
 f318 := func284.trans (congrArg some (by kernel_rfl))
 f319 := func285.trans (congrArg some (by kernel_rfl))
 f320 := func286.trans (congrArg some (by kernel_rfl))
 f321 := func271.trans (congrArg some (by kernel_rfl))
 f322 := func272.trans (congrArg some (by kernel_rfl))
 f337 := func287.trans (congrArg some (by kernel_rfl))
 f338 := func288.trans (congrArg some (by kernel_rfl))
 t0 := underlying0
 a0 := isAgg0
 z0 := sizeOf0
 v0 := zeroValue0
 t2 := underlying2
 a2 := isAgg2
 z2 := sizeOf2
 v2 := zeroValue2
 t3 := underlying3
 a3 := isAgg3
 z3 := sizeOf3
 v3 := zeroValue3
 t4 := underlying4
 a4 := isAgg4
 z4 := sizeOf4
 v4 := zeroValue4
 t5 := underlying5
 a5 := isAgg5
 z5 := sizeOf5
 v5 := zeroValue5
 t9 := underlying9
 a9 := isAgg9
 z9 := sizeOf9
 v9 := zeroValue9
 t20 := underlying20
 a20 := isAgg20
 z20 := sizeOf20
 v20 := zeroValue20
 t21 := underlying21
 a21 := isAgg21
 z21 := sizeOf21
 v21 := zeroValue21
 t37 := underlying31
 a37 := isAgg31
 z37 := sizeOf31
 v37 := zeroValue31
 t46 := underlying221
 a46 := isAgg221
 z46 := sizeOf221
 v46 := zeroValue221
 t51 := underlying278
 a51 := isAgg278
 z51 := sizeOf278
 v51 := zeroValue278
 t53 := underlying260
 a53 := isAgg260
 z53 := sizeOf260
 v53 := zeroValue260
 t75 := underlying87
 a75 := isAgg87
 z75 := sizeOf87
 v75 := zeroValue87
 t85 := underlying347
 a85 := isAgg347
 z85 := sizeOf347
 v85 := zeroValue347
 t127 := underlying289
 a127 := isAgg289
 z127 := sizeOf289
 v127 := zeroValue289
 t143 := underlying279
 a143 := isAgg279
 z143 := sizeOf279
 v143 := zeroValue279
 t145 := underlying353
 a145 := isAgg353
 z145 := sizeOf353
 v145 := zeroValue353
 t167 := underlying366
 a167 := isAgg366
 z167 := sizeOf366
 v167 := zeroValue366
 t168 := underlying369
 a168 := isAgg369
 z168 := sizeOf369
 v168 := zeroValue369
 t171 := underlying377
 a171 := isAgg377
 z171 := sizeOf377
 v171 := zeroValue377
 t173 := underlying380
 a173 := isAgg380
 z173 := sizeOf380
 v173 := zeroValue380
 t175 := underlying367
 a175 := isAgg367
 z175 := sizeOf367
 v175 := zeroValue367
 t210 := underlying374
 a210 := isAgg374
 z210 := sizeOf374
 v210 := zeroValue374
 t212 := underlying383
 a212 := isAgg383
 z212 := sizeOf383
 v212 := zeroValue383
 t213 := underlying384
 a213 := isAgg384
 z213 := sizeOf384
 t232 := underlying388
 a232 := isAgg388
 z232 := sizeOf388
 v232 := zeroValue388
 t233 := underlying389
 a233 := isAgg389
 z233 := sizeOf389
 v233 := zeroValue389
 g15 := by kernel_rfl
 g16 := by kernel_rfl
 g17 := by kernel_rfl
 g18 := by kernel_rfl
 g19 := by kernel_rfl
 t80 := underlying123
 a80 := isAgg123
 z80 := sizeOf123
 v80 := zeroValue123
 i0 := by kernel_rfl
 i2 := by kernel_rfl
 i3 := by kernel_rfl
 i4 := by kernel_rfl
 i5 := by kernel_rfl
 i9 := by kernel_rfl
 i20 := by kernel_rfl
 i21 := by kernel_rfl
 i37 := by kernel_rfl
 i46 := by kernel_rfl
 i51 := by kernel_rfl
 i53 := by kernel_rfl
 i75 := by kernel_rfl
 i80 := by kernel_rfl
 i85 := by kernel_rfl
 i127 := by kernel_rfl
 i143 := by kernel_rfl
 i145 := by kernel_rfl
 i167 := by kernel_rfl
 i168 := by kernel_rfl
 i171 := by kernel_rfl
 i173 := by kernel_rfl
 i175 := by kernel_rfl
 i210 := by kernel_rfl
 i212 := by kernel_rfl
 i232 := by kernel_rfl
 i233 := by kernel_rfl
 m15 := by kernel_rfl
 m16 := by kernel_rfl
 m17 := by kernel_rfl
 m18 := by kernel_rfl
 m19 := by kernel_rfl
 c0 := by kernel_rfl
 c2 := by kernel_rfl
 c3 := by kernel_rfl
 c4 := by kernel_rfl
 c5 := by kernel_rfl
 c9 := by kernel_rfl
 c20 := by kernel_rfl
 c21 := by kernel_rfl
 c37 := by kernel_rfl
 c46 := by kernel_rfl
 c51 := by kernel_rfl
 c53 := by kernel_rfl
 c75 := by kernel_rfl
 c80 := by kernel_rfl
 c85 := by kernel_rfl
 c127 := by kernel_rfl
 c143 := by kernel_rfl
 c145 := by kernel_rfl
 c167 := by kernel_rfl
 c168 := by kernel_rfl
 c171 := by kernel_rfl
 c173 := by kernel_rfl
 c175 := by kernel_rfl
 c210 := by kernel_rfl
 c212 := by kernel_rfl
 c213 := by kernel_rfl
 c232 := by kernel_rfl
 c233 := by kernel_rfl }
end Go.V
