import Derived.Test.YtcegjgmmbbojdaaGreatDoorAW
import Derived.Test.YtcegjgmmbbojdaaGreatDoorAM21
import Derived.Test.YtcegjgmmbbojdaaGreatDoorAM7
import Derived.Test.YtcegjgmmbbojdaaGreatDoorAM17
import Derived.Test.YtcegjgmmbbojdaaGreatDoorAM5
set_option linter.unusedVariables false
set_option linter.unusedSimpArgs false
namespace Go.V
open Go.Proofs.Tryz
open Go.RowKit
set_option maxRecDepth 10000
attribute [local irreducible] Run Ops QD
set_option maxHeartbeats 4000000 in
theorem mf_step (f : Nat) (I : Imm) (hU : UT I) (cs : List Value) (m : Bs × JV) (hrel : (tJV (f + 1)).rel I cs m.2) (x : Mf) (nn : Bool) (hm : mfM x nn m) (hg : okMt x) (hc : okDt x.cfg) (b2 xb : Nat) (hB : At I b2 0 [.pointer (some ⟨xb, 0, none⟩)]) (D : Int -> Bool) (hD : fieldR m.1 mfNames ≠ -1 -> D (fieldR m.1 mfNames) = false) (mc : List Value) (hS0 : mfSt I x nn D mc) :
  Spec prog 172 [str m.1, .agg cs.toArray, .pointer (some ⟨b2, 0, none⟩)] I [(xb, blk mc 85)] fun w J M => w = .bool true /\ ∃ mc', mfSt J x nn (upd D (fieldR m.1 mfNames)) mc' /\ M = [(xb, blk mc' 85)] := by
 obtain ⟨g1, g2, g3, g4, g5, g6⟩ := hg
 obtain ⟨d0, d1, d2, d3, d4, d5, d6, d7, d8, cl, ca, cb, rfl, h2, h3, h4, h5⟩ := hS0
 have hkl := hm.1
 have hrel0 := hrel
 obtain ⟨wk, wn, ew, hwk, hwn⟩ := hrel
 obtain ⟨A3, z3, rfl⟩ := hwk.isSl
 obtain ⟨A4, z4, rfl⟩ := hwn.isSl
 subst ew
 refine Spec.enter 58 [(0, _), (1, _), (2, _)] func172 rfl ntmps172 (by simp) rfl ?_
 intro C hCf hR hCI
 refine rS ?_
 refine Run.region (Ops.box rfl dc rfl rfl (fun b4 => (oP rfl (Ops.nil ?_))))
 repeat refine rS ?_
 refine rP 1 (fun Z hZ => (eE rfl (zN hZ ((Ops.lit T rfl rfl rfl dc rfl dc dc rfl rfl rfl rfl rfl (fun bq => (Ops.freezeAt 0 rfl rfl fun J1 l1 hJ1 => ?_)))))))
 have hS : Sl tStr J1 (.slice (some ⟨bq, 0, none⟩) 7 7) mfNames := Sl.ofBlock hJ1 (Cells.strs mfNames) rfl (by decide)
 have hB := hB.mono l1
 have hrel := (tJV (f + 1)).mono hrel0 l1
 refine Ops.call ((fieldOf J1 (hU.mono l1) m.1 mfNames _ hS hkl dc dc)) rfl dc call98 rfl ?_
 rintro _ J2 l2 rfl
 refine Ops.nil ?_
 have hB := hB.mono l2
 have hU2 := (hU.mono l1).mono l2
 have hrel := (tJV (f + 1)).mono hrel l2
 have l12 := l1.trans l2
 clear l1 hrel0 hJ1 hS
 rcases hm.2 with ⟨hf, ht⟩ | ⟨hf, ht⟩ | ⟨hf, ht⟩ | ⟨hf, ht⟩ | ⟨hf, ht⟩ | ⟨hf, p, r, hp, ht⟩ | ⟨hf, ht⟩ | hf
 ·rw [hf] at hD ⊢
  repeat (first | refine rS ?_ | refine rB ?_)
  refine rO (fun Z hZ => (fE (Ev.eqlI rfl rfl) (eE rfl (zN hZ ?_))))
  repeat (first | refine rS ?_ | refine rT rfl ?_)
  refine Run.regionT (D := [some 11, some 12, some 13, some 14, some 15, some 5]) (fun _ => True) [true, true, true, true] (bl 6 15) 2 (by kernel_rfl) (by kernel_rfl) (by kernel_rfl) rfl (fun Z hZ => (gY (Yv.loadN 0 T rfl rfl rfl rfl rfl rfl) (gY (Yv.loadI T hB rfl rfl) (eE rfl (eE rfl (zN hZ ((RAny.on 4 (bl 6 31) rfl (by kernel_rfl) rfl dc (Eff.callM (M := [_]) (N := [_]) (Value_IntT f _ _ m.2 hrel xb 0 _ _ _ ht g5 g6 (lb rfl)) (List.Perm.swap _ _ _) call99 rfl fun w J' M' l' hw => ⟨fun _ _ => trivial, ?_⟩)))))))))
  obtain ⟨rfl, rfl⟩ := hw
  refine RAny.tk 5 (bl 6 63) rfl (by kernel_rfl) dc (fun _ _ => trivial) (Yld.eval T rfl rfl) (RAny.done _ (by kernel_rfl) ?_)
  skip
  refine Run.dropL (L' := [(xb, _)]) (List.Sublist.cons_cons _ (List.nil_sublist _)) ?_
  refine Run.ret1 (by rw [hCf]; exact func172) results172 rfl (hR _ _ _ ?_)
  rw [hf]
  exact ⟨rfl, _, ⟨d0, d1, d2, d3, d4, d5, d6, d7, d8, cl, ca, cb, rfl, h2.mono (l12.trans l'), h3.mono (l12.trans l'), h4.mono (l12.trans l'), h5.mono (l12.trans l')⟩, rfl⟩
 ·rw [hf] at hD ⊢
  repeat (first | refine rS ?_ | refine rB ?_)
  refine rO (fun Z hZ => (fE (Ev.eqlI rfl rfl) (eE rfl (zN hZ ?_))))
  repeat (first | refine rS ?_ | refine rF rfl ?_)
  refine rO (fun Z hZ => (fE (Ev.eqlI rfl rfl) (eE rfl (zN hZ ?_))))
  repeat (first | refine rS ?_ | refine rT rfl ?_)
  refine Run.regionT (D := [some 18, some 19, some 20, some 21, some 22, some 5]) (fun _ => True) [true, true, true, true] (bl 6 15) 2 (by kernel_rfl) (by kernel_rfl) (by kernel_rfl) rfl (fun Z hZ => (gY (Yv.loadN 0 T rfl rfl rfl rfl rfl rfl) (gY (Yv.loadI T hB rfl rfl) (eE rfl (eE rfl (zN hZ ((RAny.on 4 (bl 6 31) rfl (by kernel_rfl) rfl dc (Eff.callM (M := [_]) (N := [_]) (takeMediaT f _ _ m.2 hrel xb 1 _ _ _ ht (lb rfl)) (List.Perm.swap _ _ _) call100 rfl fun w J' M' l' hw => ⟨fun _ _ => trivial, ?_⟩)))))))))
  obtain ⟨rfl, rfl⟩ := hw
  refine RAny.tk 5 (bl 6 63) rfl (by kernel_rfl) dc (fun _ _ => trivial) (Yld.eval T rfl rfl) (RAny.done _ (by kernel_rfl) ?_)
  skip
  refine Run.dropL (L' := [(xb, _)]) (List.Sublist.cons_cons _ (List.nil_sublist _)) ?_
  refine Run.ret1 (by rw [hCf]; exact func172) results172 rfl (hR _ _ _ ?_)
  rw [hf]
  exact ⟨rfl, _, ⟨d0, d1, d2, d3, d4, d5, d6, d7, d8, cl, ca, cb, rfl, h2.mono (l12.trans l'), h3.mono (l12.trans l'), h4.mono (l12.trans l'), h5.mono (l12.trans l')⟩, rfl⟩
 ·rw [hf] at hD ⊢
  repeat (first | refine rS ?_ | refine rB ?_)
  refine rO (fun Z hZ => (fE (Ev.eqlI rfl rfl) (eE rfl (zN hZ ?_))))
  repeat (first | refine rS ?_ | refine rF rfl ?_)
  refine rO (fun Z hZ => (fE (Ev.eqlI rfl rfl) (eE rfl (zN hZ ?_))))
  repeat (first | refine rS ?_ | refine rF rfl ?_)
  refine rO (fun Z hZ => (fE (Ev.eqlI rfl rfl) (eE rfl (zN hZ ?_))))
  repeat (first | refine rS ?_ | refine rT rfl ?_)
  rw [hD (by decide)] at h2
  cases (show [d0, d1, d2, d3, d4, d5, d6, d7, d8] = z9 from h2)
  refine Run.regionT (D := [some 25, some 26, some 27, some 28, some 29, some 5]) (fun _ => True) [true, true, true, true] (bl 6 15) 2 (by kernel_rfl) (by kernel_rfl) (by kernel_rfl) rfl (fun Z hZ => (gY (Yv.loadI T hB rfl rfl) (eE rfl (eE rfl (gY (Yv.loadN 0 T rfl rfl rfl rfl rfl rfl) (zN hZ ((RAny.on 4 (bl 6 31) rfl (by kernel_rfl) rfl dc (Eff.callM (M := [_]) (N := [_]) (Descriptor_take f _ hU2 _ m.2 hrel x.cfg ht hc xb 2 [.int .i64 (iv (D 0) x.ver), str (tx (D 1) x.media), str [], .int .i64 0, str [], str [], .slice none 0 0, .slice none 0 0, .map none, .pointer none, str [], cl, ca, cb, str (tx (D 6) x.art)] _ (lb rfl)) (List.Perm.swap _ _ _) call111 rfl fun w J' M' l' hw => ⟨fun _ _ => trivial, ?_⟩)))))))))
  obtain ⟨rfl, dc, ⟨cd, cu, cm, cp, rfl, k1, k2, k3, k4⟩, rfl⟩ := hw
  refine RAny.tk 5 (bl 6 63) rfl (by kernel_rfl) dc (fun _ _ => trivial) (Yld.eval T rfl rfl) (RAny.done _ (by kernel_rfl) ?_)
  skip
  refine Run.dropL (L' := [(xb, _)]) (List.Sublist.cons_cons _ (List.nil_sublist _)) ?_
  refine Run.ret1 (by rw [hCf]; exact func172) results172 rfl (hR _ _ _ ?_)
  rw [hf]
  exact ⟨rfl, _, ⟨_, _, _, _, _, _, _, _, _, cl, ca, cb, rfl, ⟨cd, cu, cm, cp, rfl, k1, k2, k3, k4⟩, h3.mono (l12.trans l'), h4.mono (l12.trans l'), h5.mono (l12.trans l')⟩, rfl⟩
 ·rw [hf] at hD ⊢
  repeat (first | refine rS ?_ | refine rB ?_)
  refine rO (fun Z hZ => (fE (Ev.eqlI rfl rfl) (eE rfl (zN hZ ?_))))
  repeat (first | refine rS ?_ | refine rF rfl ?_)
  refine rO (fun Z hZ => (fE (Ev.eqlI rfl rfl) (eE rfl (zN hZ ?_))))
  repeat (first | refine rS ?_ | refine rF rfl ?_)
  refine rO (fun Z hZ => (fE (Ev.eqlI rfl rfl) (eE rfl (zN hZ ?_))))
  repeat (first | refine rS ?_ | refine rF rfl ?_)
  refine rO (fun Z hZ => (fE (Ev.eqlI rfl rfl) (eE rfl (zN hZ ?_))))
  repeat (first | refine rS ?_ | refine rT rfl ?_)
  obtain rfl : cl = .slice none 0 0 := by rw [hD (by decide)] at h3; exact h3
  refine Run.regionT (D := [some 32, some 33, some 34, some 35, some 36, some 5]) (fun _ => True) [true, true, true, true] (bl 6 15) 2 (by kernel_rfl) (by kernel_rfl) (by kernel_rfl) rfl (fun Z hZ => (gY (Yv.loadN 0 T rfl rfl rfl rfl rfl rfl) (gY (Yv.loadI T hB rfl rfl) (eE rfl (eE rfl (zN hZ ((RAny.on 4 (bl 6 31) rfl (by kernel_rfl) rfl dc (Eff.callM (M := [_]) (N := [_]) (takeDescriptors_T f _ hU2 _ m.2 hrel nn x.lays ht g1 g2 xb 11 _ _ rfl) (List.Perm.swap _ _ _) call101 rfl fun w J' M' l' hw => ⟨fun _ _ => trivial, ?_⟩)))))))))
  obtain ⟨rfl, c, hc, rfl⟩ := hw
  refine RAny.tk 5 (bl 6 63) rfl (by kernel_rfl) dc (fun _ _ => trivial) (Yld.eval T rfl rfl) (RAny.done _ (by kernel_rfl) ?_)
  skip
  refine Run.dropL (L' := [(xb, _)]) (List.Sublist.cons_cons _ (List.nil_sublist _)) ?_
  refine Run.ret1 (by rw [hCf]; exact func172) results172 rfl (hR _ _ _ ?_)
  rw [hf]
  exact ⟨rfl, _, ⟨d0, d1, d2, d3, d4, d5, d6, d7, d8, c, ca, cb, rfl, h2.mono (l12.trans l'), hc, h4.mono (l12.trans l'), h5.mono (l12.trans l')⟩, rfl⟩
 ·rw [hf] at hD ⊢
  repeat (first | refine rS ?_ | refine rB ?_)
  refine rO (fun Z hZ => (fE (Ev.eqlI rfl rfl) (eE rfl (zN hZ ?_))))
  repeat (first | refine rS ?_ | refine rF rfl ?_)
  refine rO (fun Z hZ => (fE (Ev.eqlI rfl rfl) (eE rfl (zN hZ ?_))))
  repeat (first | refine rS ?_ | refine rF rfl ?_)
  refine rO (fun Z hZ => (fE (Ev.eqlI rfl rfl) (eE rfl (zN hZ ?_))))
  repeat (first | refine rS ?_ | refine rF rfl ?_)
  refine rO (fun Z hZ => (fE (Ev.eqlI rfl rfl) (eE rfl (zN hZ ?_))))
  repeat (first | refine rS ?_ | refine rF rfl ?_)
  refine rO (fun Z hZ => (fE (Ev.eqlI rfl rfl) (eE rfl (zN hZ ?_))))
  repeat (first | refine rS ?_ | refine rT rfl ?_)
  obtain rfl : ca = .map none := by rw [hD (by decide)] at h4; exact h4
  refine Run.regionT (D := [some 39, some 40, some 41, some 42, some 43, some 5]) (fun _ => True) [true, true, true, true] (bl 6 15) 2 (by kernel_rfl) (by kernel_rfl) (by kernel_rfl) rfl (fun Z hZ => (gY (Yv.loadN 0 T rfl rfl rfl rfl rfl rfl) (gY (Yv.loadI T hB rfl rfl) (eE rfl (eE rfl (zN hZ ((RAny.on 4 (bl 6 31) rfl (by kernel_rfl) rfl dc (Eff.callM (M := [_]) (N := [_]) (Value_StrMapT f _ _ m.2 hrel xb 12 _ _ _ ht g4 rfl) (List.Perm.swap _ _ _) call102 rfl fun w J' M' l' hw => ⟨fun _ _ => trivial, ?_⟩)))))))))
  obtain ⟨rfl, c, hc, rfl⟩ := hw
  refine RAny.tk 5 (bl 6 63) rfl (by kernel_rfl) dc (fun _ _ => trivial) (Yld.eval T rfl rfl) (RAny.done _ (by kernel_rfl) ?_)
  skip
  refine Run.dropL (L' := [(xb, _)]) (List.Sublist.cons_cons _ (List.nil_sublist _)) ?_
  refine Run.ret1 (by rw [hCf]; exact func172) results172 rfl (hR _ _ _ ?_)
  rw [hf]
  exact ⟨rfl, _, ⟨d0, d1, d2, d3, d4, d5, d6, d7, d8, cl, c, cb, rfl, h2.mono (l12.trans l'), h3.mono (l12.trans l'), hc, h5.mono (l12.trans l')⟩, rfl⟩
 ·rw [hf] at hD ⊢
  repeat (first | refine rS ?_ | refine rB ?_)
  refine rO (fun Z hZ => (fE (Ev.eqlI rfl rfl) (eE rfl (zN hZ ?_))))
  repeat (first | refine rS ?_ | refine rF rfl ?_)
  refine rO (fun Z hZ => (fE (Ev.eqlI rfl rfl) (eE rfl (zN hZ ?_))))
  repeat (first | refine rS ?_ | refine rF rfl ?_)
  refine rO (fun Z hZ => (fE (Ev.eqlI rfl rfl) (eE rfl (zN hZ ?_))))
  repeat (first | refine rS ?_ | refine rF rfl ?_)
  refine rO (fun Z hZ => (fE (Ev.eqlI rfl rfl) (eE rfl (zN hZ ?_))))
  repeat (first | refine rS ?_ | refine rF rfl ?_)
  refine rO (fun Z hZ => (fE (Ev.eqlI rfl rfl) (eE rfl (zN hZ ?_))))
  repeat (first | refine rS ?_ | refine rF rfl ?_)
  refine rO (fun Z hZ => (fE (Ev.eqlI rfl rfl) (eE rfl (zN hZ ?_))))
  repeat (first | refine rS ?_ | refine rT rfl ?_)
  obtain rfl : cb = .pointer none := by rw [hD (by decide)] at h5; exact h5
  refine Run.regionT (D := [some 46, some 47, some 48, some 49, some 50, some 5]) (fun _ => True) [true, true, true, true] (bl 6 15) 2 (by kernel_rfl) (by kernel_rfl) (by kernel_rfl) rfl (fun Z hZ => (gY (Yv.loadN 0 T rfl rfl rfl rfl rfl rfl) (gY (Yv.loadI T hB rfl rfl) (eE rfl (eE rfl (zN hZ ((RAny.on 4 (bl 6 31) rfl (by kernel_rfl) rfl dc (Eff.callM (M := [_]) (N := [_]) (takeSubject_T f _ hU2 _ m.2 hrel p r ht (g3 p (by rw [hp]; exact List.mem_cons_self)) xb 13 _ _ rfl) (List.Perm.swap _ _ _) call103 rfl fun w J' M' l' hw => ⟨fun _ _ => trivial, ?_⟩)))))))))
  obtain ⟨rfl, c, hc, rfl⟩ := hw
  refine RAny.tk 5 (bl 6 63) rfl (by kernel_rfl) dc (fun _ _ => trivial) (Yld.eval T rfl rfl) (RAny.done _ (by kernel_rfl) ?_)
  skip
  refine Run.dropL (L' := [(xb, _)]) (List.Sublist.cons_cons _ (List.nil_sublist _)) ?_
  refine Run.ret1 (by rw [hCf]; exact func172) results172 rfl (hR _ _ _ ?_)
  rw [hf]
  exact ⟨rfl, _, ⟨d0, d1, d2, d3, d4, d5, d6, d7, d8, cl, ca, c, rfl, h2.mono (l12.trans l'), h3.mono (l12.trans l'), h4.mono (l12.trans l'), (by rw [hp]; exact hc)⟩, rfl⟩
 ·rw [hf] at hD ⊢
  repeat (first | refine rS ?_ | refine rB ?_)
  refine rO (fun Z hZ => (fE (Ev.eqlI rfl rfl) (eE rfl (zN hZ ?_))))
  repeat (first | refine rS ?_ | refine rF rfl ?_)
  refine rO (fun Z hZ => (fE (Ev.eqlI rfl rfl) (eE rfl (zN hZ ?_))))
  repeat (first | refine rS ?_ | refine rF rfl ?_)
  refine rO (fun Z hZ => (fE (Ev.eqlI rfl rfl) (eE rfl (zN hZ ?_))))
  repeat (first | refine rS ?_ | refine rF rfl ?_)
  refine rO (fun Z hZ => (fE (Ev.eqlI rfl rfl) (eE rfl (zN hZ ?_))))
  repeat (first | refine rS ?_ | refine rF rfl ?_)
  refine rO (fun Z hZ => (fE (Ev.eqlI rfl rfl) (eE rfl (zN hZ ?_))))
  repeat (first | refine rS ?_ | refine rF rfl ?_)
  refine rO (fun Z hZ => (fE (Ev.eqlI rfl rfl) (eE rfl (zN hZ ?_))))
  repeat (first | refine rS ?_ | refine rF rfl ?_)
  refine rO (fun Z hZ => (fE (Ev.eqlI rfl rfl) (eE rfl (zN hZ ?_))))
  repeat (first | refine rS ?_ | refine rT rfl ?_)
  refine Run.regionT (D := [some 53, some 54, some 55, some 56, some 57, some 5]) (fun _ => True) [true, true, true, true] (bl 6 15) 2 (by kernel_rfl) (by kernel_rfl) (by kernel_rfl) rfl (fun Z hZ => (gY (Yv.loadN 0 T rfl rfl rfl rfl rfl rfl) (gY (Yv.loadI T hB rfl rfl) (eE rfl (eE rfl (zN hZ ((RAny.on 4 (bl 6 31) rfl (by kernel_rfl) rfl dc (Eff.callM (M := [_]) (N := [_]) (Value_StrT f _ _ m.2 hrel xb 14 _ _ _ ht (lb rfl)) (List.Perm.swap _ _ _) call104 rfl fun w J' M' l' hw => ⟨fun _ _ => trivial, ?_⟩)))))))))
  obtain ⟨rfl, rfl⟩ := hw
  refine RAny.tk 5 (bl 6 63) rfl (by kernel_rfl) dc (fun _ _ => trivial) (Yld.eval T rfl rfl) (RAny.done _ (by kernel_rfl) ?_)
  skip
  refine Run.dropL (L' := [(xb, _)]) (List.Sublist.cons_cons _ (List.nil_sublist _)) ?_
  refine Run.ret1 (by rw [hCf]; exact func172) results172 rfl (hR _ _ _ ?_)
  rw [hf]
  exact ⟨rfl, _, ⟨d0, d1, d2, d3, d4, d5, d6, d7, d8, cl, ca, cb, rfl, h2.mono (l12.trans l'), h3.mono (l12.trans l'), h4.mono (l12.trans l'), h5.mono (l12.trans l')⟩, rfl⟩
 ·rw [hf] at hD ⊢
  repeat (first | refine rS ?_ | refine rB ?_)
  refine rO (fun Z hZ => (fE (Ev.eqlI rfl rfl) (eE rfl (zN hZ ?_))))
  repeat (first | refine rS ?_ | refine rF rfl ?_)
  refine rO (fun Z hZ => (fE (Ev.eqlI rfl rfl) (eE rfl (zN hZ ?_))))
  repeat (first | refine rS ?_ | refine rF rfl ?_)
  refine rO (fun Z hZ => (fE (Ev.eqlI rfl rfl) (eE rfl (zN hZ ?_))))
  repeat (first | refine rS ?_ | refine rF rfl ?_)
  refine rO (fun Z hZ => (fE (Ev.eqlI rfl rfl) (eE rfl (zN hZ ?_))))
  repeat (first | refine rS ?_ | refine rF rfl ?_)
  refine rO (fun Z hZ => (fE (Ev.eqlI rfl rfl) (eE rfl (zN hZ ?_))))
  repeat (first | refine rS ?_ | refine rF rfl ?_)
  refine rO (fun Z hZ => (fE (Ev.eqlI rfl rfl) (eE rfl (zN hZ ?_))))
  repeat (first | refine rS ?_ | refine rF rfl ?_)
  refine rO (fun Z hZ => (fE (Ev.eqlI rfl rfl) (eE rfl (zN hZ ?_))))
  repeat (first | refine rS ?_ | refine rK ?_ | refine rI ?_ | refine rF rfl ?_)
  refine rO (fun Z hZ => (eE rfl (zN hZ ?_)))
  skip
  refine Run.dropL (L' := [(xb, _)]) (List.sublist_cons_self _ _) ?_
  refine Run.ret1 (by rw [hCf]; exact func172) results172 rfl (hR _ _ _ ?_)
  rw [hf]
  exact ⟨rfl, _, ⟨d0, d1, d2, d3, d4, d5, d6, d7, d8, cl, ca, cb, rfl, h2.mono l12, h3.mono l12, h4.mono l12, h5.mono l12⟩, rfl⟩
def z15 : List Value := [.int .i64 0, str [], str [], .int .i64 0, str [], str [], .slice none 0 0, .slice none 0 0, .map none, .pointer none, str [], .slice none 0 0, .map none, .pointer none, str []]
theorem mf_take (f : Nat) (I : Imm) (hU : UT I) (cs : List Value) (v : JV) (hrel : (tJV (f + 1)).rel I cs v) (m : Mf) (nn : Bool) (hv : obR mfNames (mfM m nn) (mfE m nn) v) (hg : okMt m) (hc : okDt m.cfg) (xb : Nat) :
  Spec prog 171 [.pointer (some ⟨xb, 0, none⟩), .agg cs.toArray] I [(xb, blk z15 85)] fun w J M => w = .bool true /\ ∃ mc, mfV J m nn mc /\ M = [(xb, blk mc 85)] := by
 have hrel0 := hrel
 obtain ⟨wk, wn, rfl, hwk, hwn⟩ := hrel
 obtain ⟨A3, z3, rfl⟩ := hwk.isSl
 obtain ⟨A4, z4, rfl⟩ := hwn.isSl
 refine Spec.enter 8 [(0, _), (1, _)] func171 rfl ntmps171 (by simp) rfl ?_
 intro C hCf hR hCI
 refine rS ?_
 refine Run.region (Ops.box rfl dc rfl rfl (fun b2 => (Ops.box rfl dc rfl rfl (fun b3 => (oP rfl (Ops.nil (Run.freezeAt 1 rfl rfl fun J1 l1 hJ1 => ?_)))))))
 have hB : At J1 b2 0 [.pointer (some ⟨xb, 0, none⟩)] := At.block hJ1
 refine rS ?_
 refine rP 2 (fun Z hZ => (gY (Yv.loadN 0 T rfl rfl rfl rfl rfl rfl) (eE rfl (zN hZ ?_))))
 have hM := members_take f J1 _ v ((tJV (f + 1)).mono hrel0 l1) mfNames (mfM m nn) (mfE m nn) hv 172 [.pointer (some ⟨b2, 0, none⟩)] (fun D J M => ∃ mc, mfSt J m nn D mc /\ M = [(xb, blk mc 85)]) [(xb, blk z15 85)] ⟨_, by exact ⟨_, _, _, _, _, _, _, _, _, _, _, _, rfl, rfl, rfl, rfl, rfl⟩, rfl⟩ call172 (fun D J J' M ⟨mc, h, e⟩ l => ⟨mc, h.mono l, e⟩)
  (fun D q J M kc hle hq hr hD hSt => by
   obtain ⟨mc, hmc, rfl⟩ := hSt
   cases f with
   | zero => exact hr.elim
   | succ g => exact mf_step g J (hU.mono (l1.trans hle)) kc q hr m nn hq hg hc b2 xb (hB.mono hle) D hD mc hmc)
 refine Ops.callP (N := [_]) (hM) (.refl _) rfl dc call96 rfl ?_
 rintro w J2 M2 l2 ⟨rfl, D, hE, mc, hmc, rfl⟩
 refine oP rfl (Ops.nil ?_)
 skip
 refine Run.dropL (L' := [(xb, _)]) (List.sublist_cons_self _ _) ?_
 refine Run.ret1 (by rw [hCf]; exact func171) results171 rfl (hR _ _ _ ?_)
 exact ⟨rfl, mc, hmc.fin hE, rfl⟩
end Go.V
namespace Go.V
open Go.Proofs.Tryz
open Go.RowKit
set_option maxRecDepth 10000
attribute [local irreducible] Run Ops QD
set_option maxHeartbeats 4000000 in
theorem ix_step (f : Nat) (I : Imm) (hU : UT I) (cs : List Value) (m : Bs × JV) (hrel : (tJV (f + 1)).rel I cs m.2) (x : Mf) (nn : Bool) (hm : ixM x nn m) (hg : okMt x) (b2 xb : Nat) (hB : At I b2 0 [.pointer (some ⟨xb, 0, none⟩)]) (D : Int -> Bool) (hD : fieldR m.1 ixNames ≠ -1 -> D (fieldR m.1 ixNames) = false) (mc : List Value) (hS0 : ixSt I x nn D mc) :
  Spec prog 97 [str m.1, .agg cs.toArray, .pointer (some ⟨b2, 0, none⟩)] I [(xb, blk mc 75)] fun w J M => w = .bool true /\ ∃ mc', ixSt J x nn (upd D (fieldR m.1 ixNames)) mc' /\ M = [(xb, blk mc' 75)] := by
 obtain ⟨g1, g2, g3, g4, g5, g6⟩ := hg
 obtain ⟨cl, ca, cb, rfl, h3, h4, h5⟩ := hS0
 have hkl := hm.1
 have hrel0 := hrel
 obtain ⟨wk, wn, ew, hwk, hwn⟩ := hrel
 obtain ⟨A3, z3, rfl⟩ := hwk.isSl
 obtain ⟨A4, z4, rfl⟩ := hwn.isSl
 subst ew
 refine Spec.enter 51 [(0, _), (1, _), (2, _)] func97 rfl ntmps97 (by simp) rfl ?_
 intro C hCf hR hCI
 refine rS ?_
 refine Run.region (Ops.box rfl dc rfl rfl (fun b4 => (oP rfl (Ops.nil ?_))))
 repeat refine rS ?_
 refine rP 1 (fun Z hZ => (eE rfl (zN hZ ((Ops.lit T rfl rfl rfl dc rfl dc dc rfl rfl rfl rfl rfl (fun bq => (Ops.freezeAt 0 rfl rfl fun J1 l1 hJ1 => ?_)))))))
 have hS : Sl tStr J1 (.slice (some ⟨bq, 0, none⟩) 6 6) ixNames := Sl.ofBlock hJ1 (Cells.strs ixNames) rfl (by decide)
 have hB := hB.mono l1
 have hrel := (tJV (f + 1)).mono hrel0 l1
 refine Ops.call ((fieldOf J1 (hU.mono l1) m.1 ixNames _ hS hkl dc dc)) rfl dc call98 rfl ?_
 rintro _ J2 l2 rfl
 refine Ops.nil ?_
 have hB := hB.mono l2
 have hU2 := (hU.mono l1).mono l2
 have hrel := (tJV (f + 1)).mono hrel l2
 have l12 := l1.trans l2
 clear l1 hrel0 hJ1 hS
 rcases hm.2 with ⟨hf, ht⟩ | ⟨hf, ht⟩ | ⟨hf, ht⟩ | ⟨hf, ht⟩ | ⟨hf, p, r, hp, ht⟩ | ⟨hf, ht⟩ | hf
 ·rw [hf] at hD ⊢
  repeat (first | refine rS ?_ | refine rB ?_)
  refine rO (fun Z hZ => (fE (Ev.eqlI rfl rfl) (eE rfl (zN hZ ?_))))
  repeat (first | refine rS ?_ | refine rT rfl ?_)
  refine Run.regionT (D := [some 11, some 12, some 13, some 14, some 15, some 5]) (fun _ => True) [true, true, true, true] (bl 6 15) 2 (by kernel_rfl) (by kernel_rfl) (by kernel_rfl) rfl (fun Z hZ => (gY (Yv.loadN 0 T rfl rfl rfl rfl rfl rfl) (gY (Yv.loadI T hB rfl rfl) (eE rfl (eE rfl (zN hZ ((RAny.on 4 (bl 6 31) rfl (by kernel_rfl) rfl dc (Eff.callM (M := [_]) (N := [_]) (Value_IntT f _ _ m.2 hrel xb 0 _ _ _ ht g5 g6 (lb rfl)) (List.Perm.swap _ _ _) call99 rfl fun w J' M' l' hw => ⟨fun _ _ => trivial, ?_⟩)))))))))
  obtain ⟨rfl, rfl⟩ := hw
  refine RAny.tk 5 (bl 6 63) rfl (by kernel_rfl) dc (fun _ _ => trivial) (Yld.eval T rfl rfl) (RAny.done _ (by kernel_rfl) ?_)
  skip
  refine Run.dropL (L' := [(xb, _)]) (List.Sublist.cons_cons _ (List.nil_sublist _)) ?_
  refine Run.ret1 (by rw [hCf]; exact func97) results97 rfl (hR _ _ _ ?_)
  rw [hf]
  exact ⟨rfl, _, ⟨cl, ca, cb, rfl, h3.mono (l12.trans l'), h4.mono (l12.trans l'), h5.mono (l12.trans l')⟩, rfl⟩
 ·rw [hf] at hD ⊢
  repeat (first | refine rS ?_ | refine rB ?_)
  refine rO (fun Z hZ => (fE (Ev.eqlI rfl rfl) (eE rfl (zN hZ ?_))))
  repeat (first | refine rS ?_ | refine rF rfl ?_)
  refine rO (fun Z hZ => (fE (Ev.eqlI rfl rfl) (eE rfl (zN hZ ?_))))
  repeat (first | refine rS ?_ | refine rT rfl ?_)
  refine Run.regionT (D := [some 18, some 19, some 20, some 21, some 22, some 5]) (fun _ => True) [true, true, true, true] (bl 6 15) 2 (by kernel_rfl) (by kernel_rfl) (by kernel_rfl) rfl (fun Z hZ => (gY (Yv.loadN 0 T rfl rfl rfl rfl rfl rfl) (gY (Yv.loadI T hB rfl rfl) (eE rfl (eE rfl (zN hZ ((RAny.on 4 (bl 6 31) rfl (by kernel_rfl) rfl dc (Eff.callM (M := [_]) (N := [_]) (takeMediaT f _ _ m.2 hrel xb 1 _ _ _ ht (lb rfl)) (List.Perm.swap _ _ _) call100 rfl fun w J' M' l' hw => ⟨fun _ _ => trivial, ?_⟩)))))))))
  obtain ⟨rfl, rfl⟩ := hw
  refine RAny.tk 5 (bl 6 63) rfl (by kernel_rfl) dc (fun _ _ => trivial) (Yld.eval T rfl rfl) (RAny.done _ (by kernel_rfl) ?_)
  skip
  refine Run.dropL (L' := [(xb, _)]) (List.Sublist.cons_cons _ (List.nil_sublist _)) ?_
  refine Run.ret1 (by rw [hCf]; exact func97) results97 rfl (hR _ _ _ ?_)
  rw [hf]
  exact ⟨rfl, _, ⟨cl, ca, cb, rfl, h3.mono (l12.trans l'), h4.mono (l12.trans l'), h5.mono (l12.trans l')⟩, rfl⟩
 ·rw [hf] at hD ⊢
  repeat (first | refine rS ?_ | refine rB ?_)
  refine rO (fun Z hZ => (fE (Ev.eqlI rfl rfl) (eE rfl (zN hZ ?_))))
  repeat (first | refine rS ?_ | refine rF rfl ?_)
  refine rO (fun Z hZ => (fE (Ev.eqlI rfl rfl) (eE rfl (zN hZ ?_))))
  repeat (first | refine rS ?_ | refine rF rfl ?_)
  refine rO (fun Z hZ => (fE (Ev.eqlI rfl rfl) (eE rfl (zN hZ ?_))))
  repeat (first | refine rS ?_ | refine rT rfl ?_)
  obtain rfl : cl = .slice none 0 0 := by rw [hD (by decide)] at h3; exact h3
  refine Run.regionT (D := [some 25, some 26, some 27, some 28, some 29, some 5]) (fun _ => True) [true, true, true, true] (bl 6 15) 2 (by kernel_rfl) (by kernel_rfl) (by kernel_rfl) rfl (fun Z hZ => (gY (Yv.loadN 0 T rfl rfl rfl rfl rfl rfl) (gY (Yv.loadI T hB rfl rfl) (eE rfl (eE rfl (zN hZ ((RAny.on 4 (bl 6 31) rfl (by kernel_rfl) rfl dc (Eff.callM (M := [_]) (N := [_]) (takeDescriptors_T f _ hU2 _ m.2 hrel nn x.lays ht g1 g2 xb 2 _ _ rfl) (List.Perm.swap _ _ _) call101 rfl fun w J' M' l' hw => ⟨fun _ _ => trivial, ?_⟩)))))))))
  obtain ⟨rfl, c, hc, rfl⟩ := hw
  refine RAny.tk 5 (bl 6 63) rfl (by kernel_rfl) dc (fun _ _ => trivial) (Yld.eval T rfl rfl) (RAny.done _ (by kernel_rfl) ?_)
  skip
  refine Run.dropL (L' := [(xb, _)]) (List.Sublist.cons_cons _ (List.nil_sublist _)) ?_
  refine Run.ret1 (by rw [hCf]; exact func97) results97 rfl (hR _ _ _ ?_)
  rw [hf]
  exact ⟨rfl, _, ⟨c, ca, cb, rfl, hc, h4.mono (l12.trans l'), h5.mono (l12.trans l')⟩, rfl⟩
 ·rw [hf] at hD ⊢
  repeat (first | refine rS ?_ | refine rB ?_)
  refine rO (fun Z hZ => (fE (Ev.eqlI rfl rfl) (eE rfl (zN hZ ?_))))
  repeat (first | refine rS ?_ | refine rF rfl ?_)
  refine rO (fun Z hZ => (fE (Ev.eqlI rfl rfl) (eE rfl (zN hZ ?_))))
  repeat (first | refine rS ?_ | refine rF rfl ?_)
  refine rO (fun Z hZ => (fE (Ev.eqlI rfl rfl) (eE rfl (zN hZ ?_))))
  repeat (first | refine rS ?_ | refine rF rfl ?_)
  refine rO (fun Z hZ => (fE (Ev.eqlI rfl rfl) (eE rfl (zN hZ ?_))))
  repeat (first | refine rS ?_ | refine rT rfl ?_)
  obtain rfl : ca = .map none := by rw [hD (by decide)] at h4; exact h4
  refine Run.regionT (D := [some 32, some 33, some 34, some 35, some 36, some 5]) (fun _ => True) [true, true, true, true] (bl 6 15) 2 (by kernel_rfl) (by kernel_rfl) (by kernel_rfl) rfl (fun Z hZ => (gY (Yv.loadN 0 T rfl rfl rfl rfl rfl rfl) (gY (Yv.loadI T hB rfl rfl) (eE rfl (eE rfl (zN hZ ((RAny.on 4 (bl 6 31) rfl (by kernel_rfl) rfl dc (Eff.callM (M := [_]) (N := [_]) (Value_StrMapT f _ _ m.2 hrel xb 3 _ _ _ ht g4 rfl) (List.Perm.swap _ _ _) call102 rfl fun w J' M' l' hw => ⟨fun _ _ => trivial, ?_⟩)))))))))
  obtain ⟨rfl, c, hc, rfl⟩ := hw
  refine RAny.tk 5 (bl 6 63) rfl (by kernel_rfl) dc (fun _ _ => trivial) (Yld.eval T rfl rfl) (RAny.done _ (by kernel_rfl) ?_)
  skip
  refine Run.dropL (L' := [(xb, _)]) (List.Sublist.cons_cons _ (List.nil_sublist _)) ?_
  refine Run.ret1 (by rw [hCf]; exact func97) results97 rfl (hR _ _ _ ?_)
  rw [hf]
  exact ⟨rfl, _, ⟨cl, c, cb, rfl, h3.mono (l12.trans l'), hc, h5.mono (l12.trans l')⟩, rfl⟩
 ·rw [hf] at hD ⊢
  repeat (first | refine rS ?_ | refine rB ?_)
  refine rO (fun Z hZ => (fE (Ev.eqlI rfl rfl) (eE rfl (zN hZ ?_))))
  repeat (first | refine rS ?_ | refine rF rfl ?_)
  refine rO (fun Z hZ => (fE (Ev.eqlI rfl rfl) (eE rfl (zN hZ ?_))))
  repeat (first | refine rS ?_ | refine rF rfl ?_)
  refine rO (fun Z hZ => (fE (Ev.eqlI rfl rfl) (eE rfl (zN hZ ?_))))
  repeat (first | refine rS ?_ | refine rF rfl ?_)
  refine rO (fun Z hZ => (fE (Ev.eqlI rfl rfl) (eE rfl (zN hZ ?_))))
  repeat (first | refine rS ?_ | refine rF rfl ?_)
  refine rO (fun Z hZ => (fE (Ev.eqlI rfl rfl) (eE rfl (zN hZ ?_))))
  repeat (first | refine rS ?_ | refine rT rfl ?_)
  obtain rfl : cb = .pointer none := by rw [hD (by decide)] at h5; exact h5
  refine Run.regionT (D := [some 39, some 40, some 41, some 42, some 43, some 5]) (fun _ => True) [true, true, true, true] (bl 6 15) 2 (by kernel_rfl) (by kernel_rfl) (by kernel_rfl) rfl (fun Z hZ => (gY (Yv.loadN 0 T rfl rfl rfl rfl rfl rfl) (gY (Yv.loadI T hB rfl rfl) (eE rfl (eE rfl (zN hZ ((RAny.on 4 (bl 6 31) rfl (by kernel_rfl) rfl dc (Eff.callM (M := [_]) (N := [_]) (takeSubject_T f _ hU2 _ m.2 hrel p r ht (g3 p (by rw [hp]; exact List.mem_cons_self)) xb 4 _ _ rfl) (List.Perm.swap _ _ _) call103 rfl fun w J' M' l' hw => ⟨fun _ _ => trivial, ?_⟩)))))))))
  obtain ⟨rfl, c, hc, rfl⟩ := hw
  refine RAny.tk 5 (bl 6 63) rfl (by kernel_rfl) dc (fun _ _ => trivial) (Yld.eval T rfl rfl) (RAny.done _ (by kernel_rfl) ?_)
  skip
  refine Run.dropL (L' := [(xb, _)]) (List.Sublist.cons_cons _ (List.nil_sublist _)) ?_
  refine Run.ret1 (by rw [hCf]; exact func97) results97 rfl (hR _ _ _ ?_)
  rw [hf]
  exact ⟨rfl, _, ⟨cl, ca, c, rfl, h3.mono (l12.trans l'), h4.mono (l12.trans l'), (by rw [hp]; exact hc)⟩, rfl⟩
 ·rw [hf] at hD ⊢
  repeat (first | refine rS ?_ | refine rB ?_)
  refine rO (fun Z hZ => (fE (Ev.eqlI rfl rfl) (eE rfl (zN hZ ?_))))
  repeat (first | refine rS ?_ | refine rF rfl ?_)
  refine rO (fun Z hZ => (fE (Ev.eqlI rfl rfl) (eE rfl (zN hZ ?_))))
  repeat (first | refine rS ?_ | refine rF rfl ?_)
  refine rO (fun Z hZ => (fE (Ev.eqlI rfl rfl) (eE rfl (zN hZ ?_))))
  repeat (first | refine rS ?_ | refine rF rfl ?_)
  refine rO (fun Z hZ => (fE (Ev.eqlI rfl rfl) (eE rfl (zN hZ ?_))))
  repeat (first | refine rS ?_ | refine rF rfl ?_)
  refine rO (fun Z hZ => (fE (Ev.eqlI rfl rfl) (eE rfl (zN hZ ?_))))
  repeat (first | refine rS ?_ | refine rF rfl ?_)
  refine rO (fun Z hZ => (fE (Ev.eqlI rfl rfl) (eE rfl (zN hZ ?_))))
  repeat (first | refine rS ?_ | refine rT rfl ?_)
  refine Run.regionT (D := [some 46, some 47, some 48, some 49, some 50, some 5]) (fun _ => True) [true, true, true, true] (bl 6 15) 2 (by kernel_rfl) (by kernel_rfl) (by kernel_rfl) rfl (fun Z hZ => (gY (Yv.loadN 0 T rfl rfl rfl rfl rfl rfl) (gY (Yv.loadI T hB rfl rfl) (eE rfl (eE rfl (zN hZ ((RAny.on 4 (bl 6 31) rfl (by kernel_rfl) rfl dc (Eff.callM (M := [_]) (N := [_]) (Value_StrT f _ _ m.2 hrel xb 5 _ _ _ ht (lb rfl)) (List.Perm.swap _ _ _) call104 rfl fun w J' M' l' hw => ⟨fun _ _ => trivial, ?_⟩)))))))))
  obtain ⟨rfl, rfl⟩ := hw
  refine RAny.tk 5 (bl 6 63) rfl (by kernel_rfl) dc (fun _ _ => trivial) (Yld.eval T rfl rfl) (RAny.done _ (by kernel_rfl) ?_)
  skip
  refine Run.dropL (L' := [(xb, _)]) (List.Sublist.cons_cons _ (List.nil_sublist _)) ?_
  refine Run.ret1 (by rw [hCf]; exact func97) results97 rfl (hR _ _ _ ?_)
  rw [hf]
  exact ⟨rfl, _, ⟨cl, ca, cb, rfl, h3.mono (l12.trans l'), h4.mono (l12.trans l'), h5.mono (l12.trans l')⟩, rfl⟩
 ·rw [hf] at hD ⊢
  repeat (first | refine rS ?_ | refine rB ?_)
  refine rO (fun Z hZ => (fE (Ev.eqlI rfl rfl) (eE rfl (zN hZ ?_))))
  repeat (first | refine rS ?_ | refine rF rfl ?_)
  refine rO (fun Z hZ => (fE (Ev.eqlI rfl rfl) (eE rfl (zN hZ ?_))))
  repeat (first | refine rS ?_ | refine rF rfl ?_)
  refine rO (fun Z hZ => (fE (Ev.eqlI rfl rfl) (eE rfl (zN hZ ?_))))
  repeat (first | refine rS ?_ | refine rF rfl ?_)
  refine rO (fun Z hZ => (fE (Ev.eqlI rfl rfl) (eE rfl (zN hZ ?_))))
  repeat (first | refine rS ?_ | refine rF rfl ?_)
  refine rO (fun Z hZ => (fE (Ev.eqlI rfl rfl) (eE rfl (zN hZ ?_))))
  repeat (first | refine rS ?_ | refine rF rfl ?_)
  refine rO (fun Z hZ => (fE (Ev.eqlI rfl rfl) (eE rfl (zN hZ ?_))))
  repeat (first | refine rS ?_ | refine rK ?_ | refine rI ?_ | refine rF rfl ?_)
  refine rO (fun Z hZ => (eE rfl (zN hZ ?_)))
  skip
  refine Run.dropL (L' := [(xb, _)]) (List.sublist_cons_self _ _) ?_
  refine Run.ret1 (by rw [hCf]; exact func97) results97 rfl (hR _ _ _ ?_)
  rw [hf]
  exact ⟨rfl, _, ⟨cl, ca, cb, rfl, h3.mono l12, h4.mono l12, h5.mono l12⟩, rfl⟩
def z6i : List Value := [.int .i64 0, str [], .slice none 0 0, .map none, .pointer none, str []]
theorem ix_take (f : Nat) (I : Imm) (hU : UT I) (cs : List Value) (v : JV) (hrel : (tJV (f + 1)).rel I cs v) (m : Mf) (nn : Bool) (hv : obR ixNames (ixM m nn) (ixE m nn) v) (hg : okMt m) (xb : Nat) :
  Spec prog 95 [.pointer (some ⟨xb, 0, none⟩), .agg cs.toArray] I [(xb, blk z6i 75)] fun w J M => w = .bool true /\ ∃ mc, ixV J m nn mc /\ M = [(xb, blk mc 75)] := by
 have hrel0 := hrel
 obtain ⟨wk, wn, rfl, hwk, hwn⟩ := hrel
 obtain ⟨A3, z3, rfl⟩ := hwk.isSl
 obtain ⟨A4, z4, rfl⟩ := hwn.isSl
 refine Spec.enter 8 [(0, _), (1, _)] func95 rfl ntmps95 (by simp) rfl ?_
 intro C hCf hR hCI
 refine rS ?_
 refine Run.region (Ops.box rfl dc rfl rfl (fun b2 => (Ops.box rfl dc rfl rfl (fun b3 => (oP rfl (Ops.nil (Run.freezeAt 1 rfl rfl fun J1 l1 hJ1 => ?_)))))))
 have hB : At J1 b2 0 [.pointer (some ⟨xb, 0, none⟩)] := At.block hJ1
 refine rS ?_
 refine rP 2 (fun Z hZ => (gY (Yv.loadN 0 T rfl rfl rfl rfl rfl rfl) (eE rfl (zN hZ ?_))))
 have hM := members_take f J1 _ v ((tJV (f + 1)).mono hrel0 l1) ixNames (ixM m nn) (ixE m nn) hv 97 [.pointer (some ⟨b2, 0, none⟩)] (fun D J M => ∃ mc, ixSt J m nn D mc /\ M = [(xb, blk mc 75)]) [(xb, blk z6i 75)] ⟨_, by exact ⟨_, _, _, rfl, rfl, rfl, rfl⟩, rfl⟩ call97 (fun D J J' M ⟨mc, h, e⟩ l => ⟨mc, h.mono l, e⟩)
  (fun D q J M kc hle hq hr hD hSt => by
   obtain ⟨mc, hmc, rfl⟩ := hSt
   cases f with
   | zero => exact hr.elim
   | succ g => exact ix_step g J (hU.mono (l1.trans hle)) kc q hr m nn hq hg b2 xb (hB.mono hle) D hD mc hmc)
 refine Ops.callP (N := [_]) (hM) (.refl _) rfl dc call96 rfl ?_
 rintro w J2 M2 l2 ⟨rfl, D, hE, mc, hmc, rfl⟩
 refine oP rfl (Ops.nil ?_)
 skip
 refine Run.dropL (L' := [(xb, _)]) (List.sublist_cons_self _ _) ?_
 refine Run.ret1 (by rw [hCf]; exact func95) results95 rfl (hR _ _ _ ?_)
 exact ⟨rfl, mc, hmc.fin hE, rfl⟩
end Go.V
namespace Go.V
open Go.Proofs.Tryz
open Go.RowKit
set_option maxRecDepth 10000
attribute [local irreducible] Run Ops
def quoT (s : Bs) : Bs := quo (runesOf s)
def jnW (sep : Nat -> UInt8) : Nat -> List Bs -> Bs
 | _, [] => []
 | i, t :: r => (if i = 0 then [] else [sep i]) ++ t ++ jnW sep (i + 1) r
theorem jnW_snoc (sep : Nat -> UInt8) : ∀ (i : Nat) (a : List Bs) (t : Bs), jnW sep i (a ++ [t]) = jnW sep i a ++ (if i + a.length = 0 then [] else [sep (i + a.length)]) ++ t
 | i, [], t => by simp [jnW]
 | i, x :: a, t => by
  rw [List.cons_append, jnW, jnW, jnW_snoc sep (i + 1) a t]
  have e : i + 1 + a.length = i + (x :: a).length := by rw [List.length_cons]; omega
  rw [e]; simp only [List.append_assoc]
theorem jnW_len (sep : Nat -> UInt8) : ∀ (i : Nat) (a b : List Bs), (jnW sep i a).length <= (jnW sep i (a ++ b)).length
 | i, [], b => by simp [jnW]
 | i, x :: a, b => by
  rw [List.cons_append, jnW, jnW]
  have := jnW_len sep (i + 1) a b
  simp only [List.length_append]; omega
theorem jnW_ge1 (sep : Nat -> UInt8) : ∀ (i : Nat) (a : List Bs), a.length <= (jnW sep (i + 1) a).length
 | i, [] => Nat.zero_le _
 | i, x :: a => by
  rw [jnW, if_neg (Nat.succ_ne_zero i), List.length_append, List.length_append, List.length_cons, List.length_singleton]
  have := jnW_ge1 sep (i + 1) a
  omega
theorem jnW_ge (sep : Nat -> UInt8) (a : List Bs) : a.length <= (jnW sep 0 a).length + 1 := by
 cases a with
 | nil => exact Nat.zero_le _
 | cons x a =>
  rw [jnW, if_pos rfl, List.nil_append, List.length_append, List.length_cons]
  have := jnW_ge1 sep 0 a
  omega
def sepL (_ : Nat) : UInt8 := 44
def sepO (i : Nat) : UInt8 := if i % 2 = 0 then 44 else 58
def jwr : Nat -> Js -> Bs
 | 0, _ => []
 | d + 1, j => if j.kind = 115 then quoT j.text else if j.kind = 108 then [91] ++ jnW sepL 0 (j.kids.map (jwr d)) ++ [93] else if j.kind = 111 then [123] ++ jnW sepO 0 (j.kids.map (jwr d)) ++ [125] else j.text
def Wrt : Nat -> Js -> Prop
 | 0, _ => False
 | d + 1, j => if j.kind = 115 then GoodT j.text else if j.kind = 108 \/ j.kind = 111 then ∀ x ∈ j.kids, Wrt d x else True
theorem quo_pos_len (rs : List Nat) : rs.length <= (quo rs).length := by
 unfold quo
 have : rs.length <= (rs.flatMap quo1).length := by
  induction rs with
  | nil => exact Nat.le_refl _
  | cons r rs ih =>
   have := quo1_pos r
   rw [List.flatMap_cons, List.length_append, List.length_cons]; omega
 simp only [List.length_append]; omega
def JWSpec (d : Nat) : Prop := ∀ (I : Imm) (cs : List Value) (j : Js), (tJs d).rel I cs j -> Wrt d j -> (jwr d j).length <= 34359738368 -> Pure prog 28 [.agg cs.toArray] I fun w J => w = str (jwr d j)
theorem split3 (a b c : Bs) : (a ++ b ++ c).length = a.length + b.length + c.length := by simp only [List.length_append]
set_option maxHeartbeats 1000000 in
theorem spec_Write : ∀ d, JWSpec d
 | 0 => fun I cs j hrel hw _ => hw.elim
 | d + 1 => fun I cs j hrel hw hl => by
  have IH := spec_Write d
  obtain ⟨vk, rfl, hK⟩ := hrel
  unfold jwr at hl ⊢
  unfold Wrt at hw
  obtain ⟨A, c, rfl⟩ := hK.isSl
  obtain ⟨kk, hkk⟩ : ∃ kk : Int, kk = (j.kind.toNat : Int) := ⟨_, rfl⟩
  rw [<- hkk]
  generalize j.kids = kids at *
  generalize j.text = t at *
  by_cases h1 : j.kind = 115
  ·obtain rfl : kk = 115 := by rw [hkk, h1]; rfl
   rw [if_pos h1] at hl hw ⊢
   obtain ⟨rs, rfl, hg⟩ := hw
   unfold quoT at hl ⊢
   rw [runesOf_encs hg] at hl ⊢
   have := quo_pos_len rs
   refine Spec.enter 65 [(0, _)] func28 rfl ntmps28 (by simp) rfl ?_
   intro C hCf hR hCI
   refine rS ?_; refine Run.region ?_
   refine Ops.box rfl dc rfl rfl (fun b1 => ?_)
   repeat (first | refine rS ?_ | refine Run.region ?_ | refine Ops.nil ?_ | refine rB ?_ | refine rT rfl ?_ | refine Ops.eql rfl (by decide) rfl rfl ?_ | refine oP rfl ?_ | refine Ops.load 0 rfl (by decide) rfl rfl (T.aggOk rfl) rfl ?_)
   refine Ops.call ((spec_quoted I rs hg (by omega))) rfl dc call48 rfl ?_
   rintro _ J l rfl
   repeat (first | refine Ops.nil ?_ | refine oP rfl ?_)
   refine Run.fin (Run.ret1 (by rw [hCf]; exact func28) results28 rfl (hR _ _ _ ?_))
   exact ⟨rfl, rfl⟩
  rw [if_neg h1] at hl hw ⊢
  by_cases h2 : j.kind = 108
  ·obtain rfl : kk = 108 := by rw [hkk, h2]; rfl
   rw [if_pos h2] at hl ⊢
   rw [if_pos (.inl h2)] at hw
   rw [split3] at hl
   refine Spec.enter 65 [(0, _)] func28 rfl ntmps28 (by simp) rfl ?_
   intro C hCf hR hCI
   refine rS ?_; refine Run.region ?_
   refine Ops.box rfl dc rfl rfl (fun b1 => ?_)
   have hkn := jnW_ge sepL (kids.map (jwr d))
   rw [List.length_map] at hkn
   repeat (first | refine rS ?_ | refine Run.region ?_ | refine Ops.nil ?_ | refine rB ?_ | refine rT rfl ?_ | refine rF rfl ?_ | refine Ops.eql rfl (by decide) rfl rfl ?_ | refine oP rfl ?_ | refine Ops.load 0 rfl (by decide) rfl rfl (T.aggOk rfl) rfl ?_)
   refine Run.fin ?_
   refine Run.keep [3, 18, 19, 20] [_, _, _, _] rfl ?_
   refine Run.rounds (fun m env L J => ∃ (pre rest : List Js), m = rest.length /\ kids = pre ++ rest /\ env = [(3, str (jnW sepL 0 (pre.map (jwr d)))), (18, .slice A kids.length c), (19, .int .i64 kids.length), (20, .int .i64 pre.length)] /\ L = [] /\ Le I J) kids.length ⟨[], kids, rfl, rfl, rfl, rfl, Le.refl _⟩ ?_
   rintro m env L J ⟨pre, rest, rfl, rfl, rfl, rfl, hle⟩ ih
   have hK := hK.mono hle
   rw [List.length_append] at hkn
   repeat (first | refine rS ?_ | refine Run.region ?_ | refine Ops.nil ?_ | refine Ops.lss rfl (by decide) rfl rfl ?_)
   cases rest with
   | nil =>
    refine Run.cond rfl rfl (fun h => ?_) (fun h => ?_)
    all_goals (try rw [h])
    all_goals (try simp only [decide_eq_true_eq, decide_eq_false_iff_not, Bool.not_eq_true', Bool.not_eq_false', Bool.and_eq_true, Bool.or_eq_true, Bool.and_eq_false_imp, Bool.or_eq_false_iff] at h)
    ·rw [List.append_nil] at h; omega
    repeat (first | refine rS ?_ | refine Run.region ?_ | refine Run.exit rfl ?_ | refine oP rfl ?_)
    simp only [List.append_nil] at hl ⊢
    refine Ops.cat rfl dc rfl rfl (by simp; omega) ?_
    repeat (first | refine Ops.nil ?_ | refine Ops.cat rfl (by decide) rfl rfl (by first | omega | (simp only [List.length_cons, List.length_nil] ; omega) | (simp; omega)) ?_ | refine oP rfl ?_)
    refine Run.fin (Run.ret1 (by rw [hCf]; exact func28) results28 rfl (hR _ _ _ ?_))
    exact ⟨rfl, by rw [List.append_nil]⟩
   | cons x rest =>
    refine Run.cond rfl rfl (fun h => ?_) (fun h => ?_)
    all_goals (try rw [h])
    all_goals (try simp only [decide_eq_true_eq, decide_eq_false_iff_not, Bool.not_eq_true', Bool.not_eq_false', Bool.and_eq_true, Bool.or_eq_true, Bool.and_eq_false_imp, Bool.or_eq_false_iff] at h)
    ·skip
     repeat (first | refine rS ?_ | refine Run.region ?_ | refine rK ?_ | refine rB ?_ | refine oP rfl ?_)
     refine Ops.indexSl hK rfl dc rfl rfl (T.undOk rfl) (by rw [tJs_size]; exact T.sizeOk rfl) (by omega) (by simp only [List.length_append, List.length_cons]; omega) ?_
     rintro b_ off_ x_ cs_ hx hr_ hA_
     rw [Int.toNat_natCast, List.getElem?_append_right (Nat.le_refl _), Nat.sub_self] at hx
     obtain rfl : x = x_ := Option.some.inj hx
     obtain ⟨A2, n2, c2, rfl⟩ := tJs_shape hr_
     refine Ops.loadIN rfl dc rfl (hA_) (T.aggOk rfl) (T.sizeOk rfl) rfl (Ops.alloc rfl dc (T.zeroOk rfl) rfl (fun b5 => ?_))
     repeat (first | refine rS ?_ | refine Run.region ?_ | refine Ops.nil ?_ | refine Ops.gtr rfl (by decide) rfl rfl ?_ | refine oP rfl ?_ | refine Ops.store 0 rfl rfl rfl rfl rfl (T.sizeOk rfl) rfl (lb rfl) rfl rfl ?_)
     rw [List.length_cons] at hkn
     have hwx := hw x (by simp)
     have hsn := jnW_snoc sepL 0 (pre.map (jwr d)) (jwr d x)
     have hln := jnW_len sepL 0 (pre.map (jwr d) ++ [jwr d x]) (rest.map (jwr d))
     rw [List.append_assoc, List.singleton_append, <- List.map_cons, <- List.map_append, hsn] at hln
     simp only [List.length_append, List.length_singleton, Nat.zero_add, List.length_map] at hln
     by_cases h0 : pre.length = 0
     ·skip
      refine Run.cond rfl rfl (fun h3 => ?_) (fun h3 => ?_)
      all_goals (try rw [h3])
      all_goals (try simp only [decide_eq_true_eq, decide_eq_false_iff_not, Bool.not_eq_true', Bool.not_eq_false', Bool.and_eq_true, Bool.or_eq_true, Bool.and_eq_false_imp, Bool.or_eq_false_iff] at h3)
      ·omega
      rw [if_pos (by rw [List.length_map]; omega)] at hsn
      repeat (first | refine Run.region ?_ | refine rK ?_ | refine oP rfl ?_ | refine Ops.loadN 0 rfl (by decide) rfl rfl (T.aggOk rfl) (T.sizeOk rfl) rfl rfl ?_)
      refine Ops.call ((IH J _ x hr_ hwx (by omega))) rfl dc call28 rfl ?_
      rintro _ J2 l2 rfl
      refine Ops.cat rfl dc rfl rfl (by first | omega | (simp only [List.length_append, List.length_cons, List.length_nil]; omega)) ?_
      repeat (first | refine Run.region ?_ | refine Ops.nil ?_ | refine rI ?_ | refine Ops.add rfl (by decide) rfl rfl (wI (by first | omega | (simp only [List.length_cons, List.length_nil] ; omega) | (simp; omega)) (by first | omega | (simp only [List.length_cons, List.length_nil] ; omega) | (simp; omega))) ?_ | refine oP rfl ?_)
      refine Run.fin ?_
      refine Run.keep [3, 18, 19, 20] [_, _, _, _] rfl ?_
      exact ih rest.length _ _ _ (by simp) ⟨pre ++ [x], rest, rfl, by simp, by rw [List.map_append, List.map_singleton, hsn]; simp [sepL], rfl, hle.trans l2⟩
     ·skip
      refine Run.cond rfl rfl (fun h3 => ?_) (fun h3 => ?_)
      all_goals (try rw [h3])
      all_goals (try simp only [decide_eq_true_eq, decide_eq_false_iff_not, Bool.not_eq_true', Bool.not_eq_false', Bool.and_eq_true, Bool.or_eq_true, Bool.and_eq_false_imp, Bool.or_eq_false_iff] at h3)
      ·rw [if_neg (by rw [List.length_map]; omega)] at hsn
       rw [if_neg h0] at hln
       repeat (first | refine Run.region ?_ | refine Ops.nil ?_ | refine Ops.cat rfl (by decide) rfl rfl (by first | omega | (simp only [List.length_cons, List.length_nil] ; omega) | (simp; omega)) ?_ | refine oP rfl ?_ | refine Ops.loadN 0 rfl (by decide) rfl rfl (T.aggOk rfl) (T.sizeOk rfl) rfl rfl ?_)
       refine Ops.call ((IH J _ x hr_ hwx (by omega))) rfl dc call28 rfl ?_
       rintro _ J2 l2 rfl
       refine Ops.cat rfl dc rfl rfl (by first | omega | (simp only [List.length_append, List.length_cons, List.length_nil]; omega)) ?_
       repeat (first | refine Run.region ?_ | refine Ops.nil ?_ | refine rI ?_ | refine Ops.add rfl (by decide) rfl rfl (wI (by first | omega | (simp only [List.length_cons, List.length_nil] ; omega) | (simp; omega)) (by first | omega | (simp only [List.length_cons, List.length_nil] ; omega) | (simp; omega))) ?_ | refine oP rfl ?_)
       refine Run.fin ?_
       refine Run.keep [3, 18, 19, 20] [_, _, _, _] rfl ?_
       exact ih rest.length _ _ _ (by simp) ⟨pre ++ [x], rest, rfl, by simp, by rw [List.map_append, List.map_singleton, hsn]; simp [sepL], rfl, hle.trans l2⟩
      ·omega
    ·simp only [List.length_append, List.length_cons] at h; omega
  rw [if_neg h2] at hl ⊢
  by_cases h3 : j.kind = 111
  ·obtain rfl : kk = 111 := by rw [hkk, h3]; rfl
   rw [if_pos h3] at hl ⊢
   rw [if_pos (.inr h3)] at hw
   rw [split3] at hl
   refine Spec.enter 65 [(0, _)] func28 rfl ntmps28 (by simp) rfl ?_
   intro C hCf hR hCI
   refine rS ?_; refine Run.region ?_
   refine Ops.box rfl dc rfl rfl (fun b1 => ?_)
   have hkn := jnW_ge sepO (kids.map (jwr d))
   rw [List.length_map] at hkn
   repeat (first | refine rS ?_ | refine Run.region ?_ | refine Ops.nil ?_ | refine rB ?_ | refine rT rfl ?_ | refine rF rfl ?_ | refine Ops.eql rfl (by decide) rfl rfl ?_ | refine oP rfl ?_ | refine Ops.load 0 rfl (by decide) rfl rfl (T.aggOk rfl) rfl ?_)
   refine Run.fin ?_
   refine Run.keep [3, 40, 41, 42] [_, _, _, _] rfl ?_
   refine Run.rounds (fun m env L J => ∃ (pre rest : List Js), m = rest.length /\ kids = pre ++ rest /\ env = [(3, str (jnW sepO 0 (pre.map (jwr d)))), (40, .slice A kids.length c), (41, .int .i64 kids.length), (42, .int .i64 pre.length)] /\ L = [] /\ Le I J) kids.length ⟨[], kids, rfl, rfl, rfl, rfl, Le.refl _⟩ ?_
   rintro m env L J ⟨pre, rest, rfl, rfl, rfl, rfl, hle⟩ ih
   have hK := hK.mono hle
   rw [List.length_append] at hkn
   repeat (first | refine rS ?_ | refine Run.region ?_ | refine Ops.nil ?_ | refine Ops.lss rfl (by decide) rfl rfl ?_)
   cases rest with
   | nil =>
    refine Run.cond rfl rfl (fun h => ?_) (fun h => ?_)
    all_goals (try rw [h])
    all_goals (try simp only [decide_eq_true_eq, decide_eq_false_iff_not, Bool.not_eq_true', Bool.not_eq_false', Bool.and_eq_true, Bool.or_eq_true, Bool.and_eq_false_imp, Bool.or_eq_false_iff] at h)
    ·rw [List.append_nil] at h; omega
    repeat (first | refine rS ?_ | refine Run.region ?_ | refine Run.exit rfl ?_ | refine oP rfl ?_)
    simp only [List.append_nil] at hl ⊢
    refine Ops.cat rfl dc rfl rfl (by simp; omega) ?_
    repeat (first | refine Ops.nil ?_ | refine Ops.cat rfl (by decide) rfl rfl (by first | omega | (simp only [List.length_cons, List.length_nil] ; omega) | (simp; omega)) ?_ | refine oP rfl ?_)
    refine Run.fin (Run.ret1 (by rw [hCf]; exact func28) results28 rfl (hR _ _ _ ?_))
    exact ⟨rfl, by rw [List.append_nil]⟩
   | cons x rest =>
    refine Run.cond rfl rfl (fun h => ?_) (fun h => ?_)
    all_goals (try rw [h])
    all_goals (try simp only [decide_eq_true_eq, decide_eq_false_iff_not, Bool.not_eq_true', Bool.not_eq_false', Bool.and_eq_true, Bool.or_eq_true, Bool.and_eq_false_imp, Bool.or_eq_false_iff] at h)
    ·skip
     repeat (first | refine rS ?_ | refine Run.region ?_ | refine rK ?_ | refine rB ?_ | refine oP rfl ?_)
     refine Ops.indexSl hK rfl dc rfl rfl (T.undOk rfl) (by rw [tJs_size]; exact T.sizeOk rfl) (by omega) (by simp only [List.length_append, List.length_cons]; omega) ?_
     rintro b_ off_ x_ cs_ hx hr_ hA_
     rw [Int.toNat_natCast, List.getElem?_append_right (Nat.le_refl _), Nat.sub_self] at hx
     obtain rfl : x = x_ := Option.some.inj hx
     obtain ⟨A2, n2, c2, rfl⟩ := tJs_shape hr_
     refine Ops.loadIN rfl dc rfl (hA_) (T.aggOk rfl) (T.sizeOk rfl) rfl (Ops.alloc rfl dc (T.zeroOk rfl) rfl (fun b5 => ?_))
     repeat (first | refine rS ?_ | refine Run.region ?_ | refine Ops.nil ?_ | refine Ops.gtr rfl (by decide) rfl rfl ?_ | refine oP rfl ?_ | refine Ops.store 0 rfl rfl rfl rfl rfl (T.sizeOk rfl) rfl (lb rfl) rfl rfl ?_)
     rw [List.length_cons] at hkn
     have hwx := hw x (by simp)
     have hsn := jnW_snoc sepO 0 (pre.map (jwr d)) (jwr d x)
     have hln := jnW_len sepO 0 (pre.map (jwr d) ++ [jwr d x]) (rest.map (jwr d))
     rw [List.append_assoc, List.singleton_append, <- List.map_cons, <- List.map_append, hsn] at hln
     simp only [List.length_append, List.length_singleton, Nat.zero_add, List.length_map] at hln
     by_cases h0 : pre.length = 0
     ·skip
      refine Run.cond rfl rfl (fun h3 => ?_) (fun h3 => ?_)
      all_goals (try rw [h3])
      all_goals (try simp only [decide_eq_true_eq, decide_eq_false_iff_not, Bool.not_eq_true', Bool.not_eq_false', Bool.and_eq_true, Bool.or_eq_true, Bool.and_eq_false_imp, Bool.or_eq_false_iff] at h3)
      ·omega
      rw [if_pos (by rw [List.length_map]; omega)] at hsn
      repeat (first | refine Run.region ?_ | refine rK ?_ | refine oP rfl ?_ | refine Ops.loadN 0 rfl (by decide) rfl rfl (T.aggOk rfl) (T.sizeOk rfl) rfl rfl ?_)
      refine Ops.call ((IH J _ x hr_ hwx (by omega))) rfl dc call28 rfl ?_
      rintro _ J2 l2 rfl
      refine Ops.cat rfl dc rfl rfl (by first | omega | (simp only [List.length_append, List.length_cons, List.length_nil]; omega)) ?_
      repeat (first | refine Run.region ?_ | refine Ops.nil ?_ | refine rI ?_ | refine Ops.add rfl (by decide) rfl rfl (wI (by first | omega | (simp only [List.length_cons, List.length_nil] ; omega) | (simp; omega)) (by first | omega | (simp only [List.length_cons, List.length_nil] ; omega) | (simp; omega))) ?_ | refine oP rfl ?_)
      refine Run.fin ?_
      refine Run.keep [3, 40, 41, 42] [_, _, _, _] rfl ?_
      exact ih rest.length _ _ _ (by simp) ⟨pre ++ [x], rest, rfl, by simp, by rw [List.map_append, List.map_singleton, hsn]; simp [sepL], rfl, hle.trans l2⟩
     ·skip
      refine Run.cond rfl rfl (fun h3 => ?_) (fun h3 => ?_)
      all_goals (try rw [h3])
      all_goals (try simp only [decide_eq_true_eq, decide_eq_false_iff_not, Bool.not_eq_true', Bool.not_eq_false', Bool.and_eq_true, Bool.or_eq_true, Bool.and_eq_false_imp, Bool.or_eq_false_iff] at h3)
      ·rw [if_neg (by rw [List.length_map]; omega)] at hsn
       rw [if_neg h0] at hln
       repeat (first | refine Run.region ?_ | refine oP rfl ?_)
       by_cases hp : pre.length % 2 = 0
       ·skip
        refine Ops.ev (Ev.remI (r := 0) rfl rfl dc (by rw [Int.tmod_eq_emod_of_nonneg (by omega)]; omega)) rfl dc (Ops.ev ((Ev.indexT (s := [44, 58]) T rfl rfl rfl dc dc).as (show _ = Value.int .u8 44 from rfl)) rfl dc (Ops.ev ((Ev.convRune T rfl rfl rfl).as (show _ = str [44] from congrArg str rfl)) rfl dc (Ops.cat rfl dc rfl rfl (by first | omega | (simp only [List.length_append, List.length_cons, List.length_nil]; omega)) ?_)))
        repeat (first | refine Run.region ?_ | refine Ops.nil ?_ | refine oP rfl ?_ | refine Ops.loadN 0 rfl (by decide) rfl rfl (T.aggOk rfl) (T.sizeOk rfl) rfl rfl ?_)
        have hse : sepO pre.length = 44 := if_pos hp
        refine Ops.call ((IH J _ x hr_ hwx (by omega))) rfl dc call28 rfl ?_
        rintro _ J2 l2 rfl
        refine Ops.cat rfl dc rfl rfl (by first | omega | (simp only [List.length_append, List.length_cons, List.length_nil]; omega)) ?_
        repeat (first | refine Run.region ?_ | refine Ops.nil ?_ | refine rI ?_ | refine Ops.add rfl (by decide) rfl rfl (wI (by first | omega | (simp only [List.length_cons, List.length_nil] ; omega) | (simp; omega)) (by first | omega | (simp only [List.length_cons, List.length_nil] ; omega) | (simp; omega))) ?_ | refine oP rfl ?_)
        refine Run.fin ?_
        refine Run.keep [3, 40, 41, 42] [_, _, _, _] rfl ?_
        exact ih rest.length _ _ _ (by simp) ⟨pre ++ [x], rest, rfl, by simp, by rw [List.map_append, List.map_singleton, hsn]; simp [hse], rfl, hle.trans l2⟩
       ·skip
        refine Ops.ev (Ev.remI (r := 1) rfl rfl dc (by rw [Int.tmod_eq_emod_of_nonneg (by omega)]; omega)) rfl dc (Ops.ev ((Ev.indexT (s := [44, 58]) T rfl rfl rfl dc dc).as (show _ = Value.int .u8 58 from rfl)) rfl dc (Ops.ev ((Ev.convRune T rfl rfl rfl).as (show _ = str [58] from congrArg str rfl)) rfl dc (Ops.cat rfl dc rfl rfl (by first | omega | (simp only [List.length_append, List.length_cons, List.length_nil]; omega)) ?_)))
        repeat (first | refine Run.region ?_ | refine Ops.nil ?_ | refine oP rfl ?_ | refine Ops.loadN 0 rfl (by decide) rfl rfl (T.aggOk rfl) (T.sizeOk rfl) rfl rfl ?_)
        have hse : sepO pre.length = 58 := if_neg hp
        refine Ops.call ((IH J _ x hr_ hwx (by omega))) rfl dc call28 rfl ?_
        rintro _ J2 l2 rfl
        refine Ops.cat rfl dc rfl rfl (by first | omega | (simp only [List.length_append, List.length_cons, List.length_nil]; omega)) ?_
        repeat (first | refine Run.region ?_ | refine Ops.nil ?_ | refine rI ?_ | refine Ops.add rfl (by decide) rfl rfl (wI (by first | omega | (simp only [List.length_cons, List.length_nil] ; omega) | (simp; omega)) (by first | omega | (simp only [List.length_cons, List.length_nil] ; omega) | (simp; omega))) ?_ | refine oP rfl ?_)
        refine Run.fin ?_
        refine Run.keep [3, 40, 41, 42] [_, _, _, _] rfl ?_
        exact ih rest.length _ _ _ (by simp) ⟨pre ++ [x], rest, rfl, by simp, by rw [List.map_append, List.map_singleton, hsn]; simp [hse], rfl, hle.trans l2⟩
      ·omega
    ·simp only [List.length_append, List.length_cons] at h; omega
  rw [if_neg h3] at hl ⊢
  have n1 : ¬ (kk = 115) := fun h => h1 (UInt8.toNat_inj.1 (by show j.kind.toNat = 115; omega))
  have n2 : ¬ (kk = 108) := fun h => h2 (UInt8.toNat_inj.1 (by show j.kind.toNat = 108; omega))
  have n3 : ¬ (kk = 111) := fun h => h3 (UInt8.toNat_inj.1 (by show j.kind.toNat = 111; omega))
  refine Spec.enter 65 [(0, _)] func28 rfl ntmps28 (by simp) rfl ?_
  intro C hCf hR hCI
  refine rS ?_; refine Run.region ?_
  refine Ops.box rfl dc rfl rfl (fun b1 => ?_)
  repeat (first | refine rS ?_ | refine Run.region ?_ | refine Ops.nil ?_ | refine rB ?_ | refine Ops.eql rfl (by decide) rfl rfl ?_ | refine oP rfl ?_ | refine Ops.load 0 rfl (by decide) rfl rfl (T.aggOk rfl) rfl ?_)
  refine Run.cond rfl rfl (fun q1 => ?_) (fun q1 => ?_)
  all_goals (try rw [q1])
  all_goals (try simp only [decide_eq_true_eq, decide_eq_false_iff_not, Bool.not_eq_true', Bool.not_eq_false', Bool.and_eq_true, Bool.or_eq_true, Bool.and_eq_false_imp, Bool.or_eq_false_iff] at q1)
  ·exact absurd q1 n1
  repeat (first | refine rS ?_ | refine Run.region ?_ | refine Ops.nil ?_ | refine Ops.eql rfl (by decide) rfl rfl ?_ | refine oP rfl ?_)
  refine Run.cond rfl rfl (fun q2 => ?_) (fun q2 => ?_)
  all_goals (try rw [q2])
  all_goals (try simp only [decide_eq_true_eq, decide_eq_false_iff_not, Bool.not_eq_true', Bool.not_eq_false', Bool.and_eq_true, Bool.or_eq_true, Bool.and_eq_false_imp, Bool.or_eq_false_iff] at q2)
  ·exact absurd q2 n2
  repeat (first | refine rS ?_ | refine Run.region ?_ | refine Ops.nil ?_ | refine Ops.eql rfl (by decide) rfl rfl ?_ | refine oP rfl ?_)
  refine Run.cond rfl rfl (fun q3 => ?_) (fun q3 => ?_)
  all_goals (try rw [q3])
  all_goals (try simp only [decide_eq_true_eq, decide_eq_false_iff_not, Bool.not_eq_true', Bool.not_eq_false', Bool.and_eq_true, Bool.or_eq_true, Bool.and_eq_false_imp, Bool.or_eq_false_iff] at q3)
  ·exact absurd q3 n3
  repeat (first | refine rS ?_ | refine Run.region ?_ | refine Ops.nil ?_ | refine rK ?_ | refine rI ?_ | refine oP rfl ?_ | refine Ops.load 0 rfl (by decide) rfl rfl (T.aggOk rfl) rfl ?_)
  refine Run.fin (Run.ret1 (by rw [hCf]; exact func28) results28 rfl (hR _ _ _ ?_))
  exact ⟨rfl, rfl⟩
end Go.V
namespace Go.V
set_option maxRecDepth 10000
theorem cost_tx (d : Nat) (s : Bs) : cost d (txJ s) = 12 * s.length + 60 := by cases d <;> rfl
theorem cost_nu (d : Nat) (t : Bs) : cost d (.mk 110 t []) = 12 * t.length + 60 := by cases d <;> rfl
theorem csum_nil (d : Nat) : csum d [] = 0 := rfl
theorem csum_two (d : Nat) (k : Bs) (v : Js) (hk : k.length <= 20) : csum d [txJ k, v] <= 302 + cost d v := by
 rw [csum_cons, csum_cons, csum_nil, cost_tx]; omega
theorem csum_opJ (d : Nat) (k s : Bs) (hk : k.length <= 20) (hs : s.length <= 4000) : csum d (opJ k s) <= 48400 := by
 unfold opJ
 split
 ·rw [csum_nil]; omega
 ·have := csum_two d k (txJ s) hk
  rw [cost_tx] at this; omega
theorem csum_texts (d : Nat) : ∀ l : List Bs, (∀ s ∈ l, s.length <= 4000) -> csum d (l.map txJ) <= l.length * 48061
 | [], _ => by simp [csum]
 | s :: l, h => by
  have h1 := csum_texts d l fun x hx => h x (by simp [hx])
  have h2 := h s (by simp)
  rw [List.map_cons, csum_cons, cost_tx, List.length_cons]; omega
theorem csum_opL (d : Nat) (k : Bs) (l : List Bs) (hk : k.length <= 20) (hs : ∀ s ∈ l, s.length <= 4000) : csum (d + 1) (opL k l) <= 400 + l.length * 48061 := by
 unfold opL
 split
 ·rw [csum_nil]; omega
 ·have h1 := csum_two (d + 1) k (lsJ l) hk
  have h2 := csum_texts d l hs
  have h3 : cost (d + 1) (lsJ l) = 60 + csum d (l.map txJ) := by rw [cost_succ]; rfl
  omega
theorem csum_pr (d : Nat) : ∀ l : List K2, (∀ s ∈ aTexts l, s.length <= 4000) -> csum d (prJs l) <= l.length * 96122
 | [], _ => by simp [csum, prJs]
 | x :: l, h => by
  have h1 := csum_pr d l fun s hs => h s (by simp only [aTexts, List.flatMap_cons] at hs ⊢; exact List.mem_append_right _ hs)
  have h2 := h x.1 (by simp [aTexts])
  have h3 := h x.2 (by simp [aTexts])
  have e : prJs (x :: l) = txJ x.1 :: txJ x.2 :: prJs l := rfl
  rw [e, csum_cons, csum_cons, cost_tx, cost_tx, List.length_cons]; omega
theorem csum_opP (d : Nat) (k : Bs) (l : List K2) (hk : k.length <= 20) (hs : ∀ s ∈ aTexts l, s.length <= 4000) : csum (d + 1) (opP k l) <= 400 + l.length * 96122 := by
 unfold opP
 split
 ·rw [csum_nil]; omega
 ·have h1 := csum_two (d + 1) k (paJ l) hk
  have h2 := csum_pr d l hs
  have h3 : cost (d + 1) (paJ l) = 60 + csum d (prJs l) := by rw [cost_succ]; rfl
  omega
theorem cost_pl (d : Nat) {x : PfL} (h : ∀ s ∈ pTexts [x], s.length <= 4000) (hl : (pTexts [x]).length <= 60) : cost (d + 2) (plJ x) <= 7000000 := by
 have hm : ∀ s, s ∈ [x.1.os, x.1.arch, x.1.ver, x.1.var] ++ x.2.2 ++ x.2.1 -> s.length <= 4000 := fun s hs => h s (by simp only [pTexts, List.flatMap_cons, List.flatMap_nil, List.append_nil]; exact hs)
 have hl1 : x.2.1.length <= 60 /\ x.2.2.length <= 60 := by
  simp only [pTexts, List.flatMap_cons, List.flatMap_nil, List.append_nil, List.length_append, List.length_cons, List.length_nil] at hl
  omega
 have e : cost (d + 2) (plJ x) = 60 + csum (d + 1) (plK x) := by rw [cost_succ]; rfl
 have a1 := csum_two (d + 1) [97, 114, 99, 104, 105, 116, 101, 99, 116, 117, 114, 101] (txJ x.1.arch) (by decide)
 have a2 := csum_two (d + 1) [111, 115] (txJ x.1.os) (by decide)
 have a3 := csum_opJ (d + 1) [111, 115, 46, 118, 101, 114, 115, 105, 111, 110] x.1.ver (by decide) (hm _ (by simp))
 have a4 := csum_opL d [111, 115, 46, 102, 101, 97, 116, 117, 114, 101, 115] x.2.1 (by decide) fun s hs => hm s (by simp [hs])
 have a5 := csum_opJ (d + 1) [118, 97, 114, 105, 97, 110, 116] x.1.var (by decide) (hm _ (by simp))
 have a6 := csum_opL d [102, 101, 97, 116, 117, 114, 101, 115] x.2.2 (by decide) fun s hs => hm s (by simp [hs])
 have b1 := hm x.1.arch (by simp)
 have b2 := hm x.1.os (by simp)
 rw [cost_tx] at a1 a2
 rw [e]
 unfold plK
 simp only [csum_append, csum_nil]
 omega
theorem cost_ds (d : Nat) {x : Ds} (h : goodD x) : cost (d + 3) (dsJ x) <= 30000000 := by
 obtain ⟨g1, g2, g3, g4, g5, g6, g7, g8⟩ := h
 have hm : ∀ s ∈ dTexts x, s.length <= 4000 := fun s hs => (g8 s hs).2
 have hpt : csum (d + 2) (ptK x.plats) <= 7000400 := by
  cases hp : x.plats with
  | nil => unfold ptK; rw [csum_nil]; omega
  | cons y r =>
   have hr : r = [] := by
    rw [hp, List.length_cons] at g3
    exact List.eq_nil_of_length_eq_zero (by omega)
   subst hr
   have hsub : ∀ s ∈ pTexts [y], s ∈ dTexts x := fun s hs => by unfold dTexts; rw [hp]; exact List.mem_append_right _ hs
   have hlen : (pTexts [y]).length <= 60 := by
    have := g7
    unfold dTexts at this
    rw [List.length_append, hp] at this; omega
   have h1 := cost_pl d (fun s hs => hm s (hsub s hs)) hlen
   have h2 := csum_two (d + 2) [112, 108, 97, 116, 102, 111, 114, 109] (plJ y) (by decide)
   show csum (d + 2) [txJ [112, 108, 97, 116, 102, 111, 114, 109], plJ y] <= 7000400
   omega
 have e : cost (d + 3) (dsJ x) = 60 + csum (d + 2) (dsK x) := by rw [cost_succ]; rfl
 have hb : (b64 x.data).length <= 4000 := by rw [b64_len]; omega
 have hn := numT_len x.size
 have ht := hTell_len g1
 have a1 := csum_two (d + 2) [109, 101, 100, 105, 97, 84, 121, 112, 101] (txJ x.media) (by decide)
 have a2 := csum_two (d + 2) [115, 105, 122, 101] (nuJ x.size) (by decide)
 have a3 := csum_two (d + 2) [100, 105, 103, 101, 115, 116] (txJ (hTell x.dig)) (by decide)
 have a4 := csum_opJ (d + 2) [100, 97, 116, 97] (b64 x.data) (by decide) hb
 have a5 : csum (d + 2) (opL [117, 114, 108, 115] x.urls) <= 400 + x.urls.length * 48061 := csum_opL (d + 1) [117, 114, 108, 115] x.urls (by decide) fun s hs => hm s (by simp [dTexts, hs])
 have a6 : csum (d + 2) (opP [97, 110, 110, 111, 116, 97, 116, 105, 111, 110, 115] x.anns) <= 400 + x.anns.length * 96122 := csum_opP (d + 1) [97, 110, 110, 111, 116, 97, 116, 105, 111, 110, 115] x.anns (by decide) fun s hs => hm s (by simp [dTexts, hs])
 have a7 := csum_opJ (d + 2) [97, 114, 116, 105, 102, 97, 99, 116, 84, 121, 112, 101] x.art (by decide) (hm _ (by simp [dTexts]))
 have b1 := hm x.media (by simp [dTexts])
 rw [cost_tx] at a1 a3
 have e2 : cost (d + 2) (nuJ x.size) = 12 * (numT x.size).length + 60 := cost_nu _ _
 rw [e2] at a2
 rw [e]
 unfold dsK
 simp only [csum_append, csum_nil]
 omega
theorem cost_mf {m : Mf} (A : Option Addr) (h : goodM m) : cost 6 (mfJ m (nkO A)) <= 34359738368 := by
 obtain ⟨g1, g2, g3, g4, g5, g6, g7⟩ := h
 have hm : ∀ s ∈ aTexts m.anns ++ [m.media, m.art], s.length <= 4000 := fun s hs => (g7 s hs).2
 have hal := aTexts_len m.anns
 rw [List.length_append] at g6
 have hla : cost 5 (laJ m.lays (nkO A)) <= 400000000 := by
  have e : cost 5 (laJ m.lays (nkO A)) = 12 * (nkO A).2.length + 60 + csum 4 (m.lays.map dsJ) := rfl
  have h1 := csum_le 4 30000000 (m.lays.map dsJ) fun x hx => by
   obtain ⟨y, hy, rfl⟩ := List.mem_map.1 hx
   exact cost_ds 1 (g1 y (by simp [hy]))
  rw [List.length_map] at h1
  have h2 : (nkO A).2.length <= 4 := by
   cases A with
   | none => decide
   | some a => exact Nat.zero_le 4
  omega
 have hmi : csum 5 (miK m (nkO A)) <= 500000000 := by
  unfold miK
  cases hi : m.idx with
  | true =>
   have := csum_two 5 [109, 97, 110, 105, 102, 101, 115, 116, 115] (laJ m.lays (nkO A)) (by decide)
   simp only [if_true]; omega
  | false =>
   have h1 := csum_two 5 [108, 97, 121, 101, 114, 115] (laJ m.lays (nkO A)) (by decide)
   have h2 := csum_two 5 [99, 111, 110, 102, 105, 103] (dsJ m.cfg) (by decide)
   have h3 : cost 5 (dsJ m.cfg) <= 30000000 := cost_ds 2 (g2 hi)
   simp only [Bool.false_eq_true, if_false, csum_append]; omega
 have hsb : csum 5 (sbK m.subj) <= 30001000 := by
  cases hp : m.subj with
  | nil => unfold sbK; rw [csum_nil]; omega
  | cons y r =>
   have h1 := csum_two 5 [115, 117, 98, 106, 101, 99, 116] (dsJ y) (by decide)
   have h2 : cost 5 (dsJ y) <= 30000000 := cost_ds 2 (g1 y (by rw [hp]; simp))
   show csum 5 [txJ [115, 117, 98, 106, 101, 99, 116], dsJ y] <= 30001000
   omega
 have e : cost 6 (mfJ m (nkO A)) = 60 + csum 5 (mfK m (nkO A)) := by rw [cost_succ]; rfl
 have a1 := csum_two 5 [115, 99, 104, 101, 109, 97, 86, 101, 114, 115, 105, 111, 110] (nuJ m.ver) (by decide)
 have e2 : cost 5 (nuJ m.ver) = 12 * (numT m.ver).length + 60 := cost_nu _ _
 have hn := numT_len m.ver
 rw [e2] at a1
 have a2 := csum_opJ 5 [109, 101, 100, 105, 97, 84, 121, 112, 101] m.media (by decide) (hm _ (by simp))
 have a3 : csum 5 (opP [97, 110, 110, 111, 116, 97, 116, 105, 111, 110, 115] m.anns) <= 400 + m.anns.length * 96122 := csum_opP 4 [97, 110, 110, 111, 116, 97, 116, 105, 111, 110, 115] m.anns (by decide) fun s hs => hm s (by simp [hs])
 have a4 := csum_opJ 5 [97, 114, 116, 105, 102, 97, 99, 116, 84, 121, 112, 101] m.art (by decide) (hm _ (by simp))
 rw [e]
 unfold mfK
 simp only [csum_append, csum_nil]
 omega
end Go.V
namespace Go.V
open Go.Proofs.Tryz
open Go.RowKit
set_option maxRecDepth 10000
attribute [local irreducible] Run Ops
theorem jnW_sum (sep : Nat -> UInt8) : ∀ (i : Nat) (l : List Bs), (jnW sep i l).length <= sumL l
 | i, [] => Nat.zero_le _
 | i, t :: l => by
  have := jnW_sum sep (i + 1) l
  rw [jnW]
  simp only [sumL, List.map_cons, List.sum_cons, List.length_append] at this ⊢
  split
  ·simp only [List.length_nil]; omega
  ·simp only [List.length_singleton]; omega
theorem quoT_le {s : Bs} (h : GoodT s) : (quoT s).length <= 6 * s.length + 2 := by
 obtain ⟨rs, rfl, hg⟩ := h
 have h1 := flat_len rs hg
 have h2 := encs_len_geM rs
 unfold quoT quo
 rw [runesOf_encs hg]
 simp only [List.length_append, List.length_cons, List.length_nil]; omega
theorem jwr_sum {d : Nat} (hv : ∀ j : Js, Wrt d j -> (jwr d j).length <= cost d j) : ∀ l : List Js, (∀ x ∈ l, Wrt d x) -> sumL (l.map (jwr d)) <= csum d l
 | [], _ => Nat.zero_le _
 | x :: l, h => by
  have h1 := jwr_sum hv l fun y hy => h y (by simp [hy])
  have h2 := hv x (h x (by simp))
  rw [csum_cons]
  simp only [sumL, List.map_cons, List.sum_cons] at h1 ⊢
  omega
theorem jwr_le : ∀ (d : Nat) (j : Js), Wrt d j -> (jwr d j).length <= cost d j
 | 0, j, h => h.elim
 | d + 1, j, h => by
  rw [cost_succ]
  unfold Wrt at h
  unfold jwr
  by_cases h1 : j.kind = 115
  ·rw [if_pos h1] at h ⊢
   have := quoT_le h
   omega
  rw [if_neg h1] at h ⊢
  by_cases h2 : j.kind = 108
  ·rw [if_pos (.inl h2)] at h
   rw [if_pos h2]
   have a := jnW_sum sepL 0 (j.kids.map (jwr d))
   have b := jwr_sum (jwr_le d) j.kids h
   simp only [List.length_append, List.length_cons, List.length_nil]; omega
  rw [if_neg h2]
  by_cases h3 : j.kind = 111
  ·rw [if_pos (.inr h3)] at h
   rw [if_pos h3]
   have a := jnW_sum sepO 0 (j.kids.map (jwr d))
   have b := jwr_sum (jwr_le d) j.kids h
   simp only [List.length_append, List.length_cons, List.length_nil]; omega
  rw [if_neg h3]; omega
def Al (R : Js -> Prop) (l : List Js) : Prop := ∀ x ∈ l, R x
theorem al_nil {R : Js -> Prop} : Al R [] := fun x h => by cases h
theorem am {R : Js -> Prop} {a b : List Js} (h : Al R a) (k : Al R b) : Al R (a ++ b) := fun x hx => (List.mem_append.1 hx).elim (h x) (k x)
theorem al_two {R : Js -> Prop} {a b : Js} (h : R a) (k : R b) : Al R [a, b] := fun x hx => by
 simp only [List.mem_cons, List.not_mem_nil, or_false] at hx
 rcases hx with rfl | rfl
 ·exact h
 ·exact k
theorem wr_tx (d : Nat) {s : Bs} (h : GoodT s) : Wrt (d + 1) (txJ s) := by
 unfold Wrt
 rw [if_pos (show (txJ s).kind = 115 from rfl)]; exact h
theorem wr_n (d : Nat) {t : Bs} {k : List Js} : Wrt (d + 1) (.mk 110 t k) := by
 unfold Wrt
 rw [if_neg (show (Js.mk 110 t k).kind ≠ 115 from (by decide : (110 : UInt8) ≠ 115)), if_neg (show ¬ ((Js.mk 110 t k).kind = 108 \/ (Js.mk 110 t k).kind = 111) from (by decide : ¬ ((110 : UInt8) = 108 \/ (110 : UInt8) = 111)))]
 trivial
theorem wr_li (d : Nat) {t : Bs} {l : List Js} (h : Al (Wrt d) l) : Wrt (d + 1) (.mk 108 t l) := by
 unfold Wrt
 rw [if_neg (show (Js.mk 108 t l).kind ≠ 115 from (by decide : (108 : UInt8) ≠ 115)), if_pos (.inl (show (Js.mk 108 t l).kind = 108 from rfl))]
 exact h
theorem wr_ob (d : Nat) {t : Bs} {l : List Js} (h : Al (Wrt d) l) : Wrt (d + 1) (.mk 111 t l) := by
 unfold Wrt
 rw [if_neg (show (Js.mk 111 t l).kind ≠ 115 from (by decide : (111 : UInt8) ≠ 115)), if_pos (.inr (show (Js.mk 111 t l).kind = 111 from rfl))]
 exact h
theorem wr_key (d : Nat) {k : Bs} {v : Js} (hk : ∀ c ∈ k, c.toNat < 128) (h : Wrt (d + 1) v) : Al (Wrt (d + 1)) [txJ k, v] := al_two (wr_tx d (goodT_asc hk)) h
theorem wr_ls (d : Nat) {l : List Bs} (h : ∀ s ∈ l, GoodT s) : Wrt (d + 2) (lsJ l) := wr_li _ fun x hx => by
 obtain ⟨s, hs, rfl⟩ := List.mem_map.1 hx
 exact wr_tx d (h s hs)
theorem wr_pa (d : Nat) : ∀ {l : List K2}, (∀ s ∈ aTexts l, GoodT s) -> Al (Wrt (d + 1)) (prJs l)
 | [], _ => al_nil
 | x :: l, h => am (a := [txJ x.1, txJ x.2]) (al_two (wr_tx d (h x.1 (by simp [aTexts]))) (wr_tx d (h x.2 (by simp [aTexts])))) (wr_pa d fun s hs => h s (by simp only [aTexts, List.flatMap_cons] at hs ⊢; exact List.mem_append_right _ hs))
theorem wr_opJ (d : Nat) {k s : Bs} (hk : ∀ c ∈ k, c.toNat < 128) (hs : GoodT s) : Al (Wrt (d + 1)) (opJ k s) := by
 unfold opJ
 split
 ·exact al_nil
 ·exact wr_key d hk (wr_tx d hs)
theorem wr_opL (d : Nat) {k : Bs} {l : List Bs} (hk : ∀ c ∈ k, c.toNat < 128) (hs : ∀ s ∈ l, GoodT s) : Al (Wrt (d + 2)) (opL k l) := by
 unfold opL
 split
 ·exact al_nil
 ·exact wr_key _ hk (wr_ls d hs)
theorem wr_opP (d : Nat) {k : Bs} {l : List K2} (hk : ∀ c ∈ k, c.toNat < 128) (hs : ∀ s ∈ aTexts l, GoodT s) : Al (Wrt (d + 2)) (opP k l) := by
 unfold opP
 split
 ·exact al_nil
 ·exact wr_key _ hk (wr_ob _ (wr_pa d hs))
theorem wr_pl (d : Nat) {x : PfL} (h : ∀ s ∈ pTexts [x], goodS s) : Al (Wrt (d + 2)) (plK x) := by
 have hm : ∀ s, s ∈ [x.1.os, x.1.arch, x.1.ver, x.1.var] ++ x.2.2 ++ x.2.1 -> GoodT s := fun s hs => (h s (by simp only [pTexts, List.flatMap_cons, List.flatMap_nil, List.append_nil]; exact hs)).t
 unfold plK
 exact am (am (am (am (am (am al_nil (wr_key _ (by decide) (wr_tx _ (hm _ (by simp))))) (wr_key _ (by decide) (wr_tx _ (hm _ (by simp))))) (wr_opJ _ (by decide) (hm _ (by simp)))) (wr_opL d (by decide) fun s hs => hm s (by simp [hs]))) (wr_opJ _ (by decide) (hm _ (by simp)))) (wr_opL d (by decide) fun s hs => hm s (by simp [hs]))
theorem wr_ds (d : Nat) {x : Ds} (h : goodD x) : Wrt (d + 4) (dsJ x) := by
 obtain ⟨g1, g2, g3, g4, g5, g6, g7, g8⟩ := h
 have hm : ∀ s ∈ dTexts x, GoodT s := fun s hs => (g8 s hs).t
 have hpt : Al (Wrt (d + 3)) (ptK x.plats) := by
  cases hp : x.plats with
  | nil => exact al_nil
  | cons y r =>
   refine wr_key _ (by decide) (wr_ob _ (wr_pl d fun s hs => g8 s ?_))
   unfold dTexts
   rw [hp]
   refine List.mem_append_right _ ?_
   simp only [pTexts, List.flatMap_cons, List.flatMap_nil, List.append_nil] at hs ⊢
   exact List.mem_append_left _ hs
 refine wr_ob _ ?_
 unfold dsK
 exact am (am (am (am (am (am (am (am al_nil (wr_key _ (by decide) (wr_tx _ (hm _ (by simp [dTexts]))))) (wr_key _ (by decide) (wr_n _))) (wr_key _ (by decide) (wr_tx _ (goodT_asc (hTell_asc g1))))) (wr_opJ _ (by decide) (b64_goodT _)))
  (wr_opL _ (by decide) fun s hs => hm s (by simp [dTexts, hs]))) (wr_opP _ (by decide) fun s hs => hm s (by simp [dTexts, hs]))) hpt) (wr_opJ _ (by decide) (hm _ (by simp [dTexts])))
theorem wr_mf {m : Mf} (A : Option Addr) (h : goodM m) : Wrt 6 (mfJ m (nkO A)) := by
 obtain ⟨g1, g2, g3, g4, g5, g6, g7⟩ := h
 have hm : ∀ s ∈ aTexts m.anns ++ [m.media, m.art], GoodT s := fun s hs => (g7 s hs).t
 have hla : Wrt 5 (laJ m.lays (nkO A)) := by
  cases A with
  | none => exact wr_n _
  | some a =>
   refine wr_li _ fun x hx => ?_
   obtain ⟨y, hy, rfl⟩ := List.mem_map.1 hx
   exact wr_ds 0 (g1 y (by simp [hy]))
 have hmi : Al (Wrt 5) (miK m (nkO A)) := by
  unfold miK
  cases hi : m.idx with
  | true => exact wr_key _ (by decide) hla
  | false => exact am (wr_key _ (by decide) (wr_ds 1 (g2 hi))) (wr_key _ (by decide) hla)
 have hsb : Al (Wrt 5) (sbK m.subj) := by
  cases hp : m.subj with
  | nil => exact al_nil
  | cons y r => exact wr_key _ (by decide) (wr_ds 1 (g1 y (by rw [hp]; simp)))
 refine wr_ob _ ?_
 unfold mfK
 exact am (am (am (am (am (am al_nil (wr_key _ (by decide) (wr_n _))) (wr_opJ _ (by decide) (hm _ (by simp)))) hmi) (wr_opP _ (by decide) fun s hs => hm s (by simp [hs]))) hsb) (wr_opJ _ (by decide) (hm _ (by simp)))
def toldT (m : Mf) (A : Option Addr) : Bs := jwr 6 (mfJ m (nkO A))
theorem toldT_len {m : Mf} (A : Option Addr) (h : goodM m) : (toldT m A).length <= 34359738368 := Nat.le_trans (jwr_le 6 _ (wr_mf A h)) (cost_mf A h)
theorem laws_told (I : Imm) (m : Mf) (A1 : Option Addr) (n1 c1 : Nat) (A2 : Option Addr) (n2 c2 : Nat) (A3 : Option Addr) (n3 c3 : Nat) (A4 : Option Addr) (n4 c4 : Nat) (A5 : Option Addr) (n5 c5 : Nat) (A6 : Option Addr) (n6 c6 : Nat)
  (hL : MfL I m (.slice A1 n1 c1) (.slice A2 n2 c2) (.slice A3 n3 c3) (.slice A4 n4 c4) (.slice A5 n5 c5) (.slice A6 n6 c6)) (hok : okM m) (hg : goodM m) :
  Pure prog 10 [.agg (m.cs (.slice A1 n1 c1) (.slice A2 n2 c2) (.slice A3 n3 c3) (.slice A4 n4 c4) (.slice A5 n5 c5) (.slice A6 n6 c6)).toArray] I fun w J => w = str (toldT m A4) := by
 refine Spec.enter 6 [(0, _)] func10 rfl ntmps10 (by simp) rfl ?_
 intro C hCf hR hCI
 refine rS ?_; refine Run.region ?_
 refine Ops.box rfl dc rfl rfl (fun b1 => ?_)
 repeat (first | refine rS ?_ | refine Run.region ?_ | refine Ops.nil ?_ | refine oP rfl ?_ | refine Ops.loadN 0 rfl (by decide) rfl rfl (T.aggOk rfl) (T.sizeOk rfl) rfl rfl ?_)
 refine Ops.call ((spec_ManifestJson 0 I m _ _ _ _ _ _ _ _ _ _ _ _ _ _ _ _ _ _ hL hok)) rfl dc call8 rfl ?_
 rintro _ J1 l1 ⟨vk, rfl, hvk⟩
 refine Ops.call ((spec_Write 6 J1 _ (mfJ m (nkO A4)) ⟨vk, rfl, hvk⟩ (wr_mf A4 hg) (toldT_len A4 hg))) rfl dc call28 rfl ?_
 rintro _ J2 l2 rfl
 repeat (first | refine Ops.nil ?_ | refine oP rfl ?_)
 refine Run.fin (Run.ret1 (by rw [hCf]; exact func10) results10 rfl (hR _ _ _ ?_))
 exact ⟨rfl, rfl⟩
end Go.V
