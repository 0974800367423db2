import Derived.Test.YtbalfblfkfbejaaGreatDoorWM13
import Derived.Test.YtbalfblfkfbejaaGreatDoorWM8
import Derived.Test.YtbalfblfkfbejaaGreatDoorWM4
import Derived.Test.YtbalfblfkfbejaaGreatDoorWM2
namespace Go.V
open Go.Proofs.Tryz
open Go.RowKit
set_option linter.unusedVariables false
set_option linter.unusedSimpArgs false
set_option maxRecDepth 10000
attribute [local irreducible] Run Ops
def Cf.vs (c : Cf) (t : TV) (H D F : SlV) : List Value := [str c.arch, str c.author, str c.cont] ++ tmC c.created ++ [str c.dver, H.v, str c.os, str c.rty, D.v] ++ c.st.ts t ++ [str c.osv, str c.var, F.v]
def tVH : Ty Hi := ⟨7, fun _ cs x => cs = x.vs, fun h => by subst h; rfl, fun h _ => h⟩
def nSl : SlV := ⟨none, 0, 0⟩
theorem perm3 {x y z u v : Nat × Obj} (M : Own) : (M ++ [x, y, z, u, v]).Perm (y :: z :: x :: u :: v :: M) :=
  (List.perm_append_comm (l₁ := M) (l₂ := [x, y, z, u, v])).trans ((List.Perm.swap y x _).trans (List.Perm.cons y (List.Perm.swap z x _)))
theorem permB {x : Own} (M N : Own) : (x ++ (M ++ N)).Perm (N ++ (x ++ M)) := by
  rw [← List.append_assoc]
  exact List.perm_append_comm
theorem perm4 {x y z u v : Nat × Obj} (N M : Own) : (M ++ ([x, y, z, u, v] ++ N)).Perm (y :: z :: x :: u :: v :: (N ++ M)) := by
  have h := perm3 (x := x) (y := y) (z := z) (u := u) (v := v) (N ++ M)
  refine List.Perm.trans ?_ h
  refine List.perm_append_comm.trans ?_
  rw [List.append_assoc]
  exact List.perm_append_comm.trans (by rw [List.append_assoc])
set_option maxHeartbeats 8000000 in
theorem ConfigFile_to (I : Imm) (c : Cf) (v : CV) (hL : CfL I c v) (hfit : fitCf c) : Pure prog 66 [.agg (c.cs v).toArray] I fun w J => ∃ t H D F, w = .agg (c.vs t H D F).toArray ∧ Sl tStr J (SlV.v F) c.feat := by
  obtain ⟨h1, h2, h3, h4⟩ := hL
  obtain ⟨arch, author, cont, dver, os, osv, var, created, hist, rty, diffs, st, feat⟩ := c
  obtain ⟨⟨A1, n1, z1⟩, ⟨A2, n2, z2⟩, sv, fv⟩ := v
  simp only at h1 h2 h3 h4
  replace h1 : Sl tHi I (.slice A1 n1 z1) hist := h1
  replace h2 : Sl tK2 I (.slice A2 n2 z2) diffs := h2
  obtain ⟨-, ⟨f1, -⟩, ⟨f2, -⟩, f3, f4, -⟩ := hfit
  simp only at f1 f2 f3 f4
  obtain ⟨_, _, e1⟩ := h1.isSl
  cases e1
  obtain ⟨_, _, e2⟩ := h2.isSl
  cases e2
  refine Spec.enter 79 [(0, _)] func66 rfl ntmps66 (by simp) rfl ?_
  intro C hCf hR hCI
  repeat (first | refine Run.seq ?_ | refine Run.region ?_)
  refine Ops.box rfl (by decide) rfl rfl (fun b => ?_)
  refine Ops.alloc rfl (by decide) (T.zeroOk rfl) rfl (fun b2 => ?_)
  repeat (first | refine Run.seq ?_ | refine Ops.nil ?_)
  refine Run.piece (fun env' L' I' => ∃ (b3 : Nat) (t : TV) (F : SlV), env' = [(1, .pointer (some ⟨b, 0, none⟩)), (2, .pointer (some ⟨b2, 0, none⟩)), (3, .pointer (some ⟨b3, 0, none⟩))] ∧ L' = [(b3, blk ((Cf.mk arch author cont dver os osv var created hist rty diffs st feat).vs t nSl nSl F) 107), (b2, blk (cfB []) 107), (b, blk ((Cf.mk arch author cont dver os osv var created hist rty diffs st feat).cs ⟨⟨A1, hist.length, z1⟩, ⟨A2, diffs.length, z2⟩, sv, fv⟩) 30)] ∧ Sl tStr I' F.v feat ∧ Le I I') ?_ ?_
  · intro k' fin
    refine Run.regionAny (Holds I [(b2, blk (cfB []) 107), (b, blk ((Cf.mk arch author cont dver os osv var created hist rty diffs st feat).cs ⟨⟨A1, hist.length, z1⟩, ⟨A2, diffs.length, z2⟩, sv, fv⟩) 30)]) (bl 29 0) (by kernel_rfl) (by kernel_rfl) ?_
    refine RAny.tk 0 (bl 29 1) rfl (by kernel_rfl) (by decide) (fun W h => h.holds (Le.refl _) (by first | exact mp rfl | exact mq rfl)) (Yld.eval T rfl rfl) ?_
    first | refine RAny.tk 1 (bl 29 3) rfl (by kernel_rfl) (by decide) (fun W h => h.holds (Le.refl _) (by first | exact mp rfl | exact mq rfl)) (Yld.load 0 T rfl rfl rfl rfl rfl) ?_ | refine RAny.tk 1 (bl 29 3) rfl (by kernel_rfl) (by decide) (fun W h => h.holds (Le.refl _) (by first | exact mp rfl | exact mq rfl)) (Yld.load 1 T rfl rfl rfl rfl rfl) ?_ | refine RAny.tk 1 (bl 29 3) rfl (by kernel_rfl) (by decide) (fun W h => h.holds (Le.refl _) (by first | exact mp rfl | exact mq rfl)) (Yld.load 2 T rfl rfl rfl rfl rfl) ?_
    refine RAny.tk 2 (bl 29 7) rfl (by kernel_rfl) (by decide) (fun W h => h.holds (Le.refl _) (by first | exact mp rfl | exact mq rfl)) (Yld.eval T rfl rfl) ?_
    first | refine RAny.tk 3 (bl 29 15) rfl (by kernel_rfl) (by decide) (fun W h => h.holds (Le.refl _) (by first | exact mp rfl | exact mq rfl)) (Yld.load 0 T rfl rfl rfl rfl rfl) ?_ | refine RAny.tk 3 (bl 29 15) rfl (by kernel_rfl) (by decide) (fun W h => h.holds (Le.refl _) (by first | exact mp rfl | exact mq rfl)) (Yld.load 1 T rfl rfl rfl rfl rfl) ?_ | refine RAny.tk 3 (bl 29 15) rfl (by kernel_rfl) (by decide) (fun W h => h.holds (Le.refl _) (by first | exact mp rfl | exact mq rfl)) (Yld.load 2 T rfl rfl rfl rfl rfl) ?_
    refine RAny.tk 4 (bl 29 31) rfl (by kernel_rfl) (by decide) (fun W h => h.holds (Le.refl _) (by first | exact mp rfl | exact mq rfl)) (Yld.eval T rfl rfl) ?_
    first | refine RAny.tk 5 (bl 29 63) rfl (by kernel_rfl) (by decide) (fun W h => h.holds (Le.refl _) (by first | exact mp rfl | exact mq rfl)) (Yld.load 0 T rfl rfl rfl rfl rfl) ?_ | refine RAny.tk 5 (bl 29 63) rfl (by kernel_rfl) (by decide) (fun W h => h.holds (Le.refl _) (by first | exact mp rfl | exact mq rfl)) (Yld.load 1 T rfl rfl rfl rfl rfl) ?_ | refine RAny.tk 5 (bl 29 63) rfl (by kernel_rfl) (by decide) (fun W h => h.holds (Le.refl _) (by first | exact mp rfl | exact mq rfl)) (Yld.load 2 T rfl rfl rfl rfl rfl) ?_
    refine RAny.tk 6 (bl 29 127) rfl (by kernel_rfl) (by decide) (fun W h => h.holds (Le.refl _) (by first | exact mp rfl | exact mq rfl)) (Yld.eval T rfl rfl) ?_
    first | refine RAny.tk 7 (bl 29 255) rfl (by kernel_rfl) (by decide) (fun W h => h.holds (Le.refl _) (by first | exact mp rfl | exact mq rfl)) (Yld.load 0 T rfl rfl rfl rfl rfl) ?_ | refine RAny.tk 7 (bl 29 255) rfl (by kernel_rfl) (by decide) (fun W h => h.holds (Le.refl _) (by first | exact mp rfl | exact mq rfl)) (Yld.load 1 T rfl rfl rfl rfl rfl) ?_ | refine RAny.tk 7 (bl 29 255) rfl (by kernel_rfl) (by decide) (fun W h => h.holds (Le.refl _) (by first | exact mp rfl | exact mq rfl)) (Yld.load 2 T rfl rfl rfl rfl rfl) ?_
    refine RAny.tk 8 (bl 29 511) rfl (by kernel_rfl) (by decide) (fun W h => h.holds (Le.refl _) (by first | exact mp rfl | exact mq rfl)) (Yld.eval T rfl rfl) ?_
    first | refine RAny.tk 9 (bl 29 1023) rfl (by kernel_rfl) (by decide) (fun W h => h.holds (Le.refl _) (by first | exact mp rfl | exact mq rfl)) (Yld.load 0 T rfl rfl rfl rfl rfl) ?_ | refine RAny.tk 9 (bl 29 1023) rfl (by kernel_rfl) (by decide) (fun W h => h.holds (Le.refl _) (by first | exact mp rfl | exact mq rfl)) (Yld.load 1 T rfl rfl rfl rfl rfl) ?_ | refine RAny.tk 9 (bl 29 1023) rfl (by kernel_rfl) (by decide) (fun W h => h.holds (Le.refl _) (by first | exact mp rfl | exact mq rfl)) (Yld.load 2 T rfl rfl rfl rfl rfl) ?_
    refine RAny.tk 10 (bl 29 2047) rfl (by kernel_rfl) (by decide) (fun W h => h.holds (Le.refl _) (by first | exact mp rfl | exact mq rfl)) (Yld.eval T rfl rfl) ?_
    first | refine RAny.tk 11 (bl 29 4095) rfl (by kernel_rfl) (by decide) (fun W h => h.holds (Le.refl _) (by first | exact mp rfl | exact mq rfl)) (Yld.load 0 T rfl rfl rfl rfl rfl) ?_ | refine RAny.tk 11 (bl 29 4095) rfl (by kernel_rfl) (by decide) (fun W h => h.holds (Le.refl _) (by first | exact mp rfl | exact mq rfl)) (Yld.load 1 T rfl rfl rfl rfl rfl) ?_ | refine RAny.tk 11 (bl 29 4095) rfl (by kernel_rfl) (by decide) (fun W h => h.holds (Le.refl _) (by first | exact mp rfl | exact mq rfl)) (Yld.load 2 T rfl rfl rfl rfl rfl) ?_
    refine RAny.tk 12 (bl 29 8191) rfl (by kernel_rfl) (by decide) (fun W h => h.holds (Le.refl _) (by first | exact mp rfl | exact mq rfl)) (Yld.eval T rfl rfl) ?_
    first | refine RAny.tk 13 (bl 29 16383) rfl (by kernel_rfl) (by decide) (fun W h => h.holds (Le.refl _) (by first | exact mp rfl | exact mq rfl)) (Yld.load 0 T rfl rfl rfl rfl rfl) ?_ | refine RAny.tk 13 (bl 29 16383) rfl (by kernel_rfl) (by decide) (fun W h => h.holds (Le.refl _) (by first | exact mp rfl | exact mq rfl)) (Yld.load 1 T rfl rfl rfl rfl rfl) ?_ | refine RAny.tk 13 (bl 29 16383) rfl (by kernel_rfl) (by decide) (fun W h => h.holds (Le.refl _) (by first | exact mp rfl | exact mq rfl)) (Yld.load 2 T rfl rfl rfl rfl rfl) ?_
    refine RAny.tk 14 (bl 29 32767) rfl (by kernel_rfl) (by decide) (fun W h => h.holds (Le.refl _) (by first | exact mp rfl | exact mq rfl)) (Yld.eval T rfl rfl) ?_
    first | refine RAny.tk 15 (bl 29 65535) rfl (by kernel_rfl) (by decide) (fun W h => h.holds (Le.refl _) (by first | exact mp rfl | exact mq rfl)) (Yld.load 0 T rfl rfl rfl rfl rfl) ?_ | refine RAny.tk 15 (bl 29 65535) rfl (by kernel_rfl) (by decide) (fun W h => h.holds (Le.refl _) (by first | exact mp rfl | exact mq rfl)) (Yld.load 1 T rfl rfl rfl rfl rfl) ?_ | refine RAny.tk 15 (bl 29 65535) rfl (by kernel_rfl) (by decide) (fun W h => h.holds (Le.refl _) (by first | exact mp rfl | exact mq rfl)) (Yld.load 2 T rfl rfl rfl rfl rfl) ?_
    refine RAny.tk 17 (bl 29 196607) rfl (by kernel_rfl) (by decide) (fun W h => h.holds (Le.refl _) (by first | exact mp rfl | exact mq rfl)) (Yld.eval T rfl rfl) ?_
    first | refine RAny.tk 18 (bl 29 458751) rfl (by kernel_rfl) (by decide) (fun W h => h.holds (Le.refl _) (by first | exact mp rfl | exact mq rfl)) (Yld.load 0 T rfl rfl rfl rfl rfl) ?_ | refine RAny.tk 18 (bl 29 458751) rfl (by kernel_rfl) (by decide) (fun W h => h.holds (Le.refl _) (by first | exact mp rfl | exact mq rfl)) (Yld.load 1 T rfl rfl rfl rfl rfl) ?_ | refine RAny.tk 18 (bl 29 458751) rfl (by kernel_rfl) (by decide) (fun W h => h.holds (Le.refl _) (by first | exact mp rfl | exact mq rfl)) (Yld.load 2 T rfl rfl rfl rfl rfl) ?_
    refine RAny.tk 20 (bl 29 1507327) rfl (by kernel_rfl) (by decide) (fun W h => h.holds (Le.refl _) (by first | exact mp rfl | exact mq rfl)) (Yld.eval T rfl rfl) ?_
    first | refine RAny.tk 21 (bl 29 3604479) rfl (by kernel_rfl) (by decide) (fun W h => h.holds (Le.refl _) (by first | exact mp rfl | exact mq rfl)) (Yld.loadN 0 T rfl rfl rfl rfl rfl rfl rfl) ?_ | refine RAny.tk 21 (bl 29 3604479) rfl (by kernel_rfl) (by decide) (fun W h => h.holds (Le.refl _) (by first | exact mp rfl | exact mq rfl)) (Yld.loadN 1 T rfl rfl rfl rfl rfl rfl rfl) ?_ | refine RAny.tk 21 (bl 29 3604479) rfl (by kernel_rfl) (by decide) (fun W h => h.holds (Le.refl _) (by first | exact mp rfl | exact mq rfl)) (Yld.loadN 2 T rfl rfl rfl rfl rfl rfl rfl) ?_
    refine RAny.tk 23 (bl 29 11993087) rfl (by kernel_rfl) (by decide) (fun W h => h.holds (Le.refl _) (by first | exact mp rfl | exact mq rfl)) (Yld.eval T rfl rfl) ?_
    first | refine RAny.tk 24 (bl 29 28770303) rfl (by kernel_rfl) (by decide) (fun W h => h.holds (Le.refl _) (by first | exact mp rfl | exact mq rfl)) (Yld.load 0 T rfl rfl rfl rfl rfl) ?_ | refine RAny.tk 24 (bl 29 28770303) rfl (by kernel_rfl) (by decide) (fun W h => h.holds (Le.refl _) (by first | exact mp rfl | exact mq rfl)) (Yld.load 1 T rfl rfl rfl rfl rfl) ?_ | refine RAny.tk 24 (bl 29 28770303) rfl (by kernel_rfl) (by decide) (fun W h => h.holds (Le.refl _) (by first | exact mp rfl | exact mq rfl)) (Yld.load 2 T rfl rfl rfl rfl rfl) ?_
    refine RAny.tk 19 (bl 29 29294591) rfl (by kernel_rfl) (by decide) (fun W h => h.holds (Le.refl _) (by first | exact mp rfl | exact mq rfl)) (Yld.buildL (cs := [str rty, nilS]) bd100 rfl rfl (by kernel_rfl)) ?_
    refine RAny.two 16 27 (bl 29 29360127) (bl 29 163512319) rfl rfl (by kernel_rfl) rfl rfl (by decide) (by decide) (Eff.call (impl_timeTo I created) call106 rfl fun x1 J1 l1 hx1 => ⟨fun W h => h.holds l1 (fun _ h => h), ?_⟩) (Eff.alloc (T.zeroOk rfl) rfl fun b3 => ⟨fun W h => h.holds (Le.refl _) (fun _ h => .tail _ h), ?_⟩)
    skip
    · skip
      skip
      have m1 := l1
      subst hx1
      refine RAny.two 22 27 (bl 29 33554431) (bl 29 163577855) rfl rfl (by kernel_rfl) rfl rfl (by decide) (by decide) (Eff.call (Settings_to J1 st sv (h3.mono m1) f3) call107 rfl fun x2 J2 l2 hx2 => ⟨fun W h => h.holds (m1.trans l2) (fun _ h => h), ?_⟩) (Eff.alloc (T.zeroOk rfl) rfl fun b3 => ⟨fun W h => h.holds m1 (fun _ h => .tail _ h), ?_⟩)
      skip
      · skip
        skip
        have m2 := m1.trans l2
        obtain ⟨t, rfl⟩ := hx2
        refine RAny.two 25 27 (bl 29 67108863) (bl 29 167772159) rfl rfl (by kernel_rfl) rfl rfl (by decide) (by decide) (Eff.call (impl_copied J2 feat _ (h4.mono m2) f4) call108 rfl fun x3 J3 l3 hx3 => ⟨fun W h => h.holds (m2.trans l3) (fun _ h => h), ?_⟩) (Eff.alloc (T.zeroOk rfl) rfl fun b3 => ⟨fun W h => h.holds m2 (fun _ h => .tail _ h), ?_⟩)
        skip
        · skip
          skip
          have m3 := m2.trans l3
          obtain ⟨A5, z5, e5⟩ := hx3.isSl
          subst e5
          skip
          refine RAny.tk 26 (bl 29 134217727) rfl (by kernel_rfl) (by decide) (fun W h => h.holds m3 (by first | exact mp rfl | exact mq rfl)) (Yld.buildL (cs := [str arch, str author, str cont] ++ tmC created ++ [str dver, nilS, str os, str rty, nilS] ++ st.ts t ++ [str osv, str var, .slice A5 feat.length z5]) bd107 rfl rfl (by kernel_rfl)) ?_
          refine RAny.on 27 (bl 29 268435455) rfl (by kernel_rfl) rfl (by decide) (Eff.alloc (T.zeroOk rfl) rfl fun b3 => ⟨fun W h => h.holds m3 (fun _ h => .tail _ h), ?_⟩)
          refine RAny.os 28 (bl 29 536870911) rfl (by kernel_rfl) rfl (Eff.store 0 rfl rfl rfl rfl (T.sizeOk rfl) rfl (Nat.le_of_ble_eq_true rfl) rfl rfl ⟨fun W h => h.holds m3 (fun _ h => .tail _ h), ?_⟩)
          refine RAny.done _ (by kernel_rfl) ?_
          refine Run.keep [1, 2, 3] [_, _, _] rfl ?_
          exact fin _ _ _ ⟨b3, t, ⟨A5, feat.length, z5⟩, rfl, rfl, hx3, m3⟩
        · skip
          skip
          skip
          refine RAny.on 25 (bl 29 201326591) rfl (by kernel_rfl) rfl (by decide) (Eff.call (impl_copied J2 feat _ (h4.mono m2) f4) call108 rfl fun x3 J3 l3 hx3 => ⟨fun W h => h.holds (m2.trans l3) (fun _ h => .tail _ h), ?_⟩)
          have m3 := m2.trans l3
          obtain ⟨A5, z5, e5⟩ := hx3.isSl
          subst e5
          skip
          refine RAny.tk 26 (bl 29 268435455) rfl (by kernel_rfl) (by decide) (fun W h => h.holds m3 (by first | exact mp rfl | exact mq rfl)) (Yld.buildL (cs := [str arch, str author, str cont] ++ tmC created ++ [str dver, nilS, str os, str rty, nilS] ++ st.ts t ++ [str osv, str var, .slice A5 feat.length z5]) bd107 rfl rfl (by kernel_rfl)) ?_
          refine RAny.os 28 (bl 29 536870911) rfl (by kernel_rfl) rfl (Eff.store 0 rfl rfl rfl rfl (T.sizeOk rfl) rfl (Nat.le_of_ble_eq_true rfl) rfl rfl ⟨fun W h => h.holds m3 (fun _ h => .tail _ h), ?_⟩)
          refine RAny.done _ (by kernel_rfl) ?_
          refine Run.keep [1, 2, 3] [_, _, _] rfl ?_
          exact fin _ _ _ ⟨b3, t, ⟨A5, feat.length, z5⟩, rfl, rfl, hx3, m3⟩
      · skip
        skip
        skip
        refine RAny.on 22 (bl 29 167772159) rfl (by kernel_rfl) rfl (by decide) (Eff.call (Settings_to J1 st sv (h3.mono m1) f3) call107 rfl fun x2 J2 l2 hx2 => ⟨fun W h => h.holds (m1.trans l2) (fun _ h => .tail _ h), ?_⟩)
        have m2 := m1.trans l2
        obtain ⟨t, rfl⟩ := hx2
        refine RAny.on 25 (bl 29 201326591) rfl (by kernel_rfl) rfl (by decide) (Eff.call (impl_copied J2 feat _ (h4.mono m2) f4) call108 rfl fun x3 J3 l3 hx3 => ⟨fun W h => h.holds (m2.trans l3) (fun _ h => .tail _ h), ?_⟩)
        have m3 := m2.trans l3
        obtain ⟨A5, z5, e5⟩ := hx3.isSl
        subst e5
        skip
        refine RAny.tk 26 (bl 29 268435455) rfl (by kernel_rfl) (by decide) (fun W h => h.holds m3 (by first | exact mp rfl | exact mq rfl)) (Yld.buildL (cs := [str arch, str author, str cont] ++ tmC created ++ [str dver, nilS, str os, str rty, nilS] ++ st.ts t ++ [str osv, str var, .slice A5 feat.length z5]) bd107 rfl rfl (by kernel_rfl)) ?_
        refine RAny.os 28 (bl 29 536870911) rfl (by kernel_rfl) rfl (Eff.store 0 rfl rfl rfl rfl (T.sizeOk rfl) rfl (Nat.le_of_ble_eq_true rfl) rfl rfl ⟨fun W h => h.holds m3 (fun _ h => .tail _ h), ?_⟩)
        refine RAny.done _ (by kernel_rfl) ?_
        refine Run.keep [1, 2, 3] [_, _, _] rfl ?_
        exact fin _ _ _ ⟨b3, t, ⟨A5, feat.length, z5⟩, rfl, rfl, hx3, m3⟩
    · skip
      skip
      skip
      refine RAny.on 16 (bl 29 163577855) rfl (by kernel_rfl) rfl (by decide) (Eff.call (impl_timeTo I created) call106 rfl fun x1 J1 l1 hx1 => ⟨fun W h => h.holds l1 (fun _ h => .tail _ h), ?_⟩)
      have m1 := l1
      subst hx1
      refine RAny.on 22 (bl 29 167772159) rfl (by kernel_rfl) rfl (by decide) (Eff.call (Settings_to J1 st sv (h3.mono m1) f3) call107 rfl fun x2 J2 l2 hx2 => ⟨fun W h => h.holds (m1.trans l2) (fun _ h => .tail _ h), ?_⟩)
      have m2 := m1.trans l2
      obtain ⟨t, rfl⟩ := hx2
      refine RAny.on 25 (bl 29 201326591) rfl (by kernel_rfl) rfl (by decide) (Eff.call (impl_copied J2 feat _ (h4.mono m2) f4) call108 rfl fun x3 J3 l3 hx3 => ⟨fun W h => h.holds (m2.trans l3) (fun _ h => .tail _ h), ?_⟩)
      have m3 := m2.trans l3
      obtain ⟨A5, z5, e5⟩ := hx3.isSl
      subst e5
      skip
      refine RAny.tk 26 (bl 29 268435455) rfl (by kernel_rfl) (by decide) (fun W h => h.holds m3 (by first | exact mp rfl | exact mq rfl)) (Yld.buildL (cs := [str arch, str author, str cont] ++ tmC created ++ [str dver, nilS, str os, str rty, nilS] ++ st.ts t ++ [str osv, str var, .slice A5 feat.length z5]) bd107 rfl rfl (by kernel_rfl)) ?_
      refine RAny.os 28 (bl 29 536870911) rfl (by kernel_rfl) rfl (Eff.store 0 rfl rfl rfl rfl (T.sizeOk rfl) rfl (Nat.le_of_ble_eq_true rfl) rfl rfl ⟨fun W h => h.holds m3 (fun _ h => .tail _ h), ?_⟩)
      refine RAny.done _ (by kernel_rfl) ?_
      refine Run.keep [1, 2, 3] [_, _, _] rfl ?_
      exact fin _ _ _ ⟨b3, t, ⟨A5, feat.length, z5⟩, rfl, rfl, hx3, m3⟩
  rintro env L J ⟨b3, t, F, rfl, rfl, hF, hle⟩
  repeat (first | refine Run.seq ?_ | refine Run.region ?_ | refine Ops.nil ?_ | refine Ops.neqNil T rfl (by decide) rfl rfl rfl rfl rfl ?_ | refine Ops.pure T rfl (by decide) rfl ?_ | refine Ops.load 2 rfl (by decide) rfl rfl (T.aggOk rfl) rfl ?_)
  refine Run.merge (fun env' L' I' => ∃ (H : SlV) (M : Own), env' = [(1, .pointer (some ⟨b, 0, none⟩)), (2, .pointer (some ⟨b2, 0, none⟩)), (3, .pointer (some ⟨b3, 0, none⟩))] ∧ L' = (b3, blk ((Cf.mk arch author cont dver os osv var created hist rty diffs st feat).vs t H nSl F) 107) :: (b2, blk (cfB []) 107) :: (b, blk ((Cf.mk arch author cont dver os osv var created hist rty diffs st feat).cs ⟨⟨A1, hist.length, z1⟩, ⟨A2, diffs.length, z2⟩, sv, fv⟩) 30) :: M ∧ Gr tVH I' 164 H.v [] M ∧ I' = J) rfl ?_ ?_ ?_
  · intro q1 k' fin
    repeat (first | refine Run.region ?_)
    refine Ops.lit T rfl rfl rfl (by decide) rfl (by decide) (by decide) rfl rfl rfl rfl rfl (fun b8 => ?_)
    repeat (first | refine Ops.nil ?_ | refine Ops.pure T rfl (by decide) rfl ?_ | refine Ops.store 1 rfl rfl rfl rfl rfl (T.sizeOk rfl) rfl (Nat.le_of_ble_eq_true rfl) rfl rfl ?_)
    refine Run.perm (L' := [_, _, _] ++ [_]) (List.perm_append_comm (l₁ := [_]) (l₂ := [_, _, _])) ?_
    refine Run.keep [1, 2, 3] [_, _, _] rfl ?_
    exact fin _ _ _ ⟨⟨some ⟨b8, 0, none⟩, 0, 0⟩, _, rfl, rfl, Gr.lit0 tVH J _ b8, rfl⟩
  · intro q1 k' fin
    repeat (first | refine Run.skip ?_)
    refine Run.keep [1, 2, 3] [_, _, _] rfl ?_
    exact fin _ _ _ ⟨nSl, [], rfl, rfl, Gr.nil tVH J _, rfl⟩
  rintro env L J0 ⟨H, M, rfl, rfl, hG, rfl⟩
  repeat (first | refine Run.seq ?_ | refine Run.region ?_ | refine Ops.nil ?_ | refine Run.block ?_ | refine Ops.pure T rfl (by decide) rfl ?_ | refine Ops.load 2 rfl (by decide) rfl rfl (T.aggOk rfl) rfl ?_)
  refine Run.keep [1, 2, 3, 41, 42, 43] [_, _, _, _, _, _] rfl ?_
  refine Run.rounds (fun m env L J1 => ∃ (i : Nat) (H : SlV) (M : Own), m = hist.length - i ∧ i ≤ hist.length ∧ Gr tVH J1 164 H.v (hist.take i) M ∧ env = [(1, .pointer (some ⟨b, 0, none⟩)), (2, .pointer (some ⟨b2, 0, none⟩)), (3, .pointer (some ⟨b3, 0, none⟩)), (41, .slice A1 hist.length z1), (42, .int .i64 hist.length), (43, .int .i64 i)] ∧ L = (b3, blk ((Cf.mk arch author cont dver os osv var created hist rty diffs st feat).vs t H nSl F) 107) :: (b2, blk (cfB []) 107) :: (b, blk ((Cf.mk arch author cont dver os osv var created hist rty diffs st feat).cs ⟨⟨A1, hist.length, z1⟩, ⟨A2, diffs.length, z2⟩, sv, fv⟩) 30) :: M ∧ Le J0 J1) hist.length ⟨0, H, M, by omega, by omega, by simpa using hG, rfl, rfl, Le.refl _⟩ ?_
  clear hG
  rintro m env L J1 ⟨i, ⟨A3, n3, z3⟩, M, rfl, hi, hG, rfl, rfl, hle1⟩ ih
  replace hG : Gr tVH J1 164 (.slice A3 n3 z3) (hist.take i) M := hG
  repeat (first | refine Run.seq ?_ | refine Run.region ?_ | refine Ops.nil ?_ | refine Ops.lss rfl (by decide) rfl rfl ?_)
  refine Run.cond rfl rfl (fun h => ?_) (fun h => ?_)
  all_goals (try rw [h])
  all_goals (try simp only [decide_eq_true_eq, decide_eq_false_iff_not, Bool.not_eq_true', Bool.not_eq_false', Bool.and_eq_true, Bool.or_eq_true, Bool.and_eq_false_imp, Bool.or_eq_false_iff] at h)
  · skip
    repeat (first | refine Run.seq ?_ | refine Run.region ?_ | refine Run.skip ?_ | refine Run.block ?_)
    refine Ops.indexSl (h1.mono (hle.trans hle1)) rfl (by decide) rfl rfl (T.undOk rfl) (T.sizeOk rfl) (by omega) (by omega) ?_
    rintro b_ off_ x cs_ hx hr_ hA_
    obtain rfl : cs_ = x.cs := hr_
    rw [Int.toNat_natCast] at hx
    refine Ops.loadIN rfl (by decide) rfl (hA_) (T.aggOk rfl) (T.sizeOk rfl) rfl ?_
    refine Ops.alloc rfl (by decide) (T.zeroOk rfl) rfl (fun b5 => ?_)
    repeat (first | refine Ops.nil ?_ | refine Ops.store 0 rfl rfl rfl rfl rfl (T.sizeOk rfl) rfl (Nat.le_of_ble_eq_true rfl) rfl rfl ?_)
    have hln : (hist.take i).length = i := by rw [List.length_take]; omega
    refine Run.regionAny (Holds J1 [(b5, blk x.cs 76)]) (bl 8 0) (by kernel_rfl) (by kernel_rfl) ?_
    refine RAny.tk 0 (bl 8 1) rfl (by kernel_rfl) (by decide) (fun W h => h.holds (Le.refl _) (by first | exact mp rfl | exact mq rfl)) (Yld.eval T rfl rfl) ?_
    first | refine RAny.tk 2 (bl 8 5) rfl (by kernel_rfl) (by decide) (fun W h => h.holds (Le.refl _) (by first | exact mp rfl | exact mq rfl)) (Yld.loadN 0 T rfl rfl rfl rfl rfl rfl rfl) ?_ | refine RAny.tk 2 (bl 8 5) rfl (by kernel_rfl) (by decide) (fun W h => h.holds (Le.refl _) (by first | exact mp rfl | exact mq rfl)) (Yld.loadN 1 T rfl rfl rfl rfl rfl rfl rfl) ?_ | refine RAny.tk 2 (bl 8 5) rfl (by kernel_rfl) (by decide) (fun W h => h.holds (Le.refl _) (by first | exact mp rfl | exact mq rfl)) (Yld.loadN 2 T rfl rfl rfl rfl rfl rfl rfl) ?_
    refine RAny.two 1 3 (bl 8 7) (bl 8 13) rfl rfl (by kernel_rfl) rfl rfl (by decide) (by decide) (Eff.yv (Yv.load 1 T rfl rfl rfl rfl) ⟨fun W h => h.holds (Le.refl _) (fun _ h => by rcases List.mem_singleton.1 h with rfl; exact .head _), ?_⟩) (Eff.call (History_to J1 x) call109 rfl fun y1 J2 l2 hy1 => ⟨fun W h => h.holds l2 (fun _ h => by rcases List.mem_singleton.1 h with rfl; exact .head _), ?_⟩)
    skip
    · skip
      skip
      refine RAny.on 3 (bl 8 15) rfl (by kernel_rfl) rfl (by decide) (Eff.call (History_to J1 x) call109 rfl fun y1 J2 l2 hy1 => ⟨fun W h => h.holds l2 (fun _ h => by rcases List.mem_singleton.1 h with rfl; exact .head _), ?_⟩)
      subst hy1
      replace hG := hG.mono l2
      skip
      refine RAny.on 4 (bl 8 31) rfl (by kernel_rfl) rfl (by decide) (Eff.lit T rfl rfl rfl (by decide) (by decide) rfl rfl rfl rfl rfl fun bq => ⟨fun W h => h.holds l2 (fun _ h => by rcases List.mem_singleton.1 h with rfl; exact .tail _ (.head _)), ?_⟩)
      refine RAny.on 5 (bl 8 63) rfl (by kernel_rfl) rfl (by decide) (Eff.appOneP (t := tVH) (b := bq) (M := M) (N := [_, _, _, _, _]) el97 hG (show tVH.rel _ x.vs x from rfl) rfl rfl (List.perm_append_comm (l₁ := [_, _, _, _, _]) (l₂ := M)) List.mem_cons_self rfl (by omega) (by omega) fun v2 M2 hG2 => ⟨fun W h => h.holds l2 (fun _ h => by rcases List.mem_singleton.1 h with rfl; exact List.mem_append_right _ (.tail _ (.head _))), ?_⟩)
      obtain ⟨A4, z4, rfl⟩ := hG2.isSl
      refine RAny.perm (L' := (b5, _) :: (b3, _) :: (bq, _) :: (b2, _) :: (b, _) :: (M2)) (perm3 M2) ?_
      refine RAny.tk 6 (bl 8 127) rfl (by kernel_rfl) (by decide) (fun W h => h.holds l2 (by first | exact mp rfl | exact mq rfl)) (Yld.eval T rfl rfl) ?_
      refine RAny.os 7 (bl 8 255) rfl (by kernel_rfl) rfl (Eff.store 1 rfl rfl rfl rfl (T.sizeOk rfl) rfl (Nat.le_of_ble_eq_true rfl) rfl rfl ⟨fun W h => h.holds l2 (fun _ h => by rcases List.mem_singleton.1 h with rfl; exact .head _), ?_⟩)
      refine RAny.done _ (by kernel_rfl) ?_
      repeat (first | refine Run.region ?_ | refine Ops.nil ?_ | refine Run.inBlock ?_ | refine Ops.add rfl (by decide) rfl rfl (wI (by first | omega | (simp only [List.length_cons, List.length_nil] ; omega) | (simp; omega)) (by first | omega | (simp only [List.length_cons, List.length_nil] ; omega) | (simp; omega))) ?_ | refine Ops.pure T rfl (by decide) rfl ?_)
      refine Run.dropL (L' := (b3, _) :: (b2, _) :: (b, _) :: (M2)) (List.Sublist.cons _ (List.Sublist.cons_cons _ (List.Sublist.cons _ (List.Sublist.refl _)))) ?_
      refine Run.keep [1, 2, 3, 41, 42, 43] [_, _, _, _, _, _] rfl ?_
      refine ih (hist.length - (i + 1)) _ _ _ (by omega) ⟨i + 1, ⟨A4, _, z4⟩, M2, rfl, by omega, (by rw [List.take_add_one, hx]; exact hG2), rfl, rfl, hle1.trans l2⟩
    · skip
      skip
      skip
      subst hy1
      replace hG := hG.mono l2
      skip
      refine RAny.two 1 4 (bl 8 15) (bl 8 29) rfl rfl (by kernel_rfl) rfl rfl (by decide) (by decide) (Eff.yv (Yv.load 1 T rfl rfl rfl rfl) ⟨fun W h => h.holds l2 (fun _ h => by rcases List.mem_singleton.1 h with rfl; exact .head _), ?_⟩) (Eff.lit T rfl rfl rfl (by decide) (by decide) rfl rfl rfl rfl rfl fun bq => ⟨fun W h => h.holds l2 (fun _ h => by rcases List.mem_singleton.1 h with rfl; exact .tail _ (.head _)), ?_⟩)
      skip
      · skip
        skip
        refine RAny.on 4 (bl 8 31) rfl (by kernel_rfl) rfl (by decide) (Eff.lit T rfl rfl rfl (by decide) (by decide) rfl rfl rfl rfl rfl fun bq => ⟨fun W h => h.holds l2 (fun _ h => by rcases List.mem_singleton.1 h with rfl; exact .tail _ (.head _)), ?_⟩)
        refine RAny.on 5 (bl 8 63) rfl (by kernel_rfl) rfl (by decide) (Eff.appOneP (t := tVH) (b := bq) (M := M) (N := [_, _, _, _, _]) el97 hG (show tVH.rel _ x.vs x from rfl) rfl rfl (List.perm_append_comm (l₁ := [_, _, _, _, _]) (l₂ := M)) List.mem_cons_self rfl (by omega) (by omega) fun v2 M2 hG2 => ⟨fun W h => h.holds l2 (fun _ h => by rcases List.mem_singleton.1 h with rfl; exact List.mem_append_right _ (.tail _ (.head _))), ?_⟩)
        obtain ⟨A4, z4, rfl⟩ := hG2.isSl
        refine RAny.perm (L' := (b5, _) :: (b3, _) :: (bq, _) :: (b2, _) :: (b, _) :: (M2)) (perm3 M2) ?_
        refine RAny.tk 6 (bl 8 127) rfl (by kernel_rfl) (by decide) (fun W h => h.holds l2 (by first | exact mp rfl | exact mq rfl)) (Yld.eval T rfl rfl) ?_
        refine RAny.os 7 (bl 8 255) rfl (by kernel_rfl) rfl (Eff.store 1 rfl rfl rfl rfl (T.sizeOk rfl) rfl (Nat.le_of_ble_eq_true rfl) rfl rfl ⟨fun W h => h.holds l2 (fun _ h => by rcases List.mem_singleton.1 h with rfl; exact .head _), ?_⟩)
        refine RAny.done _ (by kernel_rfl) ?_
        repeat (first | refine Run.region ?_ | refine Ops.nil ?_ | refine Run.inBlock ?_ | refine Ops.add rfl (by decide) rfl rfl (wI (by first | omega | (simp only [List.length_cons, List.length_nil] ; omega) | (simp; omega)) (by first | omega | (simp only [List.length_cons, List.length_nil] ; omega) | (simp; omega))) ?_ | refine Ops.pure T rfl (by decide) rfl ?_)
        refine Run.dropL (L' := (b3, _) :: (b2, _) :: (b, _) :: (M2)) (List.Sublist.cons _ (List.Sublist.cons_cons _ (List.Sublist.cons _ (List.Sublist.refl _)))) ?_
        refine Run.keep [1, 2, 3, 41, 42, 43] [_, _, _, _, _, _] rfl ?_
        refine ih (hist.length - (i + 1)) _ _ _ (by omega) ⟨i + 1, ⟨A4, _, z4⟩, M2, rfl, by omega, (by rw [List.take_add_one, hx]; exact hG2), rfl, rfl, hle1.trans l2⟩
      · skip
        skip
        skip
        refine RAny.on 1 (bl 8 31) rfl (by kernel_rfl) rfl (by decide) (Eff.yv (Yv.load 2 T rfl rfl rfl rfl) ⟨fun W h => h.holds l2 (fun _ h => by rcases List.mem_singleton.1 h with rfl; exact .tail _ (.head _)), ?_⟩)
        refine RAny.on 5 (bl 8 63) rfl (by kernel_rfl) rfl (by decide) (Eff.appOneP (t := tVH) (b := bq) (M := M) (N := [_, _, _, _, _]) el97 hG (show tVH.rel _ x.vs x from rfl) rfl rfl (List.perm_append_comm (l₁ := [_, _, _, _, _]) (l₂ := M)) List.mem_cons_self rfl (by omega) (by omega) fun v2 M2 hG2 => ⟨fun W h => h.holds l2 (fun _ h => by rcases List.mem_singleton.1 h with rfl; exact List.mem_append_right _ (.tail _ (.head _))), ?_⟩)
        obtain ⟨A4, z4, rfl⟩ := hG2.isSl
        refine RAny.perm (L' := (b5, _) :: (b3, _) :: (bq, _) :: (b2, _) :: (b, _) :: (M2)) (perm3 M2) ?_
        refine RAny.tk 6 (bl 8 127) rfl (by kernel_rfl) (by decide) (fun W h => h.holds l2 (by first | exact mp rfl | exact mq rfl)) (Yld.eval T rfl rfl) ?_
        refine RAny.os 7 (bl 8 255) rfl (by kernel_rfl) rfl (Eff.store 1 rfl rfl rfl rfl (T.sizeOk rfl) rfl (Nat.le_of_ble_eq_true rfl) rfl rfl ⟨fun W h => h.holds l2 (fun _ h => by rcases List.mem_singleton.1 h with rfl; exact .head _), ?_⟩)
        refine RAny.done _ (by kernel_rfl) ?_
        repeat (first | refine Run.region ?_ | refine Ops.nil ?_ | refine Run.inBlock ?_ | refine Ops.add rfl (by decide) rfl rfl (wI (by first | omega | (simp only [List.length_cons, List.length_nil] ; omega) | (simp; omega)) (by first | omega | (simp only [List.length_cons, List.length_nil] ; omega) | (simp; omega))) ?_ | refine Ops.pure T rfl (by decide) rfl ?_)
        refine Run.dropL (L' := (b3, _) :: (b2, _) :: (b, _) :: (M2)) (List.Sublist.cons _ (List.Sublist.cons_cons _ (List.Sublist.cons _ (List.Sublist.refl _)))) ?_
        refine Run.keep [1, 2, 3, 41, 42, 43] [_, _, _, _, _, _] rfl ?_
        refine ih (hist.length - (i + 1)) _ _ _ (by omega) ⟨i + 1, ⟨A4, _, z4⟩, M2, rfl, by omega, (by rw [List.take_add_one, hx]; exact hG2), rfl, rfl, hle1.trans l2⟩
  have hih : i = hist.length := by omega
  subst hih
  clear ih
  rw [List.take_length] at hG
  have hle2 := hle.trans hle1
  have hle0 := hle1
  clear hle1
  repeat (first | refine Run.seq ?_ | refine Run.region ?_ | refine Ops.nil ?_ | refine Run.exit rfl ?_ | refine Ops.neqNil T rfl (by decide) rfl rfl rfl rfl rfl ?_ | refine Ops.pure T rfl (by decide) rfl ?_ | refine Ops.load 2 rfl (by decide) rfl rfl (T.aggOk rfl) rfl ?_)
  refine Run.merge (fun env' L' I' => ∃ (D : SlV) (N : Own), env' = [(1, .pointer (some ⟨b, 0, none⟩)), (2, .pointer (some ⟨b2, 0, none⟩)), (3, .pointer (some ⟨b3, 0, none⟩))] ∧ L' = (b3, blk ((Cf.mk arch author cont dver os osv var created hist rty diffs st feat).vs t ⟨A3, n3, z3⟩ D F) 107) :: (b2, blk (cfB []) 107) :: (b, blk ((Cf.mk arch author cont dver os osv var created hist rty diffs st feat).cs ⟨⟨A1, hist.length, z1⟩, ⟨A2, diffs.length, z2⟩, sv, fv⟩) 30) :: (M ++ N) ∧ Gr tK2 I' 141 D.v [] N ∧ I' = J1) rfl ?_ ?_ ?_
  · intro q1 k' fin
    repeat (first | refine Run.region ?_)
    refine Ops.lit T rfl rfl rfl (by decide) rfl (by decide) (by decide) rfl rfl rfl rfl rfl (fun b8 => ?_)
    repeat (first | refine Ops.nil ?_ | refine Ops.pure T rfl (by decide) rfl ?_ | refine Ops.store 1 rfl rfl rfl rfl rfl (T.sizeOk rfl) rfl (Nat.le_of_ble_eq_true rfl) rfl rfl ?_)
    refine Run.perm (L' := ([_, _, _] ++ M) ++ [_]) (List.perm_append_comm (l₁ := [_]) (l₂ := [_, _, _] ++ M)) ?_
    refine Run.keep [1, 2, 3] [_, _, _] rfl ?_
    exact fin _ _ _ ⟨⟨some ⟨b8, 0, none⟩, 0, 0⟩, [_], rfl, rfl, Gr.lit0 tK2 J1 _ b8, rfl⟩
  · intro q1 k' fin
    repeat (first | refine Run.skip ?_)
    refine Run.keep [1, 2, 3] [_, _, _] rfl ?_
    exact fin _ _ _ ⟨nSl, [], rfl, by rw [List.append_nil], Gr.nil tK2 J1 _, rfl⟩
  clear hG
  rintro env L J3 ⟨D, N, rfl, rfl, hG, rfl⟩
  repeat (first | refine Run.seq ?_ | refine Run.region ?_ | refine Ops.nil ?_ | refine Run.block ?_ | refine Ops.pure T rfl (by decide) rfl ?_ | refine Ops.load 2 rfl (by decide) rfl rfl (T.aggOk rfl) rfl ?_)
  refine Run.keep [1, 2, 3, 62, 63, 64] [_, _, _, _, _, _] rfl ?_
  refine Run.rounds (fun m env L J1 => ∃ (i : Nat) (D : SlV) (N : Own), m = diffs.length - i ∧ i ≤ diffs.length ∧ Gr tK2 J1 141 D.v (diffs.take i) N ∧ env = [(1, .pointer (some ⟨b, 0, none⟩)), (2, .pointer (some ⟨b2, 0, none⟩)), (3, .pointer (some ⟨b3, 0, none⟩)), (62, .slice A2 diffs.length z2), (63, .int .i64 diffs.length), (64, .int .i64 i)] ∧ L = (b3, blk ((Cf.mk arch author cont dver os osv var created hist rty diffs st feat).vs t ⟨A3, n3, z3⟩ D F) 107) :: (b2, blk (cfB []) 107) :: (b, blk ((Cf.mk arch author cont dver os osv var created hist rty diffs st feat).cs ⟨⟨A1, hist.length, z1⟩, ⟨A2, diffs.length, z2⟩, sv, fv⟩) 30) :: (M ++ N) ∧ Le J3 J1) diffs.length ⟨0, D, N, by omega, by omega, by simpa using hG, rfl, rfl, Le.refl _⟩ ?_
  clear hG
  rintro m env L J1 ⟨i, ⟨A6, n6, z6⟩, N, rfl, hi, hG, rfl, rfl, hle1⟩ ih
  replace hG : Gr tK2 J1 141 (.slice A6 n6 z6) (diffs.take i) N := hG
  repeat (first | refine Run.seq ?_ | refine Run.region ?_ | refine Ops.nil ?_ | refine Ops.lss rfl (by decide) rfl rfl ?_)
  refine Run.cond rfl rfl (fun h => ?_) (fun h => ?_)
  all_goals (try rw [h])
  all_goals (try simp only [decide_eq_true_eq, decide_eq_false_iff_not, Bool.not_eq_true', Bool.not_eq_false', Bool.and_eq_true, Bool.or_eq_true, Bool.and_eq_false_imp, Bool.or_eq_false_iff] at h)
  · skip
    repeat (first | refine Run.seq ?_ | refine Run.region ?_ | refine Run.skip ?_ | refine Run.block ?_)
    refine Ops.indexSl (h2.mono (hle2.trans hle1)) rfl (by decide) rfl rfl (T.undOk rfl) (T.sizeOk rfl) (by omega) (by omega) ?_
    rintro b_ off_ x cs_ hx hr_ hA_
    obtain rfl : cs_ = [str x.1, str x.2] := hr_
    rw [Int.toNat_natCast] at hx
    refine Ops.loadIN rfl (by decide) rfl (hA_) (T.aggOk rfl) (T.sizeOk rfl) rfl ?_
    refine Ops.alloc rfl (by decide) (T.zeroOk rfl) rfl (fun b5 => ?_)
    repeat (first | refine Ops.nil ?_ | refine Ops.store 0 rfl rfl rfl rfl rfl (T.sizeOk rfl) rfl (Nat.le_of_ble_eq_true rfl) rfl rfl ?_)
    have hln : (diffs.take i).length = i := by rw [List.length_take]; omega
    refine Run.regionAny (Holds J1 [(b5, blk [str x.1, str x.2] 44)]) (bl 10 0) (by kernel_rfl) (by kernel_rfl) ?_
    refine RAny.tk 0 (bl 10 1) rfl (by kernel_rfl) (by decide) (fun W h => h.holds (Le.refl _) (by first | exact mp rfl | exact mq rfl)) (Yld.eval T rfl rfl) ?_
    refine RAny.tk 1 (bl 10 3) rfl (by kernel_rfl) (by decide) (fun W h => h.holds (Le.refl _) (by first | exact mp rfl | exact mq rfl)) (Yld.eval T rfl rfl) ?_
    first | refine RAny.tk 3 (bl 10 11) rfl (by kernel_rfl) (by decide) (fun W h => h.holds (Le.refl _) (by first | exact mp rfl | exact mq rfl)) (Yld.loadN 0 T rfl rfl rfl rfl rfl rfl rfl) ?_ | refine RAny.tk 3 (bl 10 11) rfl (by kernel_rfl) (by decide) (fun W h => h.holds (Le.refl _) (by first | exact mp rfl | exact mq rfl)) (Yld.loadN 1 T rfl rfl rfl rfl rfl rfl rfl) ?_ | refine RAny.tk 3 (bl 10 11) rfl (by kernel_rfl) (by decide) (fun W h => h.holds (Le.refl _) (by first | exact mp rfl | exact mq rfl)) (Yld.loadN 2 T rfl rfl rfl rfl rfl rfl rfl) ?_
    refine RAny.two 2 4 (bl 10 15) (bl 10 27) rfl rfl (by kernel_rfl) rfl rfl (by decide) (by decide) (Eff.yv (Yv.load 1 T rfl rfl rfl rfl) ⟨fun W h => h.holds (Le.refl _) (fun _ h => by rcases List.mem_singleton.1 h with rfl; exact .head _), ?_⟩) (Eff.call (Hash_to J1 x) call110 rfl fun y1 J2 l2 hy1 => ⟨fun W h => h.holds l2 (fun _ h => by rcases List.mem_singleton.1 h with rfl; exact .head _), ?_⟩)
    skip
    · skip
      skip
      refine RAny.on 4 (bl 10 31) rfl (by kernel_rfl) rfl (by decide) (Eff.call (Hash_to J1 x) call110 rfl fun y1 J2 l2 hy1 => ⟨fun W h => h.holds l2 (fun _ h => by rcases List.mem_singleton.1 h with rfl; exact .head _), ?_⟩)
      subst hy1
      replace hG := hG.mono l2
      skip
      refine RAny.on 5 (bl 10 63) rfl (by kernel_rfl) rfl (by decide) (Eff.lit T rfl rfl rfl (by decide) (by decide) rfl rfl rfl rfl rfl fun bq => ⟨fun W h => h.holds l2 (fun _ h => by rcases List.mem_singleton.1 h with rfl; exact .tail _ (.head _)), ?_⟩)
      refine RAny.on 6 (bl 10 127) rfl (by kernel_rfl) rfl (by decide) (Eff.appOneP (t := tK2) (b := bq) (M := N) (N := [_, _, _, _, _] ++ M) el98 hG (show tK2.rel _ [str x.1, str x.2] x from rfl) rfl rfl (permB (x := [_, _, _, _, _]) M N) List.mem_cons_self rfl (by omega) (by omega) fun v2 M2 hG2 => ⟨fun W h => h.holds l2 (fun _ h => by rcases List.mem_singleton.1 h with rfl; exact List.mem_append_right _ (.tail _ (.head _))), ?_⟩)
      obtain ⟨A4, z4, rfl⟩ := hG2.isSl
      refine RAny.perm (L' := (b5, _) :: (b3, _) :: (bq, _) :: (b2, _) :: (b, _) :: (M ++ M2)) (perm4 M M2) ?_
      refine RAny.tk 7 (bl 10 255) rfl (by kernel_rfl) (by decide) (fun W h => h.holds l2 (by first | exact mp rfl | exact mq rfl)) (Yld.eval T rfl rfl) ?_
      refine RAny.tk 8 (bl 10 511) rfl (by kernel_rfl) (by decide) (fun W h => h.holds l2 (by first | exact mp rfl | exact mq rfl)) (Yld.eval T rfl rfl) ?_
      refine RAny.os 9 (bl 10 1023) rfl (by kernel_rfl) rfl (Eff.store 1 rfl rfl rfl rfl (T.sizeOk rfl) rfl (Nat.le_of_ble_eq_true rfl) rfl rfl ⟨fun W h => h.holds l2 (fun _ h => by rcases List.mem_singleton.1 h with rfl; exact .head _), ?_⟩)
      refine RAny.done _ (by kernel_rfl) ?_
      repeat (first | refine Run.region ?_ | refine Ops.nil ?_ | refine Run.inBlock ?_ | refine Ops.add rfl (by decide) rfl rfl (wI (by first | omega | (simp only [List.length_cons, List.length_nil] ; omega) | (simp; omega)) (by first | omega | (simp only [List.length_cons, List.length_nil] ; omega) | (simp; omega))) ?_ | refine Ops.pure T rfl (by decide) rfl ?_)
      refine Run.dropL (L' := (b3, _) :: (b2, _) :: (b, _) :: (M ++ M2)) (List.Sublist.cons _ (List.Sublist.cons_cons _ (List.Sublist.cons _ (List.Sublist.refl _)))) ?_
      refine Run.keep [1, 2, 3, 62, 63, 64] [_, _, _, _, _, _] rfl ?_
      refine ih (diffs.length - (i + 1)) _ _ _ (by omega) ⟨i + 1, ⟨A4, _, z4⟩, M2, rfl, by omega, (by rw [List.take_add_one, hx]; exact hG2), rfl, rfl, hle1.trans l2⟩
    · skip
      skip
      skip
      subst hy1
      replace hG := hG.mono l2
      skip
      refine RAny.two 2 5 (bl 10 31) (bl 10 59) rfl rfl (by kernel_rfl) rfl rfl (by decide) (by decide) (Eff.yv (Yv.load 1 T rfl rfl rfl rfl) ⟨fun W h => h.holds l2 (fun _ h => by rcases List.mem_singleton.1 h with rfl; exact .head _), ?_⟩) (Eff.lit T rfl rfl rfl (by decide) (by decide) rfl rfl rfl rfl rfl fun bq => ⟨fun W h => h.holds l2 (fun _ h => by rcases List.mem_singleton.1 h with rfl; exact .tail _ (.head _)), ?_⟩)
      skip
      · skip
        skip
        refine RAny.on 5 (bl 10 63) rfl (by kernel_rfl) rfl (by decide) (Eff.lit T rfl rfl rfl (by decide) (by decide) rfl rfl rfl rfl rfl fun bq => ⟨fun W h => h.holds l2 (fun _ h => by rcases List.mem_singleton.1 h with rfl; exact .tail _ (.head _)), ?_⟩)
        refine RAny.on 6 (bl 10 127) rfl (by kernel_rfl) rfl (by decide) (Eff.appOneP (t := tK2) (b := bq) (M := N) (N := [_, _, _, _, _] ++ M) el98 hG (show tK2.rel _ [str x.1, str x.2] x from rfl) rfl rfl (permB (x := [_, _, _, _, _]) M N) List.mem_cons_self rfl (by omega) (by omega) fun v2 M2 hG2 => ⟨fun W h => h.holds l2 (fun _ h => by rcases List.mem_singleton.1 h with rfl; exact List.mem_append_right _ (.tail _ (.head _))), ?_⟩)
        obtain ⟨A4, z4, rfl⟩ := hG2.isSl
        refine RAny.perm (L' := (b5, _) :: (b3, _) :: (bq, _) :: (b2, _) :: (b, _) :: (M ++ M2)) (perm4 M M2) ?_
        refine RAny.tk 7 (bl 10 255) rfl (by kernel_rfl) (by decide) (fun W h => h.holds l2 (by first | exact mp rfl | exact mq rfl)) (Yld.eval T rfl rfl) ?_
        refine RAny.tk 8 (bl 10 511) rfl (by kernel_rfl) (by decide) (fun W h => h.holds l2 (by first | exact mp rfl | exact mq rfl)) (Yld.eval T rfl rfl) ?_
        refine RAny.os 9 (bl 10 1023) rfl (by kernel_rfl) rfl (Eff.store 1 rfl rfl rfl rfl (T.sizeOk rfl) rfl (Nat.le_of_ble_eq_true rfl) rfl rfl ⟨fun W h => h.holds l2 (fun _ h => by rcases List.mem_singleton.1 h with rfl; exact .head _), ?_⟩)
        refine RAny.done _ (by kernel_rfl) ?_
        repeat (first | refine Run.region ?_ | refine Ops.nil ?_ | refine Run.inBlock ?_ | refine Ops.add rfl (by decide) rfl rfl (wI (by first | omega | (simp only [List.length_cons, List.length_nil] ; omega) | (simp; omega)) (by first | omega | (simp only [List.length_cons, List.length_nil] ; omega) | (simp; omega))) ?_ | refine Ops.pure T rfl (by decide) rfl ?_)
        refine Run.dropL (L' := (b3, _) :: (b2, _) :: (b, _) :: (M ++ M2)) (List.Sublist.cons _ (List.Sublist.cons_cons _ (List.Sublist.cons _ (List.Sublist.refl _)))) ?_
        refine Run.keep [1, 2, 3, 62, 63, 64] [_, _, _, _, _, _] rfl ?_
        refine ih (diffs.length - (i + 1)) _ _ _ (by omega) ⟨i + 1, ⟨A4, _, z4⟩, M2, rfl, by omega, (by rw [List.take_add_one, hx]; exact hG2), rfl, rfl, hle1.trans l2⟩
      · skip
        skip
        skip
        refine RAny.on 2 (bl 10 63) rfl (by kernel_rfl) rfl (by decide) (Eff.yv (Yv.load 2 T rfl rfl rfl rfl) ⟨fun W h => h.holds l2 (fun _ h => by rcases List.mem_singleton.1 h with rfl; exact .tail _ (.head _)), ?_⟩)
        refine RAny.on 6 (bl 10 127) rfl (by kernel_rfl) rfl (by decide) (Eff.appOneP (t := tK2) (b := bq) (M := N) (N := [_, _, _, _, _] ++ M) el98 hG (show tK2.rel _ [str x.1, str x.2] x from rfl) rfl rfl (permB (x := [_, _, _, _, _]) M N) List.mem_cons_self rfl (by omega) (by omega) fun v2 M2 hG2 => ⟨fun W h => h.holds l2 (fun _ h => by rcases List.mem_singleton.1 h with rfl; exact List.mem_append_right _ (.tail _ (.head _))), ?_⟩)
        obtain ⟨A4, z4, rfl⟩ := hG2.isSl
        refine RAny.perm (L' := (b5, _) :: (b3, _) :: (bq, _) :: (b2, _) :: (b, _) :: (M ++ M2)) (perm4 M M2) ?_
        refine RAny.tk 7 (bl 10 255) rfl (by kernel_rfl) (by decide) (fun W h => h.holds l2 (by first | exact mp rfl | exact mq rfl)) (Yld.eval T rfl rfl) ?_
        refine RAny.tk 8 (bl 10 511) rfl (by kernel_rfl) (by decide) (fun W h => h.holds l2 (by first | exact mp rfl | exact mq rfl)) (Yld.eval T rfl rfl) ?_
        refine RAny.os 9 (bl 10 1023) rfl (by kernel_rfl) rfl (Eff.store 1 rfl rfl rfl rfl (T.sizeOk rfl) rfl (Nat.le_of_ble_eq_true rfl) rfl rfl ⟨fun W h => h.holds l2 (fun _ h => by rcases List.mem_singleton.1 h with rfl; exact .head _), ?_⟩)
        refine RAny.done _ (by kernel_rfl) ?_
        repeat (first | refine Run.region ?_ | refine Ops.nil ?_ | refine Run.inBlock ?_ | refine Ops.add rfl (by decide) rfl rfl (wI (by first | omega | (simp only [List.length_cons, List.length_nil] ; omega) | (simp; omega)) (by first | omega | (simp only [List.length_cons, List.length_nil] ; omega) | (simp; omega))) ?_ | refine Ops.pure T rfl (by decide) rfl ?_)
        refine Run.dropL (L' := (b3, _) :: (b2, _) :: (b, _) :: (M ++ M2)) (List.Sublist.cons _ (List.Sublist.cons_cons _ (List.Sublist.cons _ (List.Sublist.refl _)))) ?_
        refine Run.keep [1, 2, 3, 62, 63, 64] [_, _, _, _, _, _] rfl ?_
        refine ih (diffs.length - (i + 1)) _ _ _ (by omega) ⟨i + 1, ⟨A4, _, z4⟩, M2, rfl, by omega, (by rw [List.take_add_one, hx]; exact hG2), rfl, rfl, hle1.trans l2⟩
  have hih : i = diffs.length := by omega
  subst hih
  clear ih
  repeat (first | refine Run.seq ?_ | refine Run.region ?_ | refine Ops.nil ?_ | refine Run.exit rfl ?_ | refine Ops.loadN 0 rfl (by decide) rfl rfl (T.aggOk rfl) (T.sizeOk rfl) rfl rfl ?_ | refine Ops.store 1 rfl rfl rfl rfl rfl (T.sizeOk rfl) rfl (Nat.le_of_ble_eq_true rfl) rfl rfl ?_)
  refine Run.retC T 1 (by rw [hCf]; exact func66) results66 rfl rfl rfl rfl rfl rfl (hR _ _ _ ?_)
  exact ⟨rfl, t, _, ⟨A6, n6, z6⟩, F, rfl, (hF.mono hle0).mono hle1⟩
end Go.V
namespace Go.V
open Go.Proofs.Tryz
open Go.RowKit
set_option linter.unusedVariables false
set_option linter.unusedSimpArgs false
set_option maxRecDepth 10000
attribute [local irreducible] Run Ops
def Cf.pf (c : Cf) : Pf := ⟨c.arch, c.os, c.osv, c.var⟩
theorem v1_Platform (I : Imm) (c : Cf) (t : TV) (H D F : SlV) (hF : Sl tStr I F.v c.feat) (b : Nat) :
    Spec prog 67 [.pointer (some ⟨b, 0, none⟩)] I [(b, blk (c.vs t H D F) 107)] fun w J M => (w = .pointer none ∧ c.os = [] ∧ c.arch = []) ∨ ∃ b2 A a z u, F.v = .slice A a z ∧ w = .pointer (some ⟨b2, 0, none⟩) ∧ M = (b2, blk (c.pf.ds (.slice A a z) (.slice none 0 0)) 155) :: u := by
  obtain ⟨arch, author, cont, dver, os, osv, var, created, hist, rty, diffs, st, feat⟩ := c
  obtain ⟨A, a, z⟩ := F
  replace hF : Sl tStr I (.slice A a z) feat := hF
  obtain ⟨_, _, e1⟩ := hF.isSl
  cases e1
  refine Spec.enter 59 [(0, _)] func67 rfl ntmps67 (by simp) rfl ?_
  intro C hCf hR hCI
  repeat (first | refine Run.seq ?_ | refine Run.region ?_ | refine Ops.nil ?_ | refine Ops.eqlStr rfl (by decide) rfl rfl ?_ | refine Ops.pure T rfl (by decide) rfl ?_ | refine Ops.load 0 rfl (by decide) rfl rfl (T.aggOk rfl) rfl ?_)
  cases hb1 : decide (os = []) with
  | false =>
    repeat (first | refine Run.seq ?_ | refine Ops.nil ?_ | refine Run.skip ?_ | refine Run.cond_f rfl ?_ | refine Ops.not rfl (by decide) ?_ | refine Ops.pure T rfl (by decide) rfl ?_)
    refine Run.regionAny (Holds I [(b, blk ((Cf.mk arch author cont dver os osv var created hist rty diffs st feat).vs t H D ⟨A, feat.length, z⟩) 107)]) (bl 23 0) (by kernel_rfl) (by kernel_rfl) ?_
    refine RAny.tk 0 (bl 23 1) rfl (by kernel_rfl) (by decide) (fun W h => h.holds (Le.refl _) (by first | exact mp rfl | exact mq rfl)) (Yld.eval T rfl rfl) ?_
    refine RAny.tk 1 (bl 23 3) rfl (by kernel_rfl) (by decide) (fun W h => h.holds (Le.refl _) (by first | exact mp rfl | exact mq rfl)) (Yld.eval T rfl rfl) ?_
    refine RAny.tk 2 (bl 23 7) rfl (by kernel_rfl) (by decide) (fun W h => h.holds (Le.refl _) (by first | exact mp rfl | exact mq rfl)) (Yld.eval T rfl rfl) ?_
    first | refine RAny.tk 3 (bl 23 15) rfl (by kernel_rfl) (by decide) (fun W h => h.holds (Le.refl _) (by first | exact mp rfl | exact mq rfl)) (Yld.load 0 T rfl rfl rfl rfl rfl) ?_ | refine RAny.tk 3 (bl 23 15) rfl (by kernel_rfl) (by decide) (fun W h => h.holds (Le.refl _) (by first | exact mp rfl | exact mq rfl)) (Yld.load 1 T rfl rfl rfl rfl rfl) ?_ | refine RAny.tk 3 (bl 23 15) rfl (by kernel_rfl) (by decide) (fun W h => h.holds (Le.refl _) (by first | exact mp rfl | exact mq rfl)) (Yld.load 2 T rfl rfl rfl rfl rfl) ?_
    refine RAny.tk 4 (bl 23 31) rfl (by kernel_rfl) (by decide) (fun W h => h.holds (Le.refl _) (by first | exact mp rfl | exact mq rfl)) (Yld.eval T rfl rfl) ?_
    refine RAny.tk 5 (bl 23 63) rfl (by kernel_rfl) (by decide) (fun W h => h.holds (Le.refl _) (by first | exact mp rfl | exact mq rfl)) (Yld.eval T rfl rfl) ?_
    refine RAny.tk 6 (bl 23 127) rfl (by kernel_rfl) (by decide) (fun W h => h.holds (Le.refl _) (by first | exact mp rfl | exact mq rfl)) (Yld.eval T rfl rfl) ?_
    first | refine RAny.tk 7 (bl 23 255) rfl (by kernel_rfl) (by decide) (fun W h => h.holds (Le.refl _) (by first | exact mp rfl | exact mq rfl)) (Yld.load 0 T rfl rfl rfl rfl rfl) ?_ | refine RAny.tk 7 (bl 23 255) rfl (by kernel_rfl) (by decide) (fun W h => h.holds (Le.refl _) (by first | exact mp rfl | exact mq rfl)) (Yld.load 1 T rfl rfl rfl rfl rfl) ?_ | refine RAny.tk 7 (bl 23 255) rfl (by kernel_rfl) (by decide) (fun W h => h.holds (Le.refl _) (by first | exact mp rfl | exact mq rfl)) (Yld.load 2 T rfl rfl rfl rfl rfl) ?_
    refine RAny.tk 8 (bl 23 511) rfl (by kernel_rfl) (by decide) (fun W h => h.holds (Le.refl _) (by first | exact mp rfl | exact mq rfl)) (Yld.eval T rfl rfl) ?_
    refine RAny.tk 9 (bl 23 1023) rfl (by kernel_rfl) (by decide) (fun W h => h.holds (Le.refl _) (by first | exact mp rfl | exact mq rfl)) (Yld.eval T rfl rfl) ?_
    refine RAny.tk 10 (bl 23 2047) rfl (by kernel_rfl) (by decide) (fun W h => h.holds (Le.refl _) (by first | exact mp rfl | exact mq rfl)) (Yld.eval T rfl rfl) ?_
    first | refine RAny.tk 11 (bl 23 4095) rfl (by kernel_rfl) (by decide) (fun W h => h.holds (Le.refl _) (by first | exact mp rfl | exact mq rfl)) (Yld.load 0 T rfl rfl rfl rfl rfl) ?_ | refine RAny.tk 11 (bl 23 4095) rfl (by kernel_rfl) (by decide) (fun W h => h.holds (Le.refl _) (by first | exact mp rfl | exact mq rfl)) (Yld.load 1 T rfl rfl rfl rfl rfl) ?_ | refine RAny.tk 11 (bl 23 4095) rfl (by kernel_rfl) (by decide) (fun W h => h.holds (Le.refl _) (by first | exact mp rfl | exact mq rfl)) (Yld.load 2 T rfl rfl rfl rfl rfl) ?_
    refine RAny.tk 12 (bl 23 8191) rfl (by kernel_rfl) (by decide) (fun W h => h.holds (Le.refl _) (by first | exact mp rfl | exact mq rfl)) (Yld.eval T rfl rfl) ?_
    refine RAny.tk 13 (bl 23 16383) rfl (by kernel_rfl) (by decide) (fun W h => h.holds (Le.refl _) (by first | exact mp rfl | exact mq rfl)) (Yld.eval T rfl rfl) ?_
    refine RAny.tk 14 (bl 23 32767) rfl (by kernel_rfl) (by decide) (fun W h => h.holds (Le.refl _) (by first | exact mp rfl | exact mq rfl)) (Yld.eval T rfl rfl) ?_
    first | refine RAny.tk 15 (bl 23 65535) rfl (by kernel_rfl) (by decide) (fun W h => h.holds (Le.refl _) (by first | exact mp rfl | exact mq rfl)) (Yld.load 0 T rfl rfl rfl rfl rfl) ?_ | refine RAny.tk 15 (bl 23 65535) rfl (by kernel_rfl) (by decide) (fun W h => h.holds (Le.refl _) (by first | exact mp rfl | exact mq rfl)) (Yld.load 1 T rfl rfl rfl rfl rfl) ?_ | refine RAny.tk 15 (bl 23 65535) rfl (by kernel_rfl) (by decide) (fun W h => h.holds (Le.refl _) (by first | exact mp rfl | exact mq rfl)) (Yld.load 2 T rfl rfl rfl rfl rfl) ?_
    refine RAny.tk 16 (bl 23 131071) rfl (by kernel_rfl) (by decide) (fun W h => h.holds (Le.refl _) (by first | exact mp rfl | exact mq rfl)) (Yld.eval T rfl rfl) ?_
    refine RAny.tk 17 (bl 23 262143) rfl (by kernel_rfl) (by decide) (fun W h => h.holds (Le.refl _) (by first | exact mp rfl | exact mq rfl)) (Yld.eval T rfl rfl) ?_
    refine RAny.tk 18 (bl 23 524287) rfl (by kernel_rfl) (by decide) (fun W h => h.holds (Le.refl _) (by first | exact mp rfl | exact mq rfl)) (Yld.eval T rfl rfl) ?_
    first | refine RAny.tk 19 (bl 23 1048575) rfl (by kernel_rfl) (by decide) (fun W h => h.holds (Le.refl _) (by first | exact mp rfl | exact mq rfl)) (Yld.load 0 T rfl rfl rfl rfl rfl) ?_ | refine RAny.tk 19 (bl 23 1048575) rfl (by kernel_rfl) (by decide) (fun W h => h.holds (Le.refl _) (by first | exact mp rfl | exact mq rfl)) (Yld.load 1 T rfl rfl rfl rfl rfl) ?_ | refine RAny.tk 19 (bl 23 1048575) rfl (by kernel_rfl) (by decide) (fun W h => h.holds (Le.refl _) (by first | exact mp rfl | exact mq rfl)) (Yld.load 2 T rfl rfl rfl rfl rfl) ?_
    refine RAny.tk 20 (bl 23 2097151) rfl (by kernel_rfl) (by decide) (fun W h => h.holds (Le.refl _) (by first | exact mp rfl | exact mq rfl)) (Yld.buildL (cs := [str arch, str os, str osv, .slice A feat.length z, str var, .slice none 0 0]) bd155 rfl rfl (by kernel_rfl)) ?_
    refine RAny.on 21 (bl 23 4194303) rfl (by kernel_rfl) rfl (by decide) (Eff.box rfl rfl fun b2 => ⟨fun W h => h.holds (Le.refl _) (fun _ h => .tail _ h), ?_⟩)
    refine RAny.tk 22 (bl 23 8388607) rfl (by kernel_rfl) (by decide) (fun W h => h.holds (Le.refl _) (by first | exact mp rfl | exact mq rfl)) (Yld.eval T rfl rfl) ?_
    refine RAny.done _ (by kernel_rfl) ?_
    skip
    refine Run.ret1 (by rw [hCf]; exact func67) results67 rfl (hR _ _ _ ?_)
    exact .inr ⟨b2, _, _, _, _, rfl, rfl, rfl⟩
  | true =>
    repeat (first | refine Ops.eqlStr rfl (by decide) rfl rfl ?_ | refine Ops.pure T rfl (by decide) rfl ?_ | refine Ops.load 0 rfl (by decide) rfl rfl (T.aggOk rfl) rfl ?_)
    cases hb2 : decide (arch = []) with
    | false =>
      repeat (first | refine Run.seq ?_ | refine Ops.nil ?_ | refine Run.skip ?_ | refine Run.cond_f rfl ?_ | refine Ops.not rfl (by decide) ?_ | refine Ops.pure T rfl (by decide) rfl ?_)
      refine Run.regionAny (Holds I [(b, blk ((Cf.mk arch author cont dver os osv var created hist rty diffs st feat).vs t H D ⟨A, feat.length, z⟩) 107)]) (bl 23 0) (by kernel_rfl) (by kernel_rfl) ?_
      refine RAny.tk 0 (bl 23 1) rfl (by kernel_rfl) (by decide) (fun W h => h.holds (Le.refl _) (by first | exact mp rfl | exact mq rfl)) (Yld.eval T rfl rfl) ?_
      refine RAny.tk 1 (bl 23 3) rfl (by kernel_rfl) (by decide) (fun W h => h.holds (Le.refl _) (by first | exact mp rfl | exact mq rfl)) (Yld.eval T rfl rfl) ?_
      refine RAny.tk 2 (bl 23 7) rfl (by kernel_rfl) (by decide) (fun W h => h.holds (Le.refl _) (by first | exact mp rfl | exact mq rfl)) (Yld.eval T rfl rfl) ?_
      first | refine RAny.tk 3 (bl 23 15) rfl (by kernel_rfl) (by decide) (fun W h => h.holds (Le.refl _) (by first | exact mp rfl | exact mq rfl)) (Yld.load 0 T rfl rfl rfl rfl rfl) ?_ | refine RAny.tk 3 (bl 23 15) rfl (by kernel_rfl) (by decide) (fun W h => h.holds (Le.refl _) (by first | exact mp rfl | exact mq rfl)) (Yld.load 1 T rfl rfl rfl rfl rfl) ?_ | refine RAny.tk 3 (bl 23 15) rfl (by kernel_rfl) (by decide) (fun W h => h.holds (Le.refl _) (by first | exact mp rfl | exact mq rfl)) (Yld.load 2 T rfl rfl rfl rfl rfl) ?_
      refine RAny.tk 4 (bl 23 31) rfl (by kernel_rfl) (by decide) (fun W h => h.holds (Le.refl _) (by first | exact mp rfl | exact mq rfl)) (Yld.eval T rfl rfl) ?_
      refine RAny.tk 5 (bl 23 63) rfl (by kernel_rfl) (by decide) (fun W h => h.holds (Le.refl _) (by first | exact mp rfl | exact mq rfl)) (Yld.eval T rfl rfl) ?_
      refine RAny.tk 6 (bl 23 127) rfl (by kernel_rfl) (by decide) (fun W h => h.holds (Le.refl _) (by first | exact mp rfl | exact mq rfl)) (Yld.eval T rfl rfl) ?_
      first | refine RAny.tk 7 (bl 23 255) rfl (by kernel_rfl) (by decide) (fun W h => h.holds (Le.refl _) (by first | exact mp rfl | exact mq rfl)) (Yld.load 0 T rfl rfl rfl rfl rfl) ?_ | refine RAny.tk 7 (bl 23 255) rfl (by kernel_rfl) (by decide) (fun W h => h.holds (Le.refl _) (by first | exact mp rfl | exact mq rfl)) (Yld.load 1 T rfl rfl rfl rfl rfl) ?_ | refine RAny.tk 7 (bl 23 255) rfl (by kernel_rfl) (by decide) (fun W h => h.holds (Le.refl _) (by first | exact mp rfl | exact mq rfl)) (Yld.load 2 T rfl rfl rfl rfl rfl) ?_
      refine RAny.tk 8 (bl 23 511) rfl (by kernel_rfl) (by decide) (fun W h => h.holds (Le.refl _) (by first | exact mp rfl | exact mq rfl)) (Yld.eval T rfl rfl) ?_
      refine RAny.tk 9 (bl 23 1023) rfl (by kernel_rfl) (by decide) (fun W h => h.holds (Le.refl _) (by first | exact mp rfl | exact mq rfl)) (Yld.eval T rfl rfl) ?_
      refine RAny.tk 10 (bl 23 2047) rfl (by kernel_rfl) (by decide) (fun W h => h.holds (Le.refl _) (by first | exact mp rfl | exact mq rfl)) (Yld.eval T rfl rfl) ?_
      first | refine RAny.tk 11 (bl 23 4095) rfl (by kernel_rfl) (by decide) (fun W h => h.holds (Le.refl _) (by first | exact mp rfl | exact mq rfl)) (Yld.load 0 T rfl rfl rfl rfl rfl) ?_ | refine RAny.tk 11 (bl 23 4095) rfl (by kernel_rfl) (by decide) (fun W h => h.holds (Le.refl _) (by first | exact mp rfl | exact mq rfl)) (Yld.load 1 T rfl rfl rfl rfl rfl) ?_ | refine RAny.tk 11 (bl 23 4095) rfl (by kernel_rfl) (by decide) (fun W h => h.holds (Le.refl _) (by first | exact mp rfl | exact mq rfl)) (Yld.load 2 T rfl rfl rfl rfl rfl) ?_
      refine RAny.tk 12 (bl 23 8191) rfl (by kernel_rfl) (by decide) (fun W h => h.holds (Le.refl _) (by first | exact mp rfl | exact mq rfl)) (Yld.eval T rfl rfl) ?_
      refine RAny.tk 13 (bl 23 16383) rfl (by kernel_rfl) (by decide) (fun W h => h.holds (Le.refl _) (by first | exact mp rfl | exact mq rfl)) (Yld.eval T rfl rfl) ?_
      refine RAny.tk 14 (bl 23 32767) rfl (by kernel_rfl) (by decide) (fun W h => h.holds (Le.refl _) (by first | exact mp rfl | exact mq rfl)) (Yld.eval T rfl rfl) ?_
      first | refine RAny.tk 15 (bl 23 65535) rfl (by kernel_rfl) (by decide) (fun W h => h.holds (Le.refl _) (by first | exact mp rfl | exact mq rfl)) (Yld.load 0 T rfl rfl rfl rfl rfl) ?_ | refine RAny.tk 15 (bl 23 65535) rfl (by kernel_rfl) (by decide) (fun W h => h.holds (Le.refl _) (by first | exact mp rfl | exact mq rfl)) (Yld.load 1 T rfl rfl rfl rfl rfl) ?_ | refine RAny.tk 15 (bl 23 65535) rfl (by kernel_rfl) (by decide) (fun W h => h.holds (Le.refl _) (by first | exact mp rfl | exact mq rfl)) (Yld.load 2 T rfl rfl rfl rfl rfl) ?_
      refine RAny.tk 16 (bl 23 131071) rfl (by kernel_rfl) (by decide) (fun W h => h.holds (Le.refl _) (by first | exact mp rfl | exact mq rfl)) (Yld.eval T rfl rfl) ?_
      refine RAny.tk 17 (bl 23 262143) rfl (by kernel_rfl) (by decide) (fun W h => h.holds (Le.refl _) (by first | exact mp rfl | exact mq rfl)) (Yld.eval T rfl rfl) ?_
      refine RAny.tk 18 (bl 23 524287) rfl (by kernel_rfl) (by decide) (fun W h => h.holds (Le.refl _) (by first | exact mp rfl | exact mq rfl)) (Yld.eval T rfl rfl) ?_
      first | refine RAny.tk 19 (bl 23 1048575) rfl (by kernel_rfl) (by decide) (fun W h => h.holds (Le.refl _) (by first | exact mp rfl | exact mq rfl)) (Yld.load 0 T rfl rfl rfl rfl rfl) ?_ | refine RAny.tk 19 (bl 23 1048575) rfl (by kernel_rfl) (by decide) (fun W h => h.holds (Le.refl _) (by first | exact mp rfl | exact mq rfl)) (Yld.load 1 T rfl rfl rfl rfl rfl) ?_ | refine RAny.tk 19 (bl 23 1048575) rfl (by kernel_rfl) (by decide) (fun W h => h.holds (Le.refl _) (by first | exact mp rfl | exact mq rfl)) (Yld.load 2 T rfl rfl rfl rfl rfl) ?_
      refine RAny.tk 20 (bl 23 2097151) rfl (by kernel_rfl) (by decide) (fun W h => h.holds (Le.refl _) (by first | exact mp rfl | exact mq rfl)) (Yld.buildL (cs := [str arch, str os, str osv, .slice A feat.length z, str var, .slice none 0 0]) bd155 rfl rfl (by kernel_rfl)) ?_
      refine RAny.on 21 (bl 23 4194303) rfl (by kernel_rfl) rfl (by decide) (Eff.box rfl rfl fun b2 => ⟨fun W h => h.holds (Le.refl _) (fun _ h => .tail _ h), ?_⟩)
      refine RAny.tk 22 (bl 23 8388607) rfl (by kernel_rfl) (by decide) (fun W h => h.holds (Le.refl _) (by first | exact mp rfl | exact mq rfl)) (Yld.eval T rfl rfl) ?_
      refine RAny.done _ (by kernel_rfl) ?_
      skip
      refine Run.ret1 (by rw [hCf]; exact func67) results67 rfl (hR _ _ _ ?_)
      exact .inr ⟨b2, _, _, _, _, rfl, rfl, rfl⟩
    | true =>
    repeat (first | refine Ops.eqlStr rfl (by decide) rfl rfl ?_ | refine Ops.pure T rfl (by decide) rfl ?_ | refine Ops.load 0 rfl (by decide) rfl rfl (T.aggOk rfl) rfl ?_)
    cases hb3 : decide (osv = []) with
    | false =>
      repeat (first | refine Run.seq ?_ | refine Ops.nil ?_ | refine Run.skip ?_ | refine Run.cond_f rfl ?_ | refine Ops.not rfl (by decide) ?_ | refine Ops.pure T rfl (by decide) rfl ?_)
      refine Run.regionAny (Holds I [(b, blk ((Cf.mk arch author cont dver os osv var created hist rty diffs st feat).vs t H D ⟨A, feat.length, z⟩) 107)]) (bl 23 0) (by kernel_rfl) (by kernel_rfl) ?_
      refine RAny.tk 0 (bl 23 1) rfl (by kernel_rfl) (by decide) (fun W h => h.holds (Le.refl _) (by first | exact mp rfl | exact mq rfl)) (Yld.eval T rfl rfl) ?_
      refine RAny.tk 1 (bl 23 3) rfl (by kernel_rfl) (by decide) (fun W h => h.holds (Le.refl _) (by first | exact mp rfl | exact mq rfl)) (Yld.eval T rfl rfl) ?_
      refine RAny.tk 2 (bl 23 7) rfl (by kernel_rfl) (by decide) (fun W h => h.holds (Le.refl _) (by first | exact mp rfl | exact mq rfl)) (Yld.eval T rfl rfl) ?_
      first | refine RAny.tk 3 (bl 23 15) rfl (by kernel_rfl) (by decide) (fun W h => h.holds (Le.refl _) (by first | exact mp rfl | exact mq rfl)) (Yld.load 0 T rfl rfl rfl rfl rfl) ?_ | refine RAny.tk 3 (bl 23 15) rfl (by kernel_rfl) (by decide) (fun W h => h.holds (Le.refl _) (by first | exact mp rfl | exact mq rfl)) (Yld.load 1 T rfl rfl rfl rfl rfl) ?_ | refine RAny.tk 3 (bl 23 15) rfl (by kernel_rfl) (by decide) (fun W h => h.holds (Le.refl _) (by first | exact mp rfl | exact mq rfl)) (Yld.load 2 T rfl rfl rfl rfl rfl) ?_
      refine RAny.tk 4 (bl 23 31) rfl (by kernel_rfl) (by decide) (fun W h => h.holds (Le.refl _) (by first | exact mp rfl | exact mq rfl)) (Yld.eval T rfl rfl) ?_
      refine RAny.tk 5 (bl 23 63) rfl (by kernel_rfl) (by decide) (fun W h => h.holds (Le.refl _) (by first | exact mp rfl | exact mq rfl)) (Yld.eval T rfl rfl) ?_
      refine RAny.tk 6 (bl 23 127) rfl (by kernel_rfl) (by decide) (fun W h => h.holds (Le.refl _) (by first | exact mp rfl | exact mq rfl)) (Yld.eval T rfl rfl) ?_
      first | refine RAny.tk 7 (bl 23 255) rfl (by kernel_rfl) (by decide) (fun W h => h.holds (Le.refl _) (by first | exact mp rfl | exact mq rfl)) (Yld.load 0 T rfl rfl rfl rfl rfl) ?_ | refine RAny.tk 7 (bl 23 255) rfl (by kernel_rfl) (by decide) (fun W h => h.holds (Le.refl _) (by first | exact mp rfl | exact mq rfl)) (Yld.load 1 T rfl rfl rfl rfl rfl) ?_ | refine RAny.tk 7 (bl 23 255) rfl (by kernel_rfl) (by decide) (fun W h => h.holds (Le.refl _) (by first | exact mp rfl | exact mq rfl)) (Yld.load 2 T rfl rfl rfl rfl rfl) ?_
      refine RAny.tk 8 (bl 23 511) rfl (by kernel_rfl) (by decide) (fun W h => h.holds (Le.refl _) (by first | exact mp rfl | exact mq rfl)) (Yld.eval T rfl rfl) ?_
      refine RAny.tk 9 (bl 23 1023) rfl (by kernel_rfl) (by decide) (fun W h => h.holds (Le.refl _) (by first | exact mp rfl | exact mq rfl)) (Yld.eval T rfl rfl) ?_
      refine RAny.tk 10 (bl 23 2047) rfl (by kernel_rfl) (by decide) (fun W h => h.holds (Le.refl _) (by first | exact mp rfl | exact mq rfl)) (Yld.eval T rfl rfl) ?_
      first | refine RAny.tk 11 (bl 23 4095) rfl (by kernel_rfl) (by decide) (fun W h => h.holds (Le.refl _) (by first | exact mp rfl | exact mq rfl)) (Yld.load 0 T rfl rfl rfl rfl rfl) ?_ | refine RAny.tk 11 (bl 23 4095) rfl (by kernel_rfl) (by decide) (fun W h => h.holds (Le.refl _) (by first | exact mp rfl | exact mq rfl)) (Yld.load 1 T rfl rfl rfl rfl rfl) ?_ | refine RAny.tk 11 (bl 23 4095) rfl (by kernel_rfl) (by decide) (fun W h => h.holds (Le.refl _) (by first | exact mp rfl | exact mq rfl)) (Yld.load 2 T rfl rfl rfl rfl rfl) ?_
      refine RAny.tk 12 (bl 23 8191) rfl (by kernel_rfl) (by decide) (fun W h => h.holds (Le.refl _) (by first | exact mp rfl | exact mq rfl)) (Yld.eval T rfl rfl) ?_
      refine RAny.tk 13 (bl 23 16383) rfl (by kernel_rfl) (by decide) (fun W h => h.holds (Le.refl _) (by first | exact mp rfl | exact mq rfl)) (Yld.eval T rfl rfl) ?_
      refine RAny.tk 14 (bl 23 32767) rfl (by kernel_rfl) (by decide) (fun W h => h.holds (Le.refl _) (by first | exact mp rfl | exact mq rfl)) (Yld.eval T rfl rfl) ?_
      first | refine RAny.tk 15 (bl 23 65535) rfl (by kernel_rfl) (by decide) (fun W h => h.holds (Le.refl _) (by first | exact mp rfl | exact mq rfl)) (Yld.load 0 T rfl rfl rfl rfl rfl) ?_ | refine RAny.tk 15 (bl 23 65535) rfl (by kernel_rfl) (by decide) (fun W h => h.holds (Le.refl _) (by first | exact mp rfl | exact mq rfl)) (Yld.load 1 T rfl rfl rfl rfl rfl) ?_ | refine RAny.tk 15 (bl 23 65535) rfl (by kernel_rfl) (by decide) (fun W h => h.holds (Le.refl _) (by first | exact mp rfl | exact mq rfl)) (Yld.load 2 T rfl rfl rfl rfl rfl) ?_
      refine RAny.tk 16 (bl 23 131071) rfl (by kernel_rfl) (by decide) (fun W h => h.holds (Le.refl _) (by first | exact mp rfl | exact mq rfl)) (Yld.eval T rfl rfl) ?_
      refine RAny.tk 17 (bl 23 262143) rfl (by kernel_rfl) (by decide) (fun W h => h.holds (Le.refl _) (by first | exact mp rfl | exact mq rfl)) (Yld.eval T rfl rfl) ?_
      refine RAny.tk 18 (bl 23 524287) rfl (by kernel_rfl) (by decide) (fun W h => h.holds (Le.refl _) (by first | exact mp rfl | exact mq rfl)) (Yld.eval T rfl rfl) ?_
      first | refine RAny.tk 19 (bl 23 1048575) rfl (by kernel_rfl) (by decide) (fun W h => h.holds (Le.refl _) (by first | exact mp rfl | exact mq rfl)) (Yld.load 0 T rfl rfl rfl rfl rfl) ?_ | refine RAny.tk 19 (bl 23 1048575) rfl (by kernel_rfl) (by decide) (fun W h => h.holds (Le.refl _) (by first | exact mp rfl | exact mq rfl)) (Yld.load 1 T rfl rfl rfl rfl rfl) ?_ | refine RAny.tk 19 (bl 23 1048575) rfl (by kernel_rfl) (by decide) (fun W h => h.holds (Le.refl _) (by first | exact mp rfl | exact mq rfl)) (Yld.load 2 T rfl rfl rfl rfl rfl) ?_
      refine RAny.tk 20 (bl 23 2097151) rfl (by kernel_rfl) (by decide) (fun W h => h.holds (Le.refl _) (by first | exact mp rfl | exact mq rfl)) (Yld.buildL (cs := [str arch, str os, str osv, .slice A feat.length z, str var, .slice none 0 0]) bd155 rfl rfl (by kernel_rfl)) ?_
      refine RAny.on 21 (bl 23 4194303) rfl (by kernel_rfl) rfl (by decide) (Eff.box rfl rfl fun b2 => ⟨fun W h => h.holds (Le.refl _) (fun _ h => .tail _ h), ?_⟩)
      refine RAny.tk 22 (bl 23 8388607) rfl (by kernel_rfl) (by decide) (fun W h => h.holds (Le.refl _) (by first | exact mp rfl | exact mq rfl)) (Yld.eval T rfl rfl) ?_
      refine RAny.done _ (by kernel_rfl) ?_
      skip
      refine Run.ret1 (by rw [hCf]; exact func67) results67 rfl (hR _ _ _ ?_)
      exact .inr ⟨b2, _, _, _, _, rfl, rfl, rfl⟩
    | true =>
    repeat (first | refine Ops.eqlStr rfl (by decide) rfl rfl ?_ | refine Ops.pure T rfl (by decide) rfl ?_ | refine Ops.load 0 rfl (by decide) rfl rfl (T.aggOk rfl) rfl ?_)
    cases hb4 : decide (var = []) with
    | false =>
      repeat (first | refine Run.seq ?_ | refine Ops.nil ?_ | refine Run.skip ?_ | refine Run.cond_f rfl ?_ | refine Ops.not rfl (by decide) ?_ | refine Ops.pure T rfl (by decide) rfl ?_)
      refine Run.regionAny (Holds I [(b, blk ((Cf.mk arch author cont dver os osv var created hist rty diffs st feat).vs t H D ⟨A, feat.length, z⟩) 107)]) (bl 23 0) (by kernel_rfl) (by kernel_rfl) ?_
      refine RAny.tk 0 (bl 23 1) rfl (by kernel_rfl) (by decide) (fun W h => h.holds (Le.refl _) (by first | exact mp rfl | exact mq rfl)) (Yld.eval T rfl rfl) ?_
      refine RAny.tk 1 (bl 23 3) rfl (by kernel_rfl) (by decide) (fun W h => h.holds (Le.refl _) (by first | exact mp rfl | exact mq rfl)) (Yld.eval T rfl rfl) ?_
      refine RAny.tk 2 (bl 23 7) rfl (by kernel_rfl) (by decide) (fun W h => h.holds (Le.refl _) (by first | exact mp rfl | exact mq rfl)) (Yld.eval T rfl rfl) ?_
      first | refine RAny.tk 3 (bl 23 15) rfl (by kernel_rfl) (by decide) (fun W h => h.holds (Le.refl _) (by first | exact mp rfl | exact mq rfl)) (Yld.load 0 T rfl rfl rfl rfl rfl) ?_ | refine RAny.tk 3 (bl 23 15) rfl (by kernel_rfl) (by decide) (fun W h => h.holds (Le.refl _) (by first | exact mp rfl | exact mq rfl)) (Yld.load 1 T rfl rfl rfl rfl rfl) ?_ | refine RAny.tk 3 (bl 23 15) rfl (by kernel_rfl) (by decide) (fun W h => h.holds (Le.refl _) (by first | exact mp rfl | exact mq rfl)) (Yld.load 2 T rfl rfl rfl rfl rfl) ?_
      refine RAny.tk 4 (bl 23 31) rfl (by kernel_rfl) (by decide) (fun W h => h.holds (Le.refl _) (by first | exact mp rfl | exact mq rfl)) (Yld.eval T rfl rfl) ?_
      refine RAny.tk 5 (bl 23 63) rfl (by kernel_rfl) (by decide) (fun W h => h.holds (Le.refl _) (by first | exact mp rfl | exact mq rfl)) (Yld.eval T rfl rfl) ?_
      refine RAny.tk 6 (bl 23 127) rfl (by kernel_rfl) (by decide) (fun W h => h.holds (Le.refl _) (by first | exact mp rfl | exact mq rfl)) (Yld.eval T rfl rfl) ?_
      first | refine RAny.tk 7 (bl 23 255) rfl (by kernel_rfl) (by decide) (fun W h => h.holds (Le.refl _) (by first | exact mp rfl | exact mq rfl)) (Yld.load 0 T rfl rfl rfl rfl rfl) ?_ | refine RAny.tk 7 (bl 23 255) rfl (by kernel_rfl) (by decide) (fun W h => h.holds (Le.refl _) (by first | exact mp rfl | exact mq rfl)) (Yld.load 1 T rfl rfl rfl rfl rfl) ?_ | refine RAny.tk 7 (bl 23 255) rfl (by kernel_rfl) (by decide) (fun W h => h.holds (Le.refl _) (by first | exact mp rfl | exact mq rfl)) (Yld.load 2 T rfl rfl rfl rfl rfl) ?_
      refine RAny.tk 8 (bl 23 511) rfl (by kernel_rfl) (by decide) (fun W h => h.holds (Le.refl _) (by first | exact mp rfl | exact mq rfl)) (Yld.eval T rfl rfl) ?_
      refine RAny.tk 9 (bl 23 1023) rfl (by kernel_rfl) (by decide) (fun W h => h.holds (Le.refl _) (by first | exact mp rfl | exact mq rfl)) (Yld.eval T rfl rfl) ?_
      refine RAny.tk 10 (bl 23 2047) rfl (by kernel_rfl) (by decide) (fun W h => h.holds (Le.refl _) (by first | exact mp rfl | exact mq rfl)) (Yld.eval T rfl rfl) ?_
      first | refine RAny.tk 11 (bl 23 4095) rfl (by kernel_rfl) (by decide) (fun W h => h.holds (Le.refl _) (by first | exact mp rfl | exact mq rfl)) (Yld.load 0 T rfl rfl rfl rfl rfl) ?_ | refine RAny.tk 11 (bl 23 4095) rfl (by kernel_rfl) (by decide) (fun W h => h.holds (Le.refl _) (by first | exact mp rfl | exact mq rfl)) (Yld.load 1 T rfl rfl rfl rfl rfl) ?_ | refine RAny.tk 11 (bl 23 4095) rfl (by kernel_rfl) (by decide) (fun W h => h.holds (Le.refl _) (by first | exact mp rfl | exact mq rfl)) (Yld.load 2 T rfl rfl rfl rfl rfl) ?_
      refine RAny.tk 12 (bl 23 8191) rfl (by kernel_rfl) (by decide) (fun W h => h.holds (Le.refl _) (by first | exact mp rfl | exact mq rfl)) (Yld.eval T rfl rfl) ?_
      refine RAny.tk 13 (bl 23 16383) rfl (by kernel_rfl) (by decide) (fun W h => h.holds (Le.refl _) (by first | exact mp rfl | exact mq rfl)) (Yld.eval T rfl rfl) ?_
      refine RAny.tk 14 (bl 23 32767) rfl (by kernel_rfl) (by decide) (fun W h => h.holds (Le.refl _) (by first | exact mp rfl | exact mq rfl)) (Yld.eval T rfl rfl) ?_
      first | refine RAny.tk 15 (bl 23 65535) rfl (by kernel_rfl) (by decide) (fun W h => h.holds (Le.refl _) (by first | exact mp rfl | exact mq rfl)) (Yld.load 0 T rfl rfl rfl rfl rfl) ?_ | refine RAny.tk 15 (bl 23 65535) rfl (by kernel_rfl) (by decide) (fun W h => h.holds (Le.refl _) (by first | exact mp rfl | exact mq rfl)) (Yld.load 1 T rfl rfl rfl rfl rfl) ?_ | refine RAny.tk 15 (bl 23 65535) rfl (by kernel_rfl) (by decide) (fun W h => h.holds (Le.refl _) (by first | exact mp rfl | exact mq rfl)) (Yld.load 2 T rfl rfl rfl rfl rfl) ?_
      refine RAny.tk 16 (bl 23 131071) rfl (by kernel_rfl) (by decide) (fun W h => h.holds (Le.refl _) (by first | exact mp rfl | exact mq rfl)) (Yld.eval T rfl rfl) ?_
      refine RAny.tk 17 (bl 23 262143) rfl (by kernel_rfl) (by decide) (fun W h => h.holds (Le.refl _) (by first | exact mp rfl | exact mq rfl)) (Yld.eval T rfl rfl) ?_
      refine RAny.tk 18 (bl 23 524287) rfl (by kernel_rfl) (by decide) (fun W h => h.holds (Le.refl _) (by first | exact mp rfl | exact mq rfl)) (Yld.eval T rfl rfl) ?_
      first | refine RAny.tk 19 (bl 23 1048575) rfl (by kernel_rfl) (by decide) (fun W h => h.holds (Le.refl _) (by first | exact mp rfl | exact mq rfl)) (Yld.load 0 T rfl rfl rfl rfl rfl) ?_ | refine RAny.tk 19 (bl 23 1048575) rfl (by kernel_rfl) (by decide) (fun W h => h.holds (Le.refl _) (by first | exact mp rfl | exact mq rfl)) (Yld.load 1 T rfl rfl rfl rfl rfl) ?_ | refine RAny.tk 19 (bl 23 1048575) rfl (by kernel_rfl) (by decide) (fun W h => h.holds (Le.refl _) (by first | exact mp rfl | exact mq rfl)) (Yld.load 2 T rfl rfl rfl rfl rfl) ?_
      refine RAny.tk 20 (bl 23 2097151) rfl (by kernel_rfl) (by decide) (fun W h => h.holds (Le.refl _) (by first | exact mp rfl | exact mq rfl)) (Yld.buildL (cs := [str arch, str os, str osv, .slice A feat.length z, str var, .slice none 0 0]) bd155 rfl rfl (by kernel_rfl)) ?_
      refine RAny.on 21 (bl 23 4194303) rfl (by kernel_rfl) rfl (by decide) (Eff.box rfl rfl fun b2 => ⟨fun W h => h.holds (Le.refl _) (fun _ h => .tail _ h), ?_⟩)
      refine RAny.tk 22 (bl 23 8388607) rfl (by kernel_rfl) (by decide) (fun W h => h.holds (Le.refl _) (by first | exact mp rfl | exact mq rfl)) (Yld.eval T rfl rfl) ?_
      refine RAny.done _ (by kernel_rfl) ?_
      skip
      refine Run.ret1 (by rw [hCf]; exact func67) results67 rfl (hR _ _ _ ?_)
      exact .inr ⟨b2, _, _, _, _, rfl, rfl, rfl⟩
    | true =>
    repeat (first | refine Ops.nil ?_ | refine Ops.eql rfl (by decide) rfl rfl ?_ | refine Ops.pure T rfl (by decide) rfl ?_ | refine Ops.load 0 rfl (by decide) rfl rfl (T.aggOk rfl) rfl ?_)
    refine Run.cond rfl rfl (fun h5 => ?_) (fun h5 => ?_)
    all_goals (try rw [h5])
    all_goals (try simp only [decide_eq_true_eq, decide_eq_false_iff_not, Bool.not_eq_true', Bool.not_eq_false', Bool.and_eq_true, Bool.or_eq_true, Bool.and_eq_false_imp, Bool.or_eq_false_iff] at h5)
    · skip
      repeat (first | refine Run.seq ?_ | refine Run.region ?_ | refine Ops.nil ?_ | refine Ops.pure T rfl (by decide) rfl ?_)
      refine Run.ret1 (by rw [hCf]; exact func67) results67 rfl (hR _ _ _ ?_)
      exact .inl ⟨rfl, of_decide_eq_true hb1, of_decide_eq_true hb2⟩
    · skip
      repeat (first | refine Run.seq ?_ | refine Run.skip ?_)
      refine Run.regionAny (Holds I [(b, blk ((Cf.mk arch author cont dver os osv var created hist rty diffs st feat).vs t H D ⟨A, feat.length, z⟩) 107)]) (bl 23 0) (by kernel_rfl) (by kernel_rfl) ?_
      refine RAny.tk 0 (bl 23 1) rfl (by kernel_rfl) (by decide) (fun W h => h.holds (Le.refl _) (by first | exact mp rfl | exact mq rfl)) (Yld.eval T rfl rfl) ?_
      refine RAny.tk 1 (bl 23 3) rfl (by kernel_rfl) (by decide) (fun W h => h.holds (Le.refl _) (by first | exact mp rfl | exact mq rfl)) (Yld.eval T rfl rfl) ?_
      refine RAny.tk 2 (bl 23 7) rfl (by kernel_rfl) (by decide) (fun W h => h.holds (Le.refl _) (by first | exact mp rfl | exact mq rfl)) (Yld.eval T rfl rfl) ?_
      first | refine RAny.tk 3 (bl 23 15) rfl (by kernel_rfl) (by decide) (fun W h => h.holds (Le.refl _) (by first | exact mp rfl | exact mq rfl)) (Yld.load 0 T rfl rfl rfl rfl rfl) ?_ | refine RAny.tk 3 (bl 23 15) rfl (by kernel_rfl) (by decide) (fun W h => h.holds (Le.refl _) (by first | exact mp rfl | exact mq rfl)) (Yld.load 1 T rfl rfl rfl rfl rfl) ?_ | refine RAny.tk 3 (bl 23 15) rfl (by kernel_rfl) (by decide) (fun W h => h.holds (Le.refl _) (by first | exact mp rfl | exact mq rfl)) (Yld.load 2 T rfl rfl rfl rfl rfl) ?_
      refine RAny.tk 4 (bl 23 31) rfl (by kernel_rfl) (by decide) (fun W h => h.holds (Le.refl _) (by first | exact mp rfl | exact mq rfl)) (Yld.eval T rfl rfl) ?_
      refine RAny.tk 5 (bl 23 63) rfl (by kernel_rfl) (by decide) (fun W h => h.holds (Le.refl _) (by first | exact mp rfl | exact mq rfl)) (Yld.eval T rfl rfl) ?_
      refine RAny.tk 6 (bl 23 127) rfl (by kernel_rfl) (by decide) (fun W h => h.holds (Le.refl _) (by first | exact mp rfl | exact mq rfl)) (Yld.eval T rfl rfl) ?_
      first | refine RAny.tk 7 (bl 23 255) rfl (by kernel_rfl) (by decide) (fun W h => h.holds (Le.refl _) (by first | exact mp rfl | exact mq rfl)) (Yld.load 0 T rfl rfl rfl rfl rfl) ?_ | refine RAny.tk 7 (bl 23 255) rfl (by kernel_rfl) (by decide) (fun W h => h.holds (Le.refl _) (by first | exact mp rfl | exact mq rfl)) (Yld.load 1 T rfl rfl rfl rfl rfl) ?_ | refine RAny.tk 7 (bl 23 255) rfl (by kernel_rfl) (by decide) (fun W h => h.holds (Le.refl _) (by first | exact mp rfl | exact mq rfl)) (Yld.load 2 T rfl rfl rfl rfl rfl) ?_
      refine RAny.tk 8 (bl 23 511) rfl (by kernel_rfl) (by decide) (fun W h => h.holds (Le.refl _) (by first | exact mp rfl | exact mq rfl)) (Yld.eval T rfl rfl) ?_
      refine RAny.tk 9 (bl 23 1023) rfl (by kernel_rfl) (by decide) (fun W h => h.holds (Le.refl _) (by first | exact mp rfl | exact mq rfl)) (Yld.eval T rfl rfl) ?_
      refine RAny.tk 10 (bl 23 2047) rfl (by kernel_rfl) (by decide) (fun W h => h.holds (Le.refl _) (by first | exact mp rfl | exact mq rfl)) (Yld.eval T rfl rfl) ?_
      first | refine RAny.tk 11 (bl 23 4095) rfl (by kernel_rfl) (by decide) (fun W h => h.holds (Le.refl _) (by first | exact mp rfl | exact mq rfl)) (Yld.load 0 T rfl rfl rfl rfl rfl) ?_ | refine RAny.tk 11 (bl 23 4095) rfl (by kernel_rfl) (by decide) (fun W h => h.holds (Le.refl _) (by first | exact mp rfl | exact mq rfl)) (Yld.load 1 T rfl rfl rfl rfl rfl) ?_ | refine RAny.tk 11 (bl 23 4095) rfl (by kernel_rfl) (by decide) (fun W h => h.holds (Le.refl _) (by first | exact mp rfl | exact mq rfl)) (Yld.load 2 T rfl rfl rfl rfl rfl) ?_
      refine RAny.tk 12 (bl 23 8191) rfl (by kernel_rfl) (by decide) (fun W h => h.holds (Le.refl _) (by first | exact mp rfl | exact mq rfl)) (Yld.eval T rfl rfl) ?_
      refine RAny.tk 13 (bl 23 16383) rfl (by kernel_rfl) (by decide) (fun W h => h.holds (Le.refl _) (by first | exact mp rfl | exact mq rfl)) (Yld.eval T rfl rfl) ?_
      refine RAny.tk 14 (bl 23 32767) rfl (by kernel_rfl) (by decide) (fun W h => h.holds (Le.refl _) (by first | exact mp rfl | exact mq rfl)) (Yld.eval T rfl rfl) ?_
      first | refine RAny.tk 15 (bl 23 65535) rfl (by kernel_rfl) (by decide) (fun W h => h.holds (Le.refl _) (by first | exact mp rfl | exact mq rfl)) (Yld.load 0 T rfl rfl rfl rfl rfl) ?_ | refine RAny.tk 15 (bl 23 65535) rfl (by kernel_rfl) (by decide) (fun W h => h.holds (Le.refl _) (by first | exact mp rfl | exact mq rfl)) (Yld.load 1 T rfl rfl rfl rfl rfl) ?_ | refine RAny.tk 15 (bl 23 65535) rfl (by kernel_rfl) (by decide) (fun W h => h.holds (Le.refl _) (by first | exact mp rfl | exact mq rfl)) (Yld.load 2 T rfl rfl rfl rfl rfl) ?_
      refine RAny.tk 16 (bl 23 131071) rfl (by kernel_rfl) (by decide) (fun W h => h.holds (Le.refl _) (by first | exact mp rfl | exact mq rfl)) (Yld.eval T rfl rfl) ?_
      refine RAny.tk 17 (bl 23 262143) rfl (by kernel_rfl) (by decide) (fun W h => h.holds (Le.refl _) (by first | exact mp rfl | exact mq rfl)) (Yld.eval T rfl rfl) ?_
      refine RAny.tk 18 (bl 23 524287) rfl (by kernel_rfl) (by decide) (fun W h => h.holds (Le.refl _) (by first | exact mp rfl | exact mq rfl)) (Yld.eval T rfl rfl) ?_
      first | refine RAny.tk 19 (bl 23 1048575) rfl (by kernel_rfl) (by decide) (fun W h => h.holds (Le.refl _) (by first | exact mp rfl | exact mq rfl)) (Yld.load 0 T rfl rfl rfl rfl rfl) ?_ | refine RAny.tk 19 (bl 23 1048575) rfl (by kernel_rfl) (by decide) (fun W h => h.holds (Le.refl _) (by first | exact mp rfl | exact mq rfl)) (Yld.load 1 T rfl rfl rfl rfl rfl) ?_ | refine RAny.tk 19 (bl 23 1048575) rfl (by kernel_rfl) (by decide) (fun W h => h.holds (Le.refl _) (by first | exact mp rfl | exact mq rfl)) (Yld.load 2 T rfl rfl rfl rfl rfl) ?_
      refine RAny.tk 20 (bl 23 2097151) rfl (by kernel_rfl) (by decide) (fun W h => h.holds (Le.refl _) (by first | exact mp rfl | exact mq rfl)) (Yld.buildL (cs := [str arch, str os, str osv, .slice A feat.length z, str var, .slice none 0 0]) bd155 rfl rfl (by kernel_rfl)) ?_
      refine RAny.on 21 (bl 23 4194303) rfl (by kernel_rfl) rfl (by decide) (Eff.box rfl rfl fun b2 => ⟨fun W h => h.holds (Le.refl _) (fun _ h => .tail _ h), ?_⟩)
      refine RAny.tk 22 (bl 23 8388607) rfl (by kernel_rfl) (by decide) (fun W h => h.holds (Le.refl _) (by first | exact mp rfl | exact mq rfl)) (Yld.eval T rfl rfl) ?_
      refine RAny.done _ (by kernel_rfl) ?_
      skip
      refine Run.ret1 (by rw [hCf]; exact func67) results67 rfl (hR _ _ _ ?_)
      exact .inr ⟨b2, _, _, _, _, rfl, rfl, rfl⟩
theorem impl_ConfigPlatform (I : Imm) (c : Cf) (v : CV) (hL : CfL I c v) (hfit : fitCf c) :
    Pure prog 27 [.agg (c.cs v).toArray] I fun w J => (w = .tuple #[.agg #[str [], str [], str [], str [], .slice none 0 0, .slice none 0 0], .bool false] ∧ c.os = [] ∧ c.arch = []) ∨ ∃ A a z, Sl tStr J (.slice A a z) c.feat ∧ w = .tuple #[.agg (c.pf.cs (.slice A a z) (.slice none 0 0)).toArray, .bool true] := by
  refine Spec.enter 16 [(0, _)] func27 rfl ntmps27 (by simp) rfl ?_
  intro C hCf hR hCI
  repeat (first | refine Run.seq ?_ | refine Run.region ?_)
  refine Ops.box rfl (by decide) rfl rfl (fun b => ?_)
  refine Ops.alloc rfl (by decide) (T.zeroOk rfl) rfl (fun b2 => ?_)
  repeat (first | refine Run.seq ?_ | refine Run.region ?_ | refine Ops.nil ?_ | refine Ops.pure T rfl (by decide) rfl ?_ | refine Ops.loadN 1 rfl (by decide) rfl rfl (T.aggOk rfl) (T.sizeOk rfl) rfl rfl ?_)
  refine Ops.call ((ConfigFile_to I c v hL hfit)) rfl (by decide) call66 rfl ?_
  rintro _ J l ⟨t, H, D, F, rfl, hF⟩
  skip
  refine Ops.alloc rfl (by decide) (T.zeroOk rfl) rfl (fun b4 => ?_)
  repeat (first | refine Run.seq ?_ | refine Run.region ?_ | refine Ops.nil ?_ | refine Ops.store 0 rfl rfl rfl rfl rfl (T.sizeOk rfl) rfl (Nat.le_of_ble_eq_true rfl) rfl rfl ?_)
  refine Ops.callM (M := [_]) ((v1_Platform J c t H D F hF b4)) (.refl _) rfl (by decide) call67 rfl ?_
  rintro w J2 M2 l2 hw
  rcases hw with ⟨rfl, ho, ha⟩ | ⟨b3, A, a, z, u, hFv, rfl, rfl⟩
  · refine Ops.dropL (L' := [(b2, _), (b, _)]) (List.sublist_append_right _ _) ?_
    repeat (first | refine Run.seq ?_ | refine Run.region ?_ | refine Ops.nil ?_ | refine Run.cond_t rfl ?_ | refine Ops.eqlNil T rfl (by decide) rfl rfl rfl rfl rfl ?_ | refine Ops.pure T rfl (by decide) rfl ?_)
    refine Ops.buildL bd64 rfl (by decide) rfl rfl ?_
    repeat (first | refine Ops.nil ?_ | refine Ops.pure T rfl (by decide) rfl ?_ | refine Ops.store 0 rfl rfl rfl rfl rfl (T.sizeOk rfl) rfl (Nat.le_of_ble_eq_true rfl) rfl rfl ?_)
    refine Run.retCT T 0 (by rw [hCf]; exact func27) results27 rfl rfl rfl rfl rfl rfl rfl (hR _ _ _ ?_)
    exact ⟨rfl, .inl ⟨rfl, ho, ha⟩⟩
  · refine Ops.dropL (L' := (b3, _) :: [(b2, _), (b, _)]) (List.Sublist.cons_cons _ (List.sublist_append_right _ _)) ?_
    repeat (first | refine Run.seq ?_ | refine Run.region ?_ | refine Ops.nil ?_ | refine Run.skip ?_ | refine Run.cond_f rfl ?_ | refine Ops.eqlNil T rfl (by decide) rfl rfl rfl rfl rfl ?_ | refine Ops.pure T rfl (by decide) rfl ?_ | refine Ops.loadN 0 rfl (by decide) rfl rfl (T.aggOk rfl) (T.sizeOk rfl) rfl rfl ?_)
    refine Ops.call ((impl_platformOf J2 c.pf A none a 0 z 0)) rfl (by decide) call68 rfl ?_
    rintro _ J3 l3 rfl
    repeat (first | refine Ops.nil ?_ | refine Ops.pure T rfl (by decide) rfl ?_ | refine Ops.store 1 rfl rfl rfl rfl rfl (T.sizeOk rfl) rfl (Nat.le_of_ble_eq_true rfl) rfl rfl ?_)
    refine Run.retCT T 1 (by rw [hCf]; exact func27) results27 rfl rfl rfl rfl rfl rfl rfl (hR _ _ _ ?_)
    exact ⟨rfl, .inr ⟨A, a, z, by rw [← hFv]; exact (hF.mono l2).mono l3, rfl⟩⟩
end Go.V
namespace Go.V
open Go.Proofs.Tryz
open Go.RowKit
set_option linter.unusedVariables false
set_option linter.unusedSimpArgs false
set_option maxRecDepth 10000
attribute [local irreducible] Run Ops QD
def goodS (s : Bs) : Prop := Lib.validD s = true ∧ s.length ≤ 4000
set_option maxHeartbeats 1000000 in
theorem laws_textsGood (I : Imm) (hU : UT I) (v : Value) (xs : List Bs) (hS : Sl tStr I v xs) (hx : ∀ s ∈ xs, s.length ≤ 2147483647) (hl : xs.length ≤ 1099511627776) : Pure prog 38 [v] I fun w _ => ∃ r, w = .bool r ∧ (r = true → xs.length ≤ 60 ∧ ∀ s ∈ xs, goodS s) := by
  obtain ⟨A0, c0, rfl⟩ := hS.isSl
  refine Spec.enter 27 [(0, _)] func38 rfl ntmps38 (by simp) rfl ?_
  intro C hCf hR hCI
  repeat (first | refine Run.seq ?_)
  refine Run.regionO (D := [some 2]) [true] rfl rfl rfl (fun Z hZ => ?_)
  refine QD.ev T (by decide) rfl rfl ?_
  refine QD.nil (hZ _ ?_)
  clear hZ Z
  repeat (first | refine Run.seq ?_)
  refine Run.regionO (D := [some 3]) [true] rfl rfl rfl (fun Z hZ => ?_)
  refine QD.ev T (by decide) rfl rfl ?_
  refine QD.nil (hZ _ ?_)
  clear hZ Z
  repeat (first | refine Run.seq ?_)
  refine Run.regionO (D := [some 6, some 7, some 8]) [true, true, true] rfl rfl rfl (fun Z hZ => ?_)
  refine QD.ev T (by decide) rfl rfl ?_
  refine QD.ev T (by decide) rfl rfl ?_
  refine QD.ev T (by decide) rfl rfl ?_
  refine QD.nil (hZ _ ?_)
  clear hZ Z
  repeat (first | refine Run.block ?_)
  refine Run.keep [0, 3, 6, 7, 8] [_, _, _, _, _] rfl ?_
  refine Run.rounds (fun m env L J => ∃ (i : Nat) (n : Int), m = xs.length - i ∧ i ≤ xs.length ∧ (i ≤ 60 → 0 ≤ n ∧ n ≤ i * 2147483647) ∧ (i ≤ 60 → ∀ s ∈ xs.take i, Lib.validD s = true ∧ (s.length : Int) ≤ n) ∧ env = [(0, .slice A0 xs.length c0), (3, .int .i64 n), (6, .slice A0 xs.length c0), (7, .int .i64 xs.length), (8, .int .i64 i)] ∧ L = [] ∧ I = J) xs.length ⟨0, 0, by omega, by omega, by omega, by simp, rfl, rfl, rfl⟩ ?_
  rintro m env L J ⟨i, n, rfl, hi, hn, hdone, rfl, rfl, rfl⟩ ih
  repeat (first | refine Run.seq ?_)
  by_cases hlt : i < xs.length
  · skip
    refine Run.regionO (D := [some 9]) [true] rfl rfl rfl (fun Z hZ => ?_)
    refine QD.e ((Ev.lss rfl rfl).as (show _ = Value.bool true from congrArg Value.bool (decide_eq_true (by omega)))) (by decide) rfl ?_
    refine QD.nil (hZ _ ?_)
    clear hZ Z
    repeat (first | refine Run.seq ?_ | refine Run.skip ?_ | refine Run.block ?_ | refine Run.cond_t rfl ?_)
    refine Run.region ?_
    refine Ops.indexSl (j := (i : Int)) hS rfl (by decide) rfl rfl (T.undOk rfl) (T.sizeOk rfl) (by omega) (by omega) fun bb off q cs hq hr hA => ?_
    obtain rfl : cs = [str q] := hr
    rw [Int.toNat_natCast] at hq
    have hql := hx q (List.mem_of_getElem? hq)
    refine Ops.loadI rfl (by decide) rfl hA (T.aggOk rfl) ?_
    refine Ops.pure T rfl (by decide) rfl ?_
    refine Ops.nil ?_
    repeat (first | refine Run.seq ?_)
    refine Run.regionO (D := [some 12, some 13, some 14, some 15, some 3]) [true, true, true, true, true] rfl rfl rfl (fun Z hZ => ?_)
    refine QD.ev T (by decide) rfl rfl ?_
    refine QD.ev T (by decide) rfl rfl ?_
    refine QD.e (Ev.lenS T rfl rfl) (by decide) rfl ?_
    refine QD.e (Ev.addK (r := IntKind.i64.wrap (n + (q.length : Int))) rfl rfl rfl) (by decide) rfl ?_
    refine QD.ev T (by decide) rfl rfl ?_
    refine QD.nil (hZ _ ?_)
    clear hZ Z
    repeat (first | refine Run.seq ?_)
    refine Run.regionP (D := [some 16, some 17, some 18]) [true] 1 rfl rfl rfl (by simp only [List.drop_succ_cons, List.drop_zero]; rfl) (fun Z hZ => ?_)
    refine QD.ev T (by decide) rfl rfl ?_
    refine QD.nil (hZ _ ?_)
    clear hZ Z
    refine Ops.call ((utf8_ValidString I hU q (by omega))) rfl (by decide) call80 rfl ?_
    rintro w J2 l2 ⟨rfl, rfl⟩
    refine Ops.pure T rfl (by decide) rfl ?_
    refine Ops.nil ?_
    skip
    cases hv : Lib.validD q with
    | false =>
      repeat (first | refine Run.seq ?_ | refine Run.cond_t rfl ?_)
      refine Run.regionO (D := [some 2]) [true] rfl rfl rfl (fun Z hZ => ?_)
      refine QD.ev T (by decide) rfl rfl ?_
      refine QD.nil (hZ _ ?_)
      clear hZ Z
      skip
      refine Run.fin (Run.ret1 (by rw [hCf]; exact func38) results38 rfl (hR _ _ _ ?_))
      exact ⟨rfl, _, rfl, fun h => by cases h⟩
    | true =>
      repeat (first | refine Run.skip ?_ | refine Run.inBlock ?_ | refine Run.cond_f rfl ?_)
      refine Run.regionO (D := [some 19, some 8]) [true, true] rfl rfl rfl (fun Z hZ => ?_)
      refine QD.e (Ev.addK (r := ((i + 1 : Nat) : Int)) rfl rfl (by rw [wI (by omega) (by omega)]; omega)) (by decide) rfl ?_
      refine QD.ev T (by decide) rfl rfl ?_
      refine QD.nil (hZ _ ?_)
      clear hZ Z
      skip
      refine Run.keep [0, 3, 6, 7, 8] [_, _, _, _, _] rfl ?_
      refine ih (xs.length - (i + 1)) _ _ _ (by omega) ⟨i + 1, IntKind.i64.wrap (n + (q.length : Int)), rfl, by omega, fun h60 => ?_, fun h60 => ?_, rfl, rfl, rfl⟩
      · have := hn (by omega)
        rw [wI (by omega) (by omega)]; omega
      have hn' := hn (by omega)
      have hdone := hdone (by omega)
      rw [wI (by omega) (by omega)]
      intro s hs
      rw [List.take_succ_eq_append_getElem hlt] at hs
      rcases List.mem_append.1 hs with hs | hs
      · obtain ⟨h1, h2⟩ := hdone s hs
        exact ⟨h1, by omega⟩
      · obtain rfl := List.mem_singleton.1 hs
        rw [List.getElem?_eq_getElem hlt] at hq
        obtain rfl : xs[i] = q := Option.some.inj hq
        exact ⟨hv, by omega⟩
  · skip
    refine Run.regionO (D := [some 9]) [true] rfl rfl rfl (fun Z hZ => ?_)
    refine QD.e ((Ev.lss rfl rfl).as (show _ = Value.bool false from congrArg Value.bool (decide_eq_false (by omega)))) (by decide) rfl ?_
    refine QD.nil (hZ _ ?_)
    clear hZ Z
    repeat (first | refine Run.seq ?_ | refine Run.exit rfl ?_ | refine Run.cond_f rfl ?_)
    by_cases h60 : xs.length ≤ 60
    · have hdone := hdone (by omega)
      rw [List.take_of_length_le (by omega)] at hdone
      by_cases h4 : n ≤ 4000
      · skip
        refine Run.regionO (D := [some 20, some 21, some 22, some 23, some 24, some 25, some 26, some 2]) [true, true, true, true, true, true, true, true] rfl rfl rfl (fun Z hZ => ?_)
        refine QD.ev T (by decide) rfl rfl ?_
        refine QD.ev T (by decide) rfl rfl ?_
        refine QD.e ((Ev.leq rfl rfl).as (show _ = Value.bool true from congrArg Value.bool (decide_eq_true (by omega)))) (by decide) rfl ?_
        refine QD.ev T (by decide) rfl rfl ?_
        first | refine QD.ev T (by decide) rfl rfl ?_ | refine QD.off (by decide) rfl ?_
        refine QD.e ((Ev.leq rfl rfl).as (show _ = Value.bool true from congrArg Value.bool (decide_eq_true (by omega)))) (by decide) rfl ?_
        refine QD.ev T (by decide) rfl rfl ?_
        refine QD.ev T (by decide) rfl rfl ?_
        refine QD.nil (hZ _ ?_)
        clear hZ Z
        skip
        refine Run.fin (Run.ret1 (by rw [hCf]; exact func38) results38 rfl (hR _ _ _ ?_))
        exact ⟨rfl, _, rfl, fun _ => ⟨h60, fun s hs => ⟨(hdone s hs).1, by have := (hdone s hs).2; omega⟩⟩⟩
      · skip
        refine Run.regionO (D := [some 20, some 21, some 22, some 23, some 24, some 25, some 26, some 2]) [true, true, true, true, true, true, true, true] rfl rfl rfl (fun Z hZ => ?_)
        refine QD.ev T (by decide) rfl rfl ?_
        refine QD.ev T (by decide) rfl rfl ?_
        refine QD.e ((Ev.leq rfl rfl).as (show _ = Value.bool true from congrArg Value.bool (decide_eq_true (by omega)))) (by decide) rfl ?_
        refine QD.ev T (by decide) rfl rfl ?_
        first | refine QD.ev T (by decide) rfl rfl ?_ | refine QD.off (by decide) rfl ?_
        refine QD.e ((Ev.leq rfl rfl).as (show _ = Value.bool false from congrArg Value.bool (decide_eq_false (by omega)))) (by decide) rfl ?_
        refine QD.ev T (by decide) rfl rfl ?_
        refine QD.ev T (by decide) rfl rfl ?_
        refine QD.nil (hZ _ ?_)
        clear hZ Z
        skip
        refine Run.fin (Run.ret1 (by rw [hCf]; exact func38) results38 rfl (hR _ _ _ ?_))
        exact ⟨rfl, _, rfl, fun h => by cases h⟩
    · skip
      refine Run.regionO (D := [some 20, some 21, some 22, some 23, some 24, some 25, some 26, some 2]) [true, true, true, true, true, true, true, true] rfl rfl rfl (fun Z hZ => ?_)
      refine QD.ev T (by decide) rfl rfl ?_
      refine QD.ev T (by decide) rfl rfl ?_
      refine QD.e ((Ev.leq rfl rfl).as (show _ = Value.bool false from congrArg Value.bool (decide_eq_false (by omega)))) (by decide) rfl ?_
      refine QD.ev T (by decide) rfl rfl ?_
      first | refine QD.ev T (by decide) rfl rfl ?_ | refine QD.off (by decide) rfl ?_
      first | refine QD.e (Ev.leq rfl rfl) (by decide) rfl ?_ | refine QD.off (by decide) rfl ?_
      refine QD.ev T (by decide) rfl rfl ?_
      refine QD.ev T (by decide) rfl rfl ?_
      refine QD.nil (hZ _ ?_)
      clear hZ Z
      skip
      refine Run.fin (Run.ret1 (by rw [hCf]; exact func38) results38 rfl (hR _ _ _ ?_))
      exact ⟨rfl, _, rfl, fun h => by cases h⟩
end Go.V
namespace Go.V
open Go.RowKit
set_option linter.unusedVariables false
set_option linter.unusedSimpArgs false
def ix (c : UInt8) : List UInt8 → Option Nat
  | [] => none
  | x :: r => if x = c then some 0 else (ix c r).map (· + 1)
def ixI (c : UInt8) (s : List UInt8) : Int := match ix c s with | some k => k | none => -1
theorem ix_drop (c : UInt8) (s : List UInt8) (i : Nat) (h : i < s.length) : ix c (s.drop i) = if s.getD i 0 = c then some 0 else (ix c (s.drop (i + 1))).map (· + 1) := by
  have h1 : s.drop i = s[i] :: s.drop (i + 1) := List.drop_eq_getElem_cons h
  rw [h1, ix]
  simp [List.getD_eq_getElem?_getD, h]
theorem ix_lt {c : UInt8} : ∀ {s : List UInt8} {k : Nat}, ix c s = some k → k < s.length
  | [], k, h => by simp [ix] at h
  | x :: r, k, h => by
    simp only [ix] at h
    split at h
    · simp at h; subst h; simp
    · cases hr : ix c r with
      | none => rw [hr] at h; simp at h
      | some j =>
        rw [hr] at h; simp at h
        have := ix_lt hr
        simp; omega
theorem u8_inj {a b : UInt8} : ((a.toNat : Int) = (b.toNat : Int)) ↔ a = b := by
  constructor
  · intro h; exact UInt8.toNat_inj.1 (by omega)
  · intro h; rw [h]
end Go.V
namespace Go.V
set_option linter.unusedVariables false
set_option linter.unusedSimpArgs false
abbrev Tx := List UInt8
def allIn (cs s : Tx) : Bool := s.all fun b => cs.contains b
def hasB (c : UInt8) (s : Tx) : Bool := s.contains c
def smallT : Tx := [97, 98, 99, 100, 101, 102, 103, 104, 105, 106, 107, 108, 109, 110, 111, 112, 113, 114, 115, 116, 117, 118, 119, 120, 121, 122, 48, 49, 50, 51, 52, 53, 54, 55, 56, 57, 95, 45, 46]
def capT : Tx := [65, 66, 67, 68, 69, 70, 71, 72, 73, 74, 75, 76, 77, 78, 79, 80, 81, 82, 83, 84, 85, 86, 87, 88, 89, 90]
def digT : Tx := [48, 49, 50, 51, 52, 53, 54, 55, 56, 57]
def hexT : Tx := [48, 49, 50, 51, 52, 53, 54, 55, 56, 57, 97, 98, 99, 100, 101, 102]
def sWithin (s cs : Tx) (a b : Nat) : Bool := allIn cs s && (decide (a ≤ s.length) && decide (s.length ≤ b))
def lx (c : UInt8) : Tx → Option Nat
  | [] => none
  | x :: r => match lx c r with
    | some k => some (k + 1)
    | none => if x = c then some 0 else none
def hp (s : Tx) : Bool := sWithin s (smallT ++ capT) 0 300 && !hasB 95 s
def hostPlain (s : Tx) : Bool := match ix 58 s with
  | some k => sWithin (s.drop (k + 1)) digT 1 5 && hp (s.take k)
  | none => hp s
def badB (b : UInt8) : Bool := decide (b.toNat ≤ 32) || decide (b = 47) || decide (b = 63) || decide (b = 35) || decide (b = 64) || decide (b = 127) || decide (b = 92)
def hostBad (s : Tx) : Bool := s.any badB
def localhostT : Tx := [108, 111, 99, 97, 108, 104, 111, 115, 116]
def hosted (s : Tx) : Bool := hasB 46 s || hasB 58 s || decide (s = localhostT)
def hostNamed (s : Tx) : Bool := hostPlain s && hosted s
def hubT : Tx := [105, 110, 100, 101, 120, 46, 100, 111, 99, 107, 101, 114, 46, 105, 111]
def hub (reg : Tx) : Tx := if reg = [] then hubT else reg
def aliasT (s : Tx) : Tx := if s = [100, 111, 99, 107, 101, 114, 46, 105, 111] then hubT else s
structure NOpt where
  strict : Bool
  ins : Bool
  reg : Tx
  tag : Tx
def sReg (strict : Bool) (reg s : Tx) : Tx × Bool × Bool :=
  if (strict && decide (s = [])) || hostBad s then ([], false, false) else (aliasT (if s = [] then hub reg else s), true, !hostPlain s)
def pathGood (s : Tx) : Bool := sWithin s (smallT ++ [47]) 1 255
def tagGood (s : Tx) : Bool := sWithin s (smallT ++ capT) 1 128
def digGood (s : Tx) : Bool := decide (s.length = 71) && (decide (s.take 7 = [115, 104, 97, 50, 53, 54, 58]) && sWithin (s.drop 7) hexT 64 64)
def libT : Tx := [108, 105, 98, 114, 97, 114, 121, 47]
def hostCut (s : Tx) : Tx × Tx := match ix 47 s with
  | some k => if hosted (s.take k) then (s.take k, s.drop (k + 1)) else ([], s)
  | none => ([], s)
def fullP (r p : Tx) : Tx := if decide (r = hubT) && !hasB 47 p then libT ++ p else p
def implNs (r p : Tx) : Bool := decide (r = hubT) && !hasB 47 p
def sRepo (strict : Bool) (reg s : Tx) : Tx × Tx × Bool × Bool :=
  let (h, p) := hostCut s
  let (r, ok, op) := sReg false reg h
  if !pathGood p || !ok || (strict && decide (h = [])) then ([], [], false, op)
  else if implNs r p && strict then ([], [], false, op) else (r, fullP r p, true, op)
def cutTag (s : Tx) : Option (Tx × Tx) := match lx 58 s with
  | some k => if hasB 47 (s.drop k) then none else some (s.take k, s.drop (k + 1))
  | none => none
def latestT : Tx := [108, 97, 116, 101, 115, 116]
def tagOr (t : Tx) : Tx := if t = [] then latestT else t
def sTag (o : NOpt) (s : Tx) : Tx × Tx × Tx × Bool × Bool := match cutTag s with
  | some (rest, t) => if tagGood t then let (r, p, ok, op) := sRepo o.strict o.reg rest; (r, p, t, ok, op) else ([], [], [], false, false)
  | none => if o.strict then ([], [], [], false, false) else let (r, p, ok, op) := sRepo o.strict o.reg s; (r, p, tagOr o.tag, ok, op)
def otherDig (d : Tx) : Bool := decide (7 < d.length) && (decide (d.take 7 = [115, 104, 97, 51, 56, 52, 58]) || decide (d.take 7 = [115, 104, 97, 53, 49, 50, 58]))
def offTag (s : Tx) : Tx := match cutTag s with
  | some (r, t) => if tagGood t then r else s
  | none => s
def sDig (o : NOpt) (s : Tx) : Tx × Tx × Tx × Bool × Bool := match ix 64 s with
  | none => ([], [], [], false, false)
  | some k => if lx 64 s = some k then
      (if digGood (s.drop (k + 1)) then let (r, p, ok, op) := sRepo o.strict o.reg (offTag (s.take k)); (r, p, s.drop (k + 1), ok, op || decide (255 < p.length))
       else ([], [], [], false, otherDig (s.drop (k + 1))))
    else ([], [], [], false, false)
structure Nm where
  kind : Int
  reg : Tx
  rep : Tx
  id : Tx
  name : Tx
  text : Tx
  scheme : Tx
  scope : Tx
  cname : Tx
  ctext : Tx
  rname : Tx
def Nm.zero : Nm := ⟨0, [], [], [], [], [], [], [], [], [], []⟩
def schemeT (b : Bool) : Tx := if b then [104, 116, 116, 112] else [104, 116, 116, 112, 115]
def scopeT (p : Tx) : Tx := [114, 101, 112, 111, 115, 105, 116, 111, 114, 121, 58] ++ p ++ [58, 112, 117, 108, 108]
def repoT (r p : Tx) : Tx := r ++ [47] ++ p
def nmd (sch : Bool) (kind : Int) (r p id text : Tx) : Nm :=
  if kind = 1 then ⟨1, r, p, id, r, r, schemeT sch, [114, 101, 103, 105, 115, 116, 114, 121, 58, 99, 97, 116, 97, 108, 111, 103, 58, 42], [], [], []⟩
  else if kind = 2 then ⟨2, r, p, id, repoT r p, repoT r p, schemeT sch, scopeT p, [], [], []⟩
  else if kind = 3 then ⟨3, r, p, id, repoT r p ++ [58] ++ id, text, schemeT sch, scopeT p, repoT r p, repoT r p, r⟩
  else ⟨4, r, p, id, repoT r p ++ [64] ++ id, text, schemeT sch, scopeT p, repoT r p, repoT r p, r⟩
def sParts (o : NOpt) (which : Int) (s : Tx) : Int × Tx × Tx × Tx × Bool × Bool :=
  if which = 1 then let (r, ok, op) := sReg o.strict o.reg s; (1, r, [], [], ok, op)
  else if which = 2 then let (r, p, ok, op) := sRepo o.strict o.reg s; (2, r, p, [], ok, op)
  else if which = 3 then let (r, p, t, ok, op) := sTag o s; (3, r, p, t, ok, op)
  else if which = 4 then let (r, p, t, ok, op) := sDig o s; (4, r, p, t, ok, op)
  else let (r, p, t, ok, op) := sTag o s
    if !ok && !op then let (r, p, t, ok, op) := sDig o s; (4, r, p, t, ok, op) else (3, r, p, t, ok, op)
end Go.V
