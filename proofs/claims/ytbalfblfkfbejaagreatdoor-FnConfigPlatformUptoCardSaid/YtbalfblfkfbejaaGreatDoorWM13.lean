import Derived.Test.YtbalfblfkfbejaaGreatDoorWM12
import Derived.Test.YtbalfblfkfbejaaGreatDoorWM2
namespace Go.V
open Go.Proofs.Tryz
open Go.RowKit
set_option linter.unusedVariables false
set_option linter.unusedSimpArgs false
set_option maxRecDepth 10000
attribute [local irreducible] Run Ops
theorem PMap.isMap {J : Imm} {w : Value} {xs : List K2} (h : PMap J w xs) : ∃ am, w = .map am := by
  rcases h with ⟨h, _⟩ | ⟨b, _, _, h, _⟩
  · exact ⟨_, h⟩
  · exact ⟨_, h⟩
structure TV where
  (cmd entry env_ onb shell : SlV)
  (vol exp_ lab : Option Nat)
  hc : Option Addr
def St.ts (s : St) (t : TV) : List Value := [.bool s.b1, .bool s.b2, .bool s.b3, t.cmd.v, .pointer t.hc, str s.dom, t.entry.v, t.env_.v, str s.host, str s.img, .map t.lab, t.onb.v, .bool s.b4, .bool s.b5, .bool s.b6, str s.user, .map t.vol, str s.dir, .map t.exp_, .bool s.b7, .bool s.b8, str s.mac, str s.stop, t.shell.v]
set_option maxHeartbeats 8000000 in
theorem Settings_to (I : Imm) (s : St) (v : SV) (hL : StL I s v) (hfit : fitSt s) : Pure prog 107 [.agg (s.cs v).toArray] I fun w J => ∃ t, w = .agg (s.ts t).toArray := by
  obtain ⟨h1, h2, h3, h4, h5, h6, h7, h8, h9⟩ := hL
  obtain ⟨b1, b2, b3_, b4, b5, b6, b7, b8, cmd, entry, env_, onb, shell, vol, exp_, dom, host, img, user, dir, mac, stop, lab, hc⟩ := s
  obtain ⟨cmdv, entryv, envv, onbv, shellv, volv, expv, labv, A9, n9, c9⟩ := v
  simp only at h1 h2 h3 h4 h5 h6 h7 h8 h9
  obtain ⟨⟨f1, f2, f3, f4, f5, f6, f7⟩, -, ⟨f8, -⟩, f9, f10⟩ := hfit
  replace f1 := f1.1
  replace f2 := f2.1
  replace f3 := f3.1
  replace f4 := f4.1
  replace f5 := f5.1
  replace f6 := f6.1
  replace f7 := f7.1
  simp only at f1 f2 f3 f4 f5 f6 f7 f8 f9 f10
  replace h9 : Sl tHe I (.slice A9 n9 c9) hc := h9
  obtain ⟨_, _, e9⟩ := h9.isSl
  cases e9
  refine Spec.enter 83 [(0, _)] func107 rfl ntmps107 (by simp) rfl ?_
  intro C hCf hR hCI
  repeat (first | refine Run.seq ?_ | refine Run.region ?_)
  refine Ops.box rfl (by decide) rfl rfl (fun b => ?_)
  skip
  refine Ops.alloc rfl (by decide) (T.zeroOk rfl) rfl (fun b2_ => ?_)
  repeat (first | refine Run.seq ?_ | refine Ops.nil ?_)
  refine Run.piece (fun env' L' I' => ∃ (b3 : Nat) (t : TV), env' = [(1, .pointer (some ⟨b, 0, none⟩)), (2, .pointer (some ⟨b2_, 0, none⟩)), (3, .pointer (some ⟨b3, 0, none⟩))] ∧ L' = [(b3, blk ((St.mk b1 b2 b3_ b4 b5 b6 b7 b8 cmd entry env_ onb shell vol exp_ dom host img user dir mac stop lab hc).ts t) 105), (b2_, blk zCo 105), (b, blk ((St.mk b1 b2 b3_ b4 b5 b6 b7 b8 cmd entry env_ onb shell vol exp_ dom host img user dir mac stop lab hc).cs ⟨cmdv, entryv, envv, onbv, shellv, volv, expv, labv, ⟨A9, hc.length, c9⟩⟩) 28)] ∧ Le I I') ?_ ?_
  · intro k' fin
    refine Run.regionAny (Holds I [(b2_, blk zCo 105), (b, blk ((St.mk b1 b2 b3_ b4 b5 b6 b7 b8 cmd entry env_ onb shell vol exp_ dom host img user dir mac stop lab hc).cs ⟨cmdv, entryv, envv, onbv, shellv, volv, expv, labv, ⟨A9, hc.length, c9⟩⟩) 28)]) (bl 57 0) (by kernel_rfl) (by kernel_rfl) ?_
    refine RAny.tk 0 (bl 57 1) rfl (by kernel_rfl) (by decide) (fun W h => h.holds (Le.refl _) (by first | exact mp rfl | exact mq rfl)) (Yld.eval T rfl rfl) ?_
    first | refine RAny.tk 1 (bl 57 3) rfl (by kernel_rfl) (by decide) (fun W h => h.holds (Le.refl _) (by first | exact mp rfl | exact mq rfl)) (Yld.load 0 T rfl rfl rfl rfl rfl) ?_ | refine RAny.tk 1 (bl 57 3) rfl (by kernel_rfl) (by decide) (fun W h => h.holds (Le.refl _) (by first | exact mp rfl | exact mq rfl)) (Yld.load 1 T rfl rfl rfl rfl rfl) ?_ | refine RAny.tk 1 (bl 57 3) rfl (by kernel_rfl) (by decide) (fun W h => h.holds (Le.refl _) (by first | exact mp rfl | exact mq rfl)) (Yld.load 2 T rfl rfl rfl rfl rfl) ?_
    refine RAny.tk 2 (bl 57 7) rfl (by kernel_rfl) (by decide) (fun W h => h.holds (Le.refl _) (by first | exact mp rfl | exact mq rfl)) (Yld.eval T rfl rfl) ?_
    first | refine RAny.tk 3 (bl 57 15) rfl (by kernel_rfl) (by decide) (fun W h => h.holds (Le.refl _) (by first | exact mp rfl | exact mq rfl)) (Yld.load 0 T rfl rfl rfl rfl rfl) ?_ | refine RAny.tk 3 (bl 57 15) rfl (by kernel_rfl) (by decide) (fun W h => h.holds (Le.refl _) (by first | exact mp rfl | exact mq rfl)) (Yld.load 1 T rfl rfl rfl rfl rfl) ?_ | refine RAny.tk 3 (bl 57 15) rfl (by kernel_rfl) (by decide) (fun W h => h.holds (Le.refl _) (by first | exact mp rfl | exact mq rfl)) (Yld.load 2 T rfl rfl rfl rfl rfl) ?_
    refine RAny.tk 4 (bl 57 31) rfl (by kernel_rfl) (by decide) (fun W h => h.holds (Le.refl _) (by first | exact mp rfl | exact mq rfl)) (Yld.eval T rfl rfl) ?_
    first | refine RAny.tk 5 (bl 57 63) rfl (by kernel_rfl) (by decide) (fun W h => h.holds (Le.refl _) (by first | exact mp rfl | exact mq rfl)) (Yld.load 0 T rfl rfl rfl rfl rfl) ?_ | refine RAny.tk 5 (bl 57 63) rfl (by kernel_rfl) (by decide) (fun W h => h.holds (Le.refl _) (by first | exact mp rfl | exact mq rfl)) (Yld.load 1 T rfl rfl rfl rfl rfl) ?_ | refine RAny.tk 5 (bl 57 63) rfl (by kernel_rfl) (by decide) (fun W h => h.holds (Le.refl _) (by first | exact mp rfl | exact mq rfl)) (Yld.load 2 T rfl rfl rfl rfl rfl) ?_
    refine RAny.tk 6 (bl 57 127) rfl (by kernel_rfl) (by decide) (fun W h => h.holds (Le.refl _) (by first | exact mp rfl | exact mq rfl)) (Yld.eval T rfl rfl) ?_
    first | refine RAny.tk 7 (bl 57 255) rfl (by kernel_rfl) (by decide) (fun W h => h.holds (Le.refl _) (by first | exact mp rfl | exact mq rfl)) (Yld.load 0 T rfl rfl rfl rfl rfl) ?_ | refine RAny.tk 7 (bl 57 255) rfl (by kernel_rfl) (by decide) (fun W h => h.holds (Le.refl _) (by first | exact mp rfl | exact mq rfl)) (Yld.load 1 T rfl rfl rfl rfl rfl) ?_ | refine RAny.tk 7 (bl 57 255) rfl (by kernel_rfl) (by decide) (fun W h => h.holds (Le.refl _) (by first | exact mp rfl | exact mq rfl)) (Yld.load 2 T rfl rfl rfl rfl rfl) ?_
    refine RAny.tk 8 (bl 57 511) rfl (by kernel_rfl) (by decide) (fun W h => h.holds (Le.refl _) (by first | exact mp rfl | exact mq rfl)) (Yld.eval T rfl rfl) ?_
    first | refine RAny.tk 9 (bl 57 1023) rfl (by kernel_rfl) (by decide) (fun W h => h.holds (Le.refl _) (by first | exact mp rfl | exact mq rfl)) (Yld.load 0 T rfl rfl rfl rfl rfl) ?_ | refine RAny.tk 9 (bl 57 1023) rfl (by kernel_rfl) (by decide) (fun W h => h.holds (Le.refl _) (by first | exact mp rfl | exact mq rfl)) (Yld.load 1 T rfl rfl rfl rfl rfl) ?_ | refine RAny.tk 9 (bl 57 1023) rfl (by kernel_rfl) (by decide) (fun W h => h.holds (Le.refl _) (by first | exact mp rfl | exact mq rfl)) (Yld.load 2 T rfl rfl rfl rfl rfl) ?_
    refine RAny.tk 10 (bl 57 2047) rfl (by kernel_rfl) (by decide) (fun W h => h.holds (Le.refl _) (by first | exact mp rfl | exact mq rfl)) (Yld.eval T rfl rfl) ?_
    first | refine RAny.tk 11 (bl 57 4095) rfl (by kernel_rfl) (by decide) (fun W h => h.holds (Le.refl _) (by first | exact mp rfl | exact mq rfl)) (Yld.load 0 T rfl rfl rfl rfl rfl) ?_ | refine RAny.tk 11 (bl 57 4095) rfl (by kernel_rfl) (by decide) (fun W h => h.holds (Le.refl _) (by first | exact mp rfl | exact mq rfl)) (Yld.load 1 T rfl rfl rfl rfl rfl) ?_ | refine RAny.tk 11 (bl 57 4095) rfl (by kernel_rfl) (by decide) (fun W h => h.holds (Le.refl _) (by first | exact mp rfl | exact mq rfl)) (Yld.load 2 T rfl rfl rfl rfl rfl) ?_
    refine RAny.tk 12 (bl 57 8191) rfl (by kernel_rfl) (by decide) (fun W h => h.holds (Le.refl _) (by first | exact mp rfl | exact mq rfl)) (Yld.eval T rfl rfl) ?_
    first | refine RAny.tk 13 (bl 57 16383) rfl (by kernel_rfl) (by decide) (fun W h => h.holds (Le.refl _) (by first | exact mp rfl | exact mq rfl)) (Yld.load 0 T rfl rfl rfl rfl rfl) ?_ | refine RAny.tk 13 (bl 57 16383) rfl (by kernel_rfl) (by decide) (fun W h => h.holds (Le.refl _) (by first | exact mp rfl | exact mq rfl)) (Yld.load 1 T rfl rfl rfl rfl rfl) ?_ | refine RAny.tk 13 (bl 57 16383) rfl (by kernel_rfl) (by decide) (fun W h => h.holds (Le.refl _) (by first | exact mp rfl | exact mq rfl)) (Yld.load 2 T rfl rfl rfl rfl rfl) ?_
    refine RAny.tk 14 (bl 57 32767) rfl (by kernel_rfl) (by decide) (fun W h => h.holds (Le.refl _) (by first | exact mp rfl | exact mq rfl)) (Yld.eval T rfl rfl) ?_
    first | refine RAny.tk 15 (bl 57 65535) rfl (by kernel_rfl) (by decide) (fun W h => h.holds (Le.refl _) (by first | exact mp rfl | exact mq rfl)) (Yld.load 0 T rfl rfl rfl rfl rfl) ?_ | refine RAny.tk 15 (bl 57 65535) rfl (by kernel_rfl) (by decide) (fun W h => h.holds (Le.refl _) (by first | exact mp rfl | exact mq rfl)) (Yld.load 1 T rfl rfl rfl rfl rfl) ?_ | refine RAny.tk 15 (bl 57 65535) rfl (by kernel_rfl) (by decide) (fun W h => h.holds (Le.refl _) (by first | exact mp rfl | exact mq rfl)) (Yld.load 2 T rfl rfl rfl rfl rfl) ?_
    refine RAny.tk 16 (bl 57 131071) rfl (by kernel_rfl) (by decide) (fun W h => h.holds (Le.refl _) (by first | exact mp rfl | exact mq rfl)) (Yld.eval T rfl rfl) ?_
    first | refine RAny.tk 17 (bl 57 262143) rfl (by kernel_rfl) (by decide) (fun W h => h.holds (Le.refl _) (by first | exact mp rfl | exact mq rfl)) (Yld.load 0 T rfl rfl rfl rfl rfl) ?_ | refine RAny.tk 17 (bl 57 262143) rfl (by kernel_rfl) (by decide) (fun W h => h.holds (Le.refl _) (by first | exact mp rfl | exact mq rfl)) (Yld.load 1 T rfl rfl rfl rfl rfl) ?_ | refine RAny.tk 17 (bl 57 262143) rfl (by kernel_rfl) (by decide) (fun W h => h.holds (Le.refl _) (by first | exact mp rfl | exact mq rfl)) (Yld.load 2 T rfl rfl rfl rfl rfl) ?_
    refine RAny.tk 19 (bl 57 786431) rfl (by kernel_rfl) (by decide) (fun W h => h.holds (Le.refl _) (by first | exact mp rfl | exact mq rfl)) (Yld.eval T rfl rfl) ?_
    first | refine RAny.tk 20 (bl 57 1835007) rfl (by kernel_rfl) (by decide) (fun W h => h.holds (Le.refl _) (by first | exact mp rfl | exact mq rfl)) (Yld.load 0 T rfl rfl rfl rfl rfl) ?_ | refine RAny.tk 20 (bl 57 1835007) rfl (by kernel_rfl) (by decide) (fun W h => h.holds (Le.refl _) (by first | exact mp rfl | exact mq rfl)) (Yld.load 1 T rfl rfl rfl rfl rfl) ?_ | refine RAny.tk 20 (bl 57 1835007) rfl (by kernel_rfl) (by decide) (fun W h => h.holds (Le.refl _) (by first | exact mp rfl | exact mq rfl)) (Yld.load 2 T rfl rfl rfl rfl rfl) ?_
    refine RAny.tk 22 (bl 57 6029311) rfl (by kernel_rfl) (by decide) (fun W h => h.holds (Le.refl _) (by first | exact mp rfl | exact mq rfl)) (Yld.eval T rfl rfl) ?_
    first | refine RAny.tk 23 (bl 57 14417919) rfl (by kernel_rfl) (by decide) (fun W h => h.holds (Le.refl _) (by first | exact mp rfl | exact mq rfl)) (Yld.load 0 T rfl rfl rfl rfl rfl) ?_ | refine RAny.tk 23 (bl 57 14417919) rfl (by kernel_rfl) (by decide) (fun W h => h.holds (Le.refl _) (by first | exact mp rfl | exact mq rfl)) (Yld.load 1 T rfl rfl rfl rfl rfl) ?_ | refine RAny.tk 23 (bl 57 14417919) rfl (by kernel_rfl) (by decide) (fun W h => h.holds (Le.refl _) (by first | exact mp rfl | exact mq rfl)) (Yld.load 2 T rfl rfl rfl rfl rfl) ?_
    refine RAny.tk 25 (bl 57 47972351) rfl (by kernel_rfl) (by decide) (fun W h => h.holds (Le.refl _) (by first | exact mp rfl | exact mq rfl)) (Yld.eval T rfl rfl) ?_
    first | refine RAny.tk 26 (bl 57 115081215) rfl (by kernel_rfl) (by decide) (fun W h => h.holds (Le.refl _) (by first | exact mp rfl | exact mq rfl)) (Yld.load 0 T rfl rfl rfl rfl rfl) ?_ | refine RAny.tk 26 (bl 57 115081215) rfl (by kernel_rfl) (by decide) (fun W h => h.holds (Le.refl _) (by first | exact mp rfl | exact mq rfl)) (Yld.load 1 T rfl rfl rfl rfl rfl) ?_ | refine RAny.tk 26 (bl 57 115081215) rfl (by kernel_rfl) (by decide) (fun W h => h.holds (Le.refl _) (by first | exact mp rfl | exact mq rfl)) (Yld.load 2 T rfl rfl rfl rfl rfl) ?_
    refine RAny.tk 28 (bl 57 383516671) rfl (by kernel_rfl) (by decide) (fun W h => h.holds (Le.refl _) (by first | exact mp rfl | exact mq rfl)) (Yld.eval T rfl rfl) ?_
    first | refine RAny.tk 29 (bl 57 920387583) rfl (by kernel_rfl) (by decide) (fun W h => h.holds (Le.refl _) (by first | exact mp rfl | exact mq rfl)) (Yld.load 0 T rfl rfl rfl rfl rfl) ?_ | refine RAny.tk 29 (bl 57 920387583) rfl (by kernel_rfl) (by decide) (fun W h => h.holds (Le.refl _) (by first | exact mp rfl | exact mq rfl)) (Yld.load 1 T rfl rfl rfl rfl rfl) ?_ | refine RAny.tk 29 (bl 57 920387583) rfl (by kernel_rfl) (by decide) (fun W h => h.holds (Le.refl _) (by first | exact mp rfl | exact mq rfl)) (Yld.load 2 T rfl rfl rfl rfl rfl) ?_
    refine RAny.tk 31 (bl 57 3067871231) rfl (by kernel_rfl) (by decide) (fun W h => h.holds (Le.refl _) (by first | exact mp rfl | exact mq rfl)) (Yld.eval T rfl rfl) ?_
    first | refine RAny.tk 32 (bl 57 7362838527) rfl (by kernel_rfl) (by decide) (fun W h => h.holds (Le.refl _) (by first | exact mp rfl | exact mq rfl)) (Yld.load 0 T rfl rfl rfl rfl rfl) ?_ | refine RAny.tk 32 (bl 57 7362838527) rfl (by kernel_rfl) (by decide) (fun W h => h.holds (Le.refl _) (by first | exact mp rfl | exact mq rfl)) (Yld.load 1 T rfl rfl rfl rfl rfl) ?_ | refine RAny.tk 32 (bl 57 7362838527) rfl (by kernel_rfl) (by decide) (fun W h => h.holds (Le.refl _) (by first | exact mp rfl | exact mq rfl)) (Yld.load 2 T rfl rfl rfl rfl rfl) ?_
    refine RAny.tk 34 (bl 57 24542707711) rfl (by kernel_rfl) (by decide) (fun W h => h.holds (Le.refl _) (by first | exact mp rfl | exact mq rfl)) (Yld.eval T rfl rfl) ?_
    first | refine RAny.tk 35 (bl 57 58902446079) rfl (by kernel_rfl) (by decide) (fun W h => h.holds (Le.refl _) (by first | exact mp rfl | exact mq rfl)) (Yld.load 0 T rfl rfl rfl rfl rfl) ?_ | refine RAny.tk 35 (bl 57 58902446079) rfl (by kernel_rfl) (by decide) (fun W h => h.holds (Le.refl _) (by first | exact mp rfl | exact mq rfl)) (Yld.load 1 T rfl rfl rfl rfl rfl) ?_ | refine RAny.tk 35 (bl 57 58902446079) rfl (by kernel_rfl) (by decide) (fun W h => h.holds (Le.refl _) (by first | exact mp rfl | exact mq rfl)) (Yld.load 2 T rfl rfl rfl rfl rfl) ?_
    refine RAny.tk 37 (bl 57 196341399551) rfl (by kernel_rfl) (by decide) (fun W h => h.holds (Le.refl _) (by first | exact mp rfl | exact mq rfl)) (Yld.eval T rfl rfl) ?_
    first | refine RAny.tk 38 (bl 57 471219306495) rfl (by kernel_rfl) (by decide) (fun W h => h.holds (Le.refl _) (by first | exact mp rfl | exact mq rfl)) (Yld.load 0 T rfl rfl rfl rfl rfl) ?_ | refine RAny.tk 38 (bl 57 471219306495) rfl (by kernel_rfl) (by decide) (fun W h => h.holds (Le.refl _) (by first | exact mp rfl | exact mq rfl)) (Yld.load 1 T rfl rfl rfl rfl rfl) ?_ | refine RAny.tk 38 (bl 57 471219306495) rfl (by kernel_rfl) (by decide) (fun W h => h.holds (Le.refl _) (by first | exact mp rfl | exact mq rfl)) (Yld.load 2 T rfl rfl rfl rfl rfl) ?_
    refine RAny.tk 39 (bl 57 1020975120383) rfl (by kernel_rfl) (by decide) (fun W h => h.holds (Le.refl _) (by first | exact mp rfl | exact mq rfl)) (Yld.eval T rfl rfl) ?_
    first | refine RAny.tk 40 (bl 57 2120486748159) rfl (by kernel_rfl) (by decide) (fun W h => h.holds (Le.refl _) (by first | exact mp rfl | exact mq rfl)) (Yld.load 0 T rfl rfl rfl rfl rfl) ?_ | refine RAny.tk 40 (bl 57 2120486748159) rfl (by kernel_rfl) (by decide) (fun W h => h.holds (Le.refl _) (by first | exact mp rfl | exact mq rfl)) (Yld.load 1 T rfl rfl rfl rfl rfl) ?_ | refine RAny.tk 40 (bl 57 2120486748159) rfl (by kernel_rfl) (by decide) (fun W h => h.holds (Le.refl _) (by first | exact mp rfl | exact mq rfl)) (Yld.load 2 T rfl rfl rfl rfl rfl) ?_
    refine RAny.tk 41 (bl 57 4319510003711) rfl (by kernel_rfl) (by decide) (fun W h => h.holds (Le.refl _) (by first | exact mp rfl | exact mq rfl)) (Yld.eval T rfl rfl) ?_
    first | refine RAny.tk 42 (bl 57 8717556514815) rfl (by kernel_rfl) (by decide) (fun W h => h.holds (Le.refl _) (by first | exact mp rfl | exact mq rfl)) (Yld.load 0 T rfl rfl rfl rfl rfl) ?_ | refine RAny.tk 42 (bl 57 8717556514815) rfl (by kernel_rfl) (by decide) (fun W h => h.holds (Le.refl _) (by first | exact mp rfl | exact mq rfl)) (Yld.load 1 T rfl rfl rfl rfl rfl) ?_ | refine RAny.tk 42 (bl 57 8717556514815) rfl (by kernel_rfl) (by decide) (fun W h => h.holds (Le.refl _) (by first | exact mp rfl | exact mq rfl)) (Yld.load 2 T rfl rfl rfl rfl rfl) ?_
    refine RAny.tk 43 (bl 57 17513649537023) rfl (by kernel_rfl) (by decide) (fun W h => h.holds (Le.refl _) (by first | exact mp rfl | exact mq rfl)) (Yld.eval T rfl rfl) ?_
    first | refine RAny.tk 44 (bl 57 35105835581439) rfl (by kernel_rfl) (by decide) (fun W h => h.holds (Le.refl _) (by first | exact mp rfl | exact mq rfl)) (Yld.load 0 T rfl rfl rfl rfl rfl) ?_ | refine RAny.tk 44 (bl 57 35105835581439) rfl (by kernel_rfl) (by decide) (fun W h => h.holds (Le.refl _) (by first | exact mp rfl | exact mq rfl)) (Yld.load 1 T rfl rfl rfl rfl rfl) ?_ | refine RAny.tk 44 (bl 57 35105835581439) rfl (by kernel_rfl) (by decide) (fun W h => h.holds (Le.refl _) (by first | exact mp rfl | exact mq rfl)) (Yld.load 2 T rfl rfl rfl rfl rfl) ?_
    refine RAny.tk 45 (bl 57 70290207670271) rfl (by kernel_rfl) (by decide) (fun W h => h.holds (Le.refl _) (by first | exact mp rfl | exact mq rfl)) (Yld.eval T rfl rfl) ?_
    first | refine RAny.tk 46 (bl 57 140658951847935) rfl (by kernel_rfl) (by decide) (fun W h => h.holds (Le.refl _) (by first | exact mp rfl | exact mq rfl)) (Yld.load 0 T rfl rfl rfl rfl rfl) ?_ | refine RAny.tk 46 (bl 57 140658951847935) rfl (by kernel_rfl) (by decide) (fun W h => h.holds (Le.refl _) (by first | exact mp rfl | exact mq rfl)) (Yld.load 1 T rfl rfl rfl rfl rfl) ?_ | refine RAny.tk 46 (bl 57 140658951847935) rfl (by kernel_rfl) (by decide) (fun W h => h.holds (Le.refl _) (by first | exact mp rfl | exact mq rfl)) (Yld.load 2 T rfl rfl rfl rfl rfl) ?_
    refine RAny.tk 47 (bl 57 281396440203263) rfl (by kernel_rfl) (by decide) (fun W h => h.holds (Le.refl _) (by first | exact mp rfl | exact mq rfl)) (Yld.eval T rfl rfl) ?_
    first | refine RAny.tk 48 (bl 57 562871416913919) rfl (by kernel_rfl) (by decide) (fun W h => h.holds (Le.refl _) (by first | exact mp rfl | exact mq rfl)) (Yld.load 0 T rfl rfl rfl rfl rfl) ?_ | refine RAny.tk 48 (bl 57 562871416913919) rfl (by kernel_rfl) (by decide) (fun W h => h.holds (Le.refl _) (by first | exact mp rfl | exact mq rfl)) (Yld.load 1 T rfl rfl rfl rfl rfl) ?_ | refine RAny.tk 48 (bl 57 562871416913919) rfl (by kernel_rfl) (by decide) (fun W h => h.holds (Le.refl _) (by first | exact mp rfl | exact mq rfl)) (Yld.load 2 T rfl rfl rfl rfl rfl) ?_
    refine RAny.tk 49 (bl 57 1125821370335231) rfl (by kernel_rfl) (by decide) (fun W h => h.holds (Le.refl _) (by first | exact mp rfl | exact mq rfl)) (Yld.eval T rfl rfl) ?_
    first | refine RAny.tk 50 (bl 57 2251721277177855) rfl (by kernel_rfl) (by decide) (fun W h => h.holds (Le.refl _) (by first | exact mp rfl | exact mq rfl)) (Yld.load 0 T rfl rfl rfl rfl rfl) ?_ | refine RAny.tk 50 (bl 57 2251721277177855) rfl (by kernel_rfl) (by decide) (fun W h => h.holds (Le.refl _) (by first | exact mp rfl | exact mq rfl)) (Yld.load 1 T rfl rfl rfl rfl rfl) ?_ | refine RAny.tk 50 (bl 57 2251721277177855) rfl (by kernel_rfl) (by decide) (fun W h => h.holds (Le.refl _) (by first | exact mp rfl | exact mq rfl)) (Yld.load 2 T rfl rfl rfl rfl rfl) ?_
    refine RAny.tk 51 (bl 57 4503521090863103) rfl (by kernel_rfl) (by decide) (fun W h => h.holds (Le.refl _) (by first | exact mp rfl | exact mq rfl)) (Yld.eval T rfl rfl) ?_
    first | refine RAny.tk 52 (bl 57 9007120718233599) rfl (by kernel_rfl) (by decide) (fun W h => h.holds (Le.refl _) (by first | exact mp rfl | exact mq rfl)) (Yld.load 0 T rfl rfl rfl rfl rfl) ?_ | refine RAny.tk 52 (bl 57 9007120718233599) rfl (by kernel_rfl) (by decide) (fun W h => h.holds (Le.refl _) (by first | exact mp rfl | exact mq rfl)) (Yld.load 1 T rfl rfl rfl rfl rfl) ?_ | refine RAny.tk 52 (bl 57 9007120718233599) rfl (by kernel_rfl) (by decide) (fun W h => h.holds (Le.refl _) (by first | exact mp rfl | exact mq rfl)) (Yld.load 2 T rfl rfl rfl rfl rfl) ?_
    refine RAny.two 18 55 (bl 57 9007120718495743) (bl 57 45035917737197567) rfl rfl (by kernel_rfl) rfl rfl (by decide) (by decide) (Eff.call (impl_copied I cmd _ (h1.mono (Le.refl _)) f1) call108 rfl fun x1 J1 l1 hx1 => ⟨fun W h => h.holds l1 (fun _ h => h), ?_⟩) (Eff.alloc (T.zeroOk rfl) rfl fun b3 => ⟨fun W h => h.holds (Le.refl _) (fun _ h => .tail _ h), ?_⟩)
    skip
    · skip
      skip
      have m1 := l1
      obtain ⟨A11, c11, e11⟩ := hx1.isSl
      subst e11
      refine RAny.two 21 55 (bl 57 9007120720592895) (bl 57 45035917737459711) rfl rfl (by kernel_rfl) rfl rfl (by decide) (by decide) (Eff.call (impl_copied J1 entry _ (h2.mono m1) f2) call108 rfl fun x2 J2 l2 hx2 => ⟨fun W h => h.holds (m1.trans l2) (fun _ h => h), ?_⟩) (Eff.alloc (T.zeroOk rfl) rfl fun b3 => ⟨fun W h => h.holds m1 (fun _ h => .tail _ h), ?_⟩)
      skip
      · skip
        skip
        have m2 := m1.trans l2
        obtain ⟨A12, c12, e12⟩ := hx2.isSl
        subst e12
        refine RAny.two 24 55 (bl 57 9007120737370111) (bl 57 45035917739556863) rfl rfl (by kernel_rfl) rfl rfl (by decide) (by decide) (Eff.call (impl_copied J2 env_ _ (h3.mono m2) f3) call108 rfl fun x3 J3 l3 hx3 => ⟨fun W h => h.holds (m2.trans l3) (fun _ h => h), ?_⟩) (Eff.alloc (T.zeroOk rfl) rfl fun b3 => ⟨fun W h => h.holds m2 (fun _ h => .tail _ h), ?_⟩)
        skip
        · skip
          skip
          have m3 := m2.trans l3
          obtain ⟨A13, c13, e13⟩ := hx3.isSl
          subst e13
          refine RAny.two 27 55 (bl 57 9007120871587839) (bl 57 45035917756334079) rfl rfl (by kernel_rfl) rfl rfl (by decide) (by decide) (Eff.call (impl_copied J3 onb _ (h4.mono m3) f4) call108 rfl fun x4 J4 l4 hx4 => ⟨fun W h => h.holds (m3.trans l4) (fun _ h => h), ?_⟩) (Eff.alloc (T.zeroOk rfl) rfl fun b3 => ⟨fun W h => h.holds m3 (fun _ h => .tail _ h), ?_⟩)
          skip
          · skip
            skip
            have m4 := m3.trans l4
            obtain ⟨A14, c14, e14⟩ := hx4.isSl
            subst e14
            refine RAny.two 30 55 (bl 57 9007121945329663) (bl 57 45035917890551807) rfl rfl (by kernel_rfl) rfl rfl (by decide) (by decide) (Eff.call (impl_copied J4 shell _ (h5.mono m4) f5) call108 rfl fun x5 J5 l5 hx5 => ⟨fun W h => h.holds (m4.trans l5) (fun _ h => h), ?_⟩) (Eff.alloc (T.zeroOk rfl) rfl fun b3 => ⟨fun W h => h.holds m4 (fun _ h => .tail _ h), ?_⟩)
            skip
            · skip
              skip
              have m5 := m4.trans l5
              obtain ⟨A15, c15, e15⟩ := hx5.isSl
              subst e15
              refine RAny.two 33 55 (bl 57 9007130535264255) (bl 57 45035918964293631) rfl rfl (by kernel_rfl) rfl rfl (by decide) (by decide) (Eff.call (impl_setOf J5 vol _ (h6.mono m5) f6) call132 rfl fun x6 J6 l6 hx6 => ⟨fun W h => h.holds (m5.trans l6) (fun _ h => h), ?_⟩) (Eff.alloc (T.zeroOk rfl) rfl fun b3 => ⟨fun W h => h.holds m5 (fun _ h => .tail _ h), ?_⟩)
              skip
              · skip
                skip
                have m6 := m5.trans l6
                obtain ⟨am6, rfl⟩ := hx6
                refine RAny.two 36 55 (bl 57 9007199254740991) (bl 57 45035927554228223) rfl rfl (by kernel_rfl) rfl rfl (by decide) (by decide) (Eff.call (impl_setOf J6 exp_ _ (h7.mono m6) f7) call132 rfl fun x7 J7 l7 hx7 => ⟨fun W h => h.holds (m6.trans l7) (fun _ h => h), ?_⟩) (Eff.alloc (T.zeroOk rfl) rfl fun b3 => ⟨fun W h => h.holds m6 (fun _ h => .tail _ h), ?_⟩)
                skip
                · skip
                  skip
                  have m7 := m6.trans l7
                  obtain ⟨am7, rfl⟩ := hx7
                  refine RAny.two 53 55 (bl 57 18014398509481983) (bl 57 45035996273704959) rfl rfl (by kernel_rfl) rfl rfl (by decide) (by decide) (Eff.call (impl_mapOf J7 lab _ (h8.mono m7) f8) call103 rfl fun x8 J8 l8 hx8 => ⟨fun W h => h.holds (m7.trans l8) (fun _ h => h), ?_⟩) (Eff.alloc (T.zeroOk rfl) rfl fun b3 => ⟨fun W h => h.holds m7 (fun _ h => .tail _ h), ?_⟩)
                  skip
                  · skip
                    skip
                    have m8 := m7.trans l8
                    obtain ⟨am8, e8⟩ := hx8.isMap
                    subst e8
                    skip
                    refine RAny.tk 54 (bl 57 36028797018963967) rfl (by kernel_rfl) (by decide) (fun W h => h.holds m8 (by first | exact mp rfl | exact mq rfl)) (Yld.buildL (cs := [.bool b1, .bool b2, .bool b3_, .slice A11 cmd.length c11, .pointer none, str dom, .slice A12 entry.length c12, .slice A13 env_.length c13, str host, str img, .map am8, .slice A14 onb.length c14, .bool b4, .bool b5, .bool b6, str user, .map am6, str dir, .map am7, .bool b7, .bool b8, str mac, str stop, .slice A15 shell.length c15]) bd105 rfl rfl (by kernel_rfl)) ?_
                    refine RAny.on 55 (bl 57 72057594037927935) rfl (by kernel_rfl) rfl (by decide) (Eff.alloc (T.zeroOk rfl) rfl fun b3 => ⟨fun W h => h.holds m8 (fun _ h => .tail _ h), ?_⟩)
                    refine RAny.os 56 (bl 57 144115188075855871) rfl (by kernel_rfl) rfl (Eff.store 0 rfl rfl rfl rfl (T.sizeOk rfl) rfl (Nat.le_of_ble_eq_true rfl) rfl rfl ⟨fun W h => h.holds m8 (fun _ h => .tail _ h), ?_⟩)
                    refine RAny.done _ (by kernel_rfl) ?_
                    refine Run.keep [1, 2, 3] [_, _, _] rfl ?_
                    exact fin _ _ _ ⟨b3, ⟨⟨_, _, _⟩, ⟨_, _, _⟩, ⟨_, _, _⟩, ⟨_, _, _⟩, ⟨_, _, _⟩, am6, am7, am8, none⟩, rfl, rfl, m8⟩
                  · skip
                    skip
                    skip
                    refine RAny.on 53 (bl 57 54043195528445951) rfl (by kernel_rfl) rfl (by decide) (Eff.call (impl_mapOf J7 lab _ (h8.mono m7) f8) call103 rfl fun x8 J8 l8 hx8 => ⟨fun W h => h.holds (m7.trans l8) (fun _ h => .tail _ h), ?_⟩)
                    have m8 := m7.trans l8
                    obtain ⟨am8, e8⟩ := hx8.isMap
                    subst e8
                    skip
                    refine RAny.tk 54 (bl 57 72057594037927935) rfl (by kernel_rfl) (by decide) (fun W h => h.holds m8 (by first | exact mp rfl | exact mq rfl)) (Yld.buildL (cs := [.bool b1, .bool b2, .bool b3_, .slice A11 cmd.length c11, .pointer none, str dom, .slice A12 entry.length c12, .slice A13 env_.length c13, str host, str img, .map am8, .slice A14 onb.length c14, .bool b4, .bool b5, .bool b6, str user, .map am6, str dir, .map am7, .bool b7, .bool b8, str mac, str stop, .slice A15 shell.length c15]) bd105 rfl rfl (by kernel_rfl)) ?_
                    refine RAny.os 56 (bl 57 144115188075855871) rfl (by kernel_rfl) rfl (Eff.store 0 rfl rfl rfl rfl (T.sizeOk rfl) rfl (Nat.le_of_ble_eq_true rfl) rfl rfl ⟨fun W h => h.holds m8 (fun _ h => .tail _ h), ?_⟩)
                    refine RAny.done _ (by kernel_rfl) ?_
                    refine Run.keep [1, 2, 3] [_, _, _] rfl ?_
                    exact fin _ _ _ ⟨b3, ⟨⟨_, _, _⟩, ⟨_, _, _⟩, ⟨_, _, _⟩, ⟨_, _, _⟩, ⟨_, _, _⟩, am6, am7, am8, none⟩, rfl, rfl, m8⟩
                · skip
                  skip
                  skip
                  refine RAny.on 36 (bl 57 45035996273704959) rfl (by kernel_rfl) rfl (by decide) (Eff.call (impl_setOf J6 exp_ _ (h7.mono m6) f7) call132 rfl fun x7 J7 l7 hx7 => ⟨fun W h => h.holds (m6.trans l7) (fun _ h => .tail _ h), ?_⟩)
                  have m7 := m6.trans l7
                  obtain ⟨am7, rfl⟩ := hx7
                  refine RAny.on 53 (bl 57 54043195528445951) rfl (by kernel_rfl) rfl (by decide) (Eff.call (impl_mapOf J7 lab _ (h8.mono m7) f8) call103 rfl fun x8 J8 l8 hx8 => ⟨fun W h => h.holds (m7.trans l8) (fun _ h => .tail _ h), ?_⟩)
                  have m8 := m7.trans l8
                  obtain ⟨am8, e8⟩ := hx8.isMap
                  subst e8
                  skip
                  refine RAny.tk 54 (bl 57 72057594037927935) rfl (by kernel_rfl) (by decide) (fun W h => h.holds m8 (by first | exact mp rfl | exact mq rfl)) (Yld.buildL (cs := [.bool b1, .bool b2, .bool b3_, .slice A11 cmd.length c11, .pointer none, str dom, .slice A12 entry.length c12, .slice A13 env_.length c13, str host, str img, .map am8, .slice A14 onb.length c14, .bool b4, .bool b5, .bool b6, str user, .map am6, str dir, .map am7, .bool b7, .bool b8, str mac, str stop, .slice A15 shell.length c15]) bd105 rfl rfl (by kernel_rfl)) ?_
                  refine RAny.os 56 (bl 57 144115188075855871) rfl (by kernel_rfl) rfl (Eff.store 0 rfl rfl rfl rfl (T.sizeOk rfl) rfl (Nat.le_of_ble_eq_true rfl) rfl rfl ⟨fun W h => h.holds m8 (fun _ h => .tail _ h), ?_⟩)
                  refine RAny.done _ (by kernel_rfl) ?_
                  refine Run.keep [1, 2, 3] [_, _, _] rfl ?_
                  exact fin _ _ _ ⟨b3, ⟨⟨_, _, _⟩, ⟨_, _, _⟩, ⟨_, _, _⟩, ⟨_, _, _⟩, ⟨_, _, _⟩, am6, am7, am8, none⟩, rfl, rfl, m8⟩
              · skip
                skip
                skip
                refine RAny.on 33 (bl 57 45035927554228223) rfl (by kernel_rfl) rfl (by decide) (Eff.call (impl_setOf J5 vol _ (h6.mono m5) f6) call132 rfl fun x6 J6 l6 hx6 => ⟨fun W h => h.holds (m5.trans l6) (fun _ h => .tail _ h), ?_⟩)
                have m6 := m5.trans l6
                obtain ⟨am6, rfl⟩ := hx6
                refine RAny.on 36 (bl 57 45035996273704959) rfl (by kernel_rfl) rfl (by decide) (Eff.call (impl_setOf J6 exp_ _ (h7.mono m6) f7) call132 rfl fun x7 J7 l7 hx7 => ⟨fun W h => h.holds (m6.trans l7) (fun _ h => .tail _ h), ?_⟩)
                have m7 := m6.trans l7
                obtain ⟨am7, rfl⟩ := hx7
                refine RAny.on 53 (bl 57 54043195528445951) rfl (by kernel_rfl) rfl (by decide) (Eff.call (impl_mapOf J7 lab _ (h8.mono m7) f8) call103 rfl fun x8 J8 l8 hx8 => ⟨fun W h => h.holds (m7.trans l8) (fun _ h => .tail _ h), ?_⟩)
                have m8 := m7.trans l8
                obtain ⟨am8, e8⟩ := hx8.isMap
                subst e8
                skip
                refine RAny.tk 54 (bl 57 72057594037927935) rfl (by kernel_rfl) (by decide) (fun W h => h.holds m8 (by first | exact mp rfl | exact mq rfl)) (Yld.buildL (cs := [.bool b1, .bool b2, .bool b3_, .slice A11 cmd.length c11, .pointer none, str dom, .slice A12 entry.length c12, .slice A13 env_.length c13, str host, str img, .map am8, .slice A14 onb.length c14, .bool b4, .bool b5, .bool b6, str user, .map am6, str dir, .map am7, .bool b7, .bool b8, str mac, str stop, .slice A15 shell.length c15]) bd105 rfl rfl (by kernel_rfl)) ?_
                refine RAny.os 56 (bl 57 144115188075855871) rfl (by kernel_rfl) rfl (Eff.store 0 rfl rfl rfl rfl (T.sizeOk rfl) rfl (Nat.le_of_ble_eq_true rfl) rfl rfl ⟨fun W h => h.holds m8 (fun _ h => .tail _ h), ?_⟩)
                refine RAny.done _ (by kernel_rfl) ?_
                refine Run.keep [1, 2, 3] [_, _, _] rfl ?_
                exact fin _ _ _ ⟨b3, ⟨⟨_, _, _⟩, ⟨_, _, _⟩, ⟨_, _, _⟩, ⟨_, _, _⟩, ⟨_, _, _⟩, am6, am7, am8, none⟩, rfl, rfl, m8⟩
            · skip
              skip
              skip
              refine RAny.on 30 (bl 57 45035918964293631) rfl (by kernel_rfl) rfl (by decide) (Eff.call (impl_copied J4 shell _ (h5.mono m4) f5) call108 rfl fun x5 J5 l5 hx5 => ⟨fun W h => h.holds (m4.trans l5) (fun _ h => .tail _ h), ?_⟩)
              have m5 := m4.trans l5
              obtain ⟨A15, c15, e15⟩ := hx5.isSl
              subst e15
              refine RAny.on 33 (bl 57 45035927554228223) rfl (by kernel_rfl) rfl (by decide) (Eff.call (impl_setOf J5 vol _ (h6.mono m5) f6) call132 rfl fun x6 J6 l6 hx6 => ⟨fun W h => h.holds (m5.trans l6) (fun _ h => .tail _ h), ?_⟩)
              have m6 := m5.trans l6
              obtain ⟨am6, rfl⟩ := hx6
              refine RAny.on 36 (bl 57 45035996273704959) rfl (by kernel_rfl) rfl (by decide) (Eff.call (impl_setOf J6 exp_ _ (h7.mono m6) f7) call132 rfl fun x7 J7 l7 hx7 => ⟨fun W h => h.holds (m6.trans l7) (fun _ h => .tail _ h), ?_⟩)
              have m7 := m6.trans l7
              obtain ⟨am7, rfl⟩ := hx7
              refine RAny.on 53 (bl 57 54043195528445951) rfl (by kernel_rfl) rfl (by decide) (Eff.call (impl_mapOf J7 lab _ (h8.mono m7) f8) call103 rfl fun x8 J8 l8 hx8 => ⟨fun W h => h.holds (m7.trans l8) (fun _ h => .tail _ h), ?_⟩)
              have m8 := m7.trans l8
              obtain ⟨am8, e8⟩ := hx8.isMap
              subst e8
              skip
              refine RAny.tk 54 (bl 57 72057594037927935) rfl (by kernel_rfl) (by decide) (fun W h => h.holds m8 (by first | exact mp rfl | exact mq rfl)) (Yld.buildL (cs := [.bool b1, .bool b2, .bool b3_, .slice A11 cmd.length c11, .pointer none, str dom, .slice A12 entry.length c12, .slice A13 env_.length c13, str host, str img, .map am8, .slice A14 onb.length c14, .bool b4, .bool b5, .bool b6, str user, .map am6, str dir, .map am7, .bool b7, .bool b8, str mac, str stop, .slice A15 shell.length c15]) bd105 rfl rfl (by kernel_rfl)) ?_
              refine RAny.os 56 (bl 57 144115188075855871) rfl (by kernel_rfl) rfl (Eff.store 0 rfl rfl rfl rfl (T.sizeOk rfl) rfl (Nat.le_of_ble_eq_true rfl) rfl rfl ⟨fun W h => h.holds m8 (fun _ h => .tail _ h), ?_⟩)
              refine RAny.done _ (by kernel_rfl) ?_
              refine Run.keep [1, 2, 3] [_, _, _] rfl ?_
              exact fin _ _ _ ⟨b3, ⟨⟨_, _, _⟩, ⟨_, _, _⟩, ⟨_, _, _⟩, ⟨_, _, _⟩, ⟨_, _, _⟩, am6, am7, am8, none⟩, rfl, rfl, m8⟩
          · skip
            skip
            skip
            refine RAny.on 27 (bl 57 45035917890551807) rfl (by kernel_rfl) rfl (by decide) (Eff.call (impl_copied J3 onb _ (h4.mono m3) f4) call108 rfl fun x4 J4 l4 hx4 => ⟨fun W h => h.holds (m3.trans l4) (fun _ h => .tail _ h), ?_⟩)
            have m4 := m3.trans l4
            obtain ⟨A14, c14, e14⟩ := hx4.isSl
            subst e14
            refine RAny.on 30 (bl 57 45035918964293631) rfl (by kernel_rfl) rfl (by decide) (Eff.call (impl_copied J4 shell _ (h5.mono m4) f5) call108 rfl fun x5 J5 l5 hx5 => ⟨fun W h => h.holds (m4.trans l5) (fun _ h => .tail _ h), ?_⟩)
            have m5 := m4.trans l5
            obtain ⟨A15, c15, e15⟩ := hx5.isSl
            subst e15
            refine RAny.on 33 (bl 57 45035927554228223) rfl (by kernel_rfl) rfl (by decide) (Eff.call (impl_setOf J5 vol _ (h6.mono m5) f6) call132 rfl fun x6 J6 l6 hx6 => ⟨fun W h => h.holds (m5.trans l6) (fun _ h => .tail _ h), ?_⟩)
            have m6 := m5.trans l6
            obtain ⟨am6, rfl⟩ := hx6
            refine RAny.on 36 (bl 57 45035996273704959) rfl (by kernel_rfl) rfl (by decide) (Eff.call (impl_setOf J6 exp_ _ (h7.mono m6) f7) call132 rfl fun x7 J7 l7 hx7 => ⟨fun W h => h.holds (m6.trans l7) (fun _ h => .tail _ h), ?_⟩)
            have m7 := m6.trans l7
            obtain ⟨am7, rfl⟩ := hx7
            refine RAny.on 53 (bl 57 54043195528445951) rfl (by kernel_rfl) rfl (by decide) (Eff.call (impl_mapOf J7 lab _ (h8.mono m7) f8) call103 rfl fun x8 J8 l8 hx8 => ⟨fun W h => h.holds (m7.trans l8) (fun _ h => .tail _ h), ?_⟩)
            have m8 := m7.trans l8
            obtain ⟨am8, e8⟩ := hx8.isMap
            subst e8
            skip
            refine RAny.tk 54 (bl 57 72057594037927935) rfl (by kernel_rfl) (by decide) (fun W h => h.holds m8 (by first | exact mp rfl | exact mq rfl)) (Yld.buildL (cs := [.bool b1, .bool b2, .bool b3_, .slice A11 cmd.length c11, .pointer none, str dom, .slice A12 entry.length c12, .slice A13 env_.length c13, str host, str img, .map am8, .slice A14 onb.length c14, .bool b4, .bool b5, .bool b6, str user, .map am6, str dir, .map am7, .bool b7, .bool b8, str mac, str stop, .slice A15 shell.length c15]) bd105 rfl rfl (by kernel_rfl)) ?_
            refine RAny.os 56 (bl 57 144115188075855871) rfl (by kernel_rfl) rfl (Eff.store 0 rfl rfl rfl rfl (T.sizeOk rfl) rfl (Nat.le_of_ble_eq_true rfl) rfl rfl ⟨fun W h => h.holds m8 (fun _ h => .tail _ h), ?_⟩)
            refine RAny.done _ (by kernel_rfl) ?_
            refine Run.keep [1, 2, 3] [_, _, _] rfl ?_
            exact fin _ _ _ ⟨b3, ⟨⟨_, _, _⟩, ⟨_, _, _⟩, ⟨_, _, _⟩, ⟨_, _, _⟩, ⟨_, _, _⟩, am6, am7, am8, none⟩, rfl, rfl, m8⟩
        · skip
          skip
          skip
          refine RAny.on 24 (bl 57 45035917756334079) rfl (by kernel_rfl) rfl (by decide) (Eff.call (impl_copied J2 env_ _ (h3.mono m2) f3) call108 rfl fun x3 J3 l3 hx3 => ⟨fun W h => h.holds (m2.trans l3) (fun _ h => .tail _ h), ?_⟩)
          have m3 := m2.trans l3
          obtain ⟨A13, c13, e13⟩ := hx3.isSl
          subst e13
          refine RAny.on 27 (bl 57 45035917890551807) rfl (by kernel_rfl) rfl (by decide) (Eff.call (impl_copied J3 onb _ (h4.mono m3) f4) call108 rfl fun x4 J4 l4 hx4 => ⟨fun W h => h.holds (m3.trans l4) (fun _ h => .tail _ h), ?_⟩)
          have m4 := m3.trans l4
          obtain ⟨A14, c14, e14⟩ := hx4.isSl
          subst e14
          refine RAny.on 30 (bl 57 45035918964293631) rfl (by kernel_rfl) rfl (by decide) (Eff.call (impl_copied J4 shell _ (h5.mono m4) f5) call108 rfl fun x5 J5 l5 hx5 => ⟨fun W h => h.holds (m4.trans l5) (fun _ h => .tail _ h), ?_⟩)
          have m5 := m4.trans l5
          obtain ⟨A15, c15, e15⟩ := hx5.isSl
          subst e15
          refine RAny.on 33 (bl 57 45035927554228223) rfl (by kernel_rfl) rfl (by decide) (Eff.call (impl_setOf J5 vol _ (h6.mono m5) f6) call132 rfl fun x6 J6 l6 hx6 => ⟨fun W h => h.holds (m5.trans l6) (fun _ h => .tail _ h), ?_⟩)
          have m6 := m5.trans l6
          obtain ⟨am6, rfl⟩ := hx6
          refine RAny.on 36 (bl 57 45035996273704959) rfl (by kernel_rfl) rfl (by decide) (Eff.call (impl_setOf J6 exp_ _ (h7.mono m6) f7) call132 rfl fun x7 J7 l7 hx7 => ⟨fun W h => h.holds (m6.trans l7) (fun _ h => .tail _ h), ?_⟩)
          have m7 := m6.trans l7
          obtain ⟨am7, rfl⟩ := hx7
          refine RAny.on 53 (bl 57 54043195528445951) rfl (by kernel_rfl) rfl (by decide) (Eff.call (impl_mapOf J7 lab _ (h8.mono m7) f8) call103 rfl fun x8 J8 l8 hx8 => ⟨fun W h => h.holds (m7.trans l8) (fun _ h => .tail _ h), ?_⟩)
          have m8 := m7.trans l8
          obtain ⟨am8, e8⟩ := hx8.isMap
          subst e8
          skip
          refine RAny.tk 54 (bl 57 72057594037927935) rfl (by kernel_rfl) (by decide) (fun W h => h.holds m8 (by first | exact mp rfl | exact mq rfl)) (Yld.buildL (cs := [.bool b1, .bool b2, .bool b3_, .slice A11 cmd.length c11, .pointer none, str dom, .slice A12 entry.length c12, .slice A13 env_.length c13, str host, str img, .map am8, .slice A14 onb.length c14, .bool b4, .bool b5, .bool b6, str user, .map am6, str dir, .map am7, .bool b7, .bool b8, str mac, str stop, .slice A15 shell.length c15]) bd105 rfl rfl (by kernel_rfl)) ?_
          refine RAny.os 56 (bl 57 144115188075855871) rfl (by kernel_rfl) rfl (Eff.store 0 rfl rfl rfl rfl (T.sizeOk rfl) rfl (Nat.le_of_ble_eq_true rfl) rfl rfl ⟨fun W h => h.holds m8 (fun _ h => .tail _ h), ?_⟩)
          refine RAny.done _ (by kernel_rfl) ?_
          refine Run.keep [1, 2, 3] [_, _, _] rfl ?_
          exact fin _ _ _ ⟨b3, ⟨⟨_, _, _⟩, ⟨_, _, _⟩, ⟨_, _, _⟩, ⟨_, _, _⟩, ⟨_, _, _⟩, am6, am7, am8, none⟩, rfl, rfl, m8⟩
      · skip
        skip
        skip
        refine RAny.on 21 (bl 57 45035917739556863) rfl (by kernel_rfl) rfl (by decide) (Eff.call (impl_copied J1 entry _ (h2.mono m1) f2) call108 rfl fun x2 J2 l2 hx2 => ⟨fun W h => h.holds (m1.trans l2) (fun _ h => .tail _ h), ?_⟩)
        have m2 := m1.trans l2
        obtain ⟨A12, c12, e12⟩ := hx2.isSl
        subst e12
        refine RAny.on 24 (bl 57 45035917756334079) rfl (by kernel_rfl) rfl (by decide) (Eff.call (impl_copied J2 env_ _ (h3.mono m2) f3) call108 rfl fun x3 J3 l3 hx3 => ⟨fun W h => h.holds (m2.trans l3) (fun _ h => .tail _ h), ?_⟩)
        have m3 := m2.trans l3
        obtain ⟨A13, c13, e13⟩ := hx3.isSl
        subst e13
        refine RAny.on 27 (bl 57 45035917890551807) rfl (by kernel_rfl) rfl (by decide) (Eff.call (impl_copied J3 onb _ (h4.mono m3) f4) call108 rfl fun x4 J4 l4 hx4 => ⟨fun W h => h.holds (m3.trans l4) (fun _ h => .tail _ h), ?_⟩)
        have m4 := m3.trans l4
        obtain ⟨A14, c14, e14⟩ := hx4.isSl
        subst e14
        refine RAny.on 30 (bl 57 45035918964293631) rfl (by kernel_rfl) rfl (by decide) (Eff.call (impl_copied J4 shell _ (h5.mono m4) f5) call108 rfl fun x5 J5 l5 hx5 => ⟨fun W h => h.holds (m4.trans l5) (fun _ h => .tail _ h), ?_⟩)
        have m5 := m4.trans l5
        obtain ⟨A15, c15, e15⟩ := hx5.isSl
        subst e15
        refine RAny.on 33 (bl 57 45035927554228223) rfl (by kernel_rfl) rfl (by decide) (Eff.call (impl_setOf J5 vol _ (h6.mono m5) f6) call132 rfl fun x6 J6 l6 hx6 => ⟨fun W h => h.holds (m5.trans l6) (fun _ h => .tail _ h), ?_⟩)
        have m6 := m5.trans l6
        obtain ⟨am6, rfl⟩ := hx6
        refine RAny.on 36 (bl 57 45035996273704959) rfl (by kernel_rfl) rfl (by decide) (Eff.call (impl_setOf J6 exp_ _ (h7.mono m6) f7) call132 rfl fun x7 J7 l7 hx7 => ⟨fun W h => h.holds (m6.trans l7) (fun _ h => .tail _ h), ?_⟩)
        have m7 := m6.trans l7
        obtain ⟨am7, rfl⟩ := hx7
        refine RAny.on 53 (bl 57 54043195528445951) rfl (by kernel_rfl) rfl (by decide) (Eff.call (impl_mapOf J7 lab _ (h8.mono m7) f8) call103 rfl fun x8 J8 l8 hx8 => ⟨fun W h => h.holds (m7.trans l8) (fun _ h => .tail _ h), ?_⟩)
        have m8 := m7.trans l8
        obtain ⟨am8, e8⟩ := hx8.isMap
        subst e8
        skip
        refine RAny.tk 54 (bl 57 72057594037927935) rfl (by kernel_rfl) (by decide) (fun W h => h.holds m8 (by first | exact mp rfl | exact mq rfl)) (Yld.buildL (cs := [.bool b1, .bool b2, .bool b3_, .slice A11 cmd.length c11, .pointer none, str dom, .slice A12 entry.length c12, .slice A13 env_.length c13, str host, str img, .map am8, .slice A14 onb.length c14, .bool b4, .bool b5, .bool b6, str user, .map am6, str dir, .map am7, .bool b7, .bool b8, str mac, str stop, .slice A15 shell.length c15]) bd105 rfl rfl (by kernel_rfl)) ?_
        refine RAny.os 56 (bl 57 144115188075855871) rfl (by kernel_rfl) rfl (Eff.store 0 rfl rfl rfl rfl (T.sizeOk rfl) rfl (Nat.le_of_ble_eq_true rfl) rfl rfl ⟨fun W h => h.holds m8 (fun _ h => .tail _ h), ?_⟩)
        refine RAny.done _ (by kernel_rfl) ?_
        refine Run.keep [1, 2, 3] [_, _, _] rfl ?_
        exact fin _ _ _ ⟨b3, ⟨⟨_, _, _⟩, ⟨_, _, _⟩, ⟨_, _, _⟩, ⟨_, _, _⟩, ⟨_, _, _⟩, am6, am7, am8, none⟩, rfl, rfl, m8⟩
    · skip
      skip
      skip
      refine RAny.on 18 (bl 57 45035917737459711) rfl (by kernel_rfl) rfl (by decide) (Eff.call (impl_copied I cmd _ (h1.mono (Le.refl _)) f1) call108 rfl fun x1 J1 l1 hx1 => ⟨fun W h => h.holds l1 (fun _ h => .tail _ h), ?_⟩)
      have m1 := l1
      obtain ⟨A11, c11, e11⟩ := hx1.isSl
      subst e11
      refine RAny.on 21 (bl 57 45035917739556863) rfl (by kernel_rfl) rfl (by decide) (Eff.call (impl_copied J1 entry _ (h2.mono m1) f2) call108 rfl fun x2 J2 l2 hx2 => ⟨fun W h => h.holds (m1.trans l2) (fun _ h => .tail _ h), ?_⟩)
      have m2 := m1.trans l2
      obtain ⟨A12, c12, e12⟩ := hx2.isSl
      subst e12
      refine RAny.on 24 (bl 57 45035917756334079) rfl (by kernel_rfl) rfl (by decide) (Eff.call (impl_copied J2 env_ _ (h3.mono m2) f3) call108 rfl fun x3 J3 l3 hx3 => ⟨fun W h => h.holds (m2.trans l3) (fun _ h => .tail _ h), ?_⟩)
      have m3 := m2.trans l3
      obtain ⟨A13, c13, e13⟩ := hx3.isSl
      subst e13
      refine RAny.on 27 (bl 57 45035917890551807) rfl (by kernel_rfl) rfl (by decide) (Eff.call (impl_copied J3 onb _ (h4.mono m3) f4) call108 rfl fun x4 J4 l4 hx4 => ⟨fun W h => h.holds (m3.trans l4) (fun _ h => .tail _ h), ?_⟩)
      have m4 := m3.trans l4
      obtain ⟨A14, c14, e14⟩ := hx4.isSl
      subst e14
      refine RAny.on 30 (bl 57 45035918964293631) rfl (by kernel_rfl) rfl (by decide) (Eff.call (impl_copied J4 shell _ (h5.mono m4) f5) call108 rfl fun x5 J5 l5 hx5 => ⟨fun W h => h.holds (m4.trans l5) (fun _ h => .tail _ h), ?_⟩)
      have m5 := m4.trans l5
      obtain ⟨A15, c15, e15⟩ := hx5.isSl
      subst e15
      refine RAny.on 33 (bl 57 45035927554228223) rfl (by kernel_rfl) rfl (by decide) (Eff.call (impl_setOf J5 vol _ (h6.mono m5) f6) call132 rfl fun x6 J6 l6 hx6 => ⟨fun W h => h.holds (m5.trans l6) (fun _ h => .tail _ h), ?_⟩)
      have m6 := m5.trans l6
      obtain ⟨am6, rfl⟩ := hx6
      refine RAny.on 36 (bl 57 45035996273704959) rfl (by kernel_rfl) rfl (by decide) (Eff.call (impl_setOf J6 exp_ _ (h7.mono m6) f7) call132 rfl fun x7 J7 l7 hx7 => ⟨fun W h => h.holds (m6.trans l7) (fun _ h => .tail _ h), ?_⟩)
      have m7 := m6.trans l7
      obtain ⟨am7, rfl⟩ := hx7
      refine RAny.on 53 (bl 57 54043195528445951) rfl (by kernel_rfl) rfl (by decide) (Eff.call (impl_mapOf J7 lab _ (h8.mono m7) f8) call103 rfl fun x8 J8 l8 hx8 => ⟨fun W h => h.holds (m7.trans l8) (fun _ h => .tail _ h), ?_⟩)
      have m8 := m7.trans l8
      obtain ⟨am8, e8⟩ := hx8.isMap
      subst e8
      skip
      refine RAny.tk 54 (bl 57 72057594037927935) rfl (by kernel_rfl) (by decide) (fun W h => h.holds m8 (by first | exact mp rfl | exact mq rfl)) (Yld.buildL (cs := [.bool b1, .bool b2, .bool b3_, .slice A11 cmd.length c11, .pointer none, str dom, .slice A12 entry.length c12, .slice A13 env_.length c13, str host, str img, .map am8, .slice A14 onb.length c14, .bool b4, .bool b5, .bool b6, str user, .map am6, str dir, .map am7, .bool b7, .bool b8, str mac, str stop, .slice A15 shell.length c15]) bd105 rfl rfl (by kernel_rfl)) ?_
      refine RAny.os 56 (bl 57 144115188075855871) rfl (by kernel_rfl) rfl (Eff.store 0 rfl rfl rfl rfl (T.sizeOk rfl) rfl (Nat.le_of_ble_eq_true rfl) rfl rfl ⟨fun W h => h.holds m8 (fun _ h => .tail _ h), ?_⟩)
      refine RAny.done _ (by kernel_rfl) ?_
      refine Run.keep [1, 2, 3] [_, _, _] rfl ?_
      exact fin _ _ _ ⟨b3, ⟨⟨_, _, _⟩, ⟨_, _, _⟩, ⟨_, _, _⟩, ⟨_, _, _⟩, ⟨_, _, _⟩, am6, am7, am8, none⟩, rfl, rfl, m8⟩
  rintro env L J ⟨b3, t, rfl, rfl, hle⟩
  repeat (first | refine Run.seq ?_ | refine Run.region ?_ | refine Ops.nil ?_ | refine Ops.gtr rfl (by decide) rfl rfl ?_ | refine Ops.pure T rfl (by decide) rfl ?_ | refine Ops.load 2 rfl (by decide) rfl rfl (T.aggOk rfl) rfl ?_)
  refine Run.cond rfl rfl (fun h => ?_) (fun h => ?_)
  all_goals (try rw [h])
  all_goals (try simp only [decide_eq_true_eq, decide_eq_false_iff_not, Bool.not_eq_true', Bool.not_eq_false', Bool.and_eq_true, Bool.or_eq_true, Bool.and_eq_false_imp, Bool.or_eq_false_iff] at h)
  · cases hc with
    | nil => simp at h
    | cons x r =>
    repeat (first | refine Run.seq ?_ | refine Run.region ?_ | refine Ops.pure T rfl (by decide) rfl ?_ | refine Ops.load 2 rfl (by decide) rfl rfl (T.aggOk rfl) rfl ?_)
    refine Ops.indexSl (h9.mono hle) rfl (by decide) rfl rfl (T.undOk rfl) (T.sizeOk rfl) (by decide) (by simp) ?_
    rintro b_ off_ x' cs_ hx hr_ hA_
    obtain rfl : x = x' := by simpa using hx
    obtain ⟨B1, a1, rfl, s1⟩ := hr_
    have g1 : x.test.length ≤ 2147483647 := (f10 x List.mem_cons_self).1
    obtain ⟨test, iv, to_, sp, rt⟩ := x
    simp only at s1 g1
    refine Ops.loadIN rfl (by decide) rfl (hA_) (T.aggOk rfl) (T.sizeOk rfl) rfl ?_
    refine Ops.alloc rfl (by decide) (T.zeroOk rfl) rfl (fun b4_ => ?_)
    repeat (first | refine Ops.nil ?_ | refine Ops.store 0 rfl rfl rfl rfl rfl (T.sizeOk rfl) rfl (Nat.le_of_ble_eq_true rfl) rfl rfl ?_)
    refine Run.regionAny (Holds J [(b4_, blk ((He.mk test iv to_ sp rt).cs (.slice B1 test.length a1)) 82)]) (bl 15 0) (by kernel_rfl) (by kernel_rfl) ?_
    refine RAny.tk 0 (bl 15 1) rfl (by kernel_rfl) (by decide) (fun W h => h.holds (Le.refl _) (by first | exact mp rfl | exact mq rfl)) (Yld.eval T rfl rfl) ?_
    first | refine RAny.tk 1 (bl 15 3) rfl (by kernel_rfl) (by decide) (fun W h => h.holds (Le.refl _) (by first | exact mp rfl | exact mq rfl)) (Yld.load 0 T rfl rfl rfl rfl rfl) ?_ | refine RAny.tk 1 (bl 15 3) rfl (by kernel_rfl) (by decide) (fun W h => h.holds (Le.refl _) (by first | exact mp rfl | exact mq rfl)) (Yld.load 1 T rfl rfl rfl rfl rfl) ?_ | refine RAny.tk 1 (bl 15 3) rfl (by kernel_rfl) (by decide) (fun W h => h.holds (Le.refl _) (by first | exact mp rfl | exact mq rfl)) (Yld.load 2 T rfl rfl rfl rfl rfl) ?_
    refine RAny.tk 3 (bl 15 11) rfl (by kernel_rfl) (by decide) (fun W h => h.holds (Le.refl _) (by first | exact mp rfl | exact mq rfl)) (Yld.eval T rfl rfl) ?_
    first | refine RAny.tk 4 (bl 15 27) rfl (by kernel_rfl) (by decide) (fun W h => h.holds (Le.refl _) (by first | exact mp rfl | exact mq rfl)) (Yld.load 0 T rfl rfl rfl rfl rfl) ?_ | refine RAny.tk 4 (bl 15 27) rfl (by kernel_rfl) (by decide) (fun W h => h.holds (Le.refl _) (by first | exact mp rfl | exact mq rfl)) (Yld.load 1 T rfl rfl rfl rfl rfl) ?_ | refine RAny.tk 4 (bl 15 27) rfl (by kernel_rfl) (by decide) (fun W h => h.holds (Le.refl _) (by first | exact mp rfl | exact mq rfl)) (Yld.load 2 T rfl rfl rfl rfl rfl) ?_
    refine RAny.tk 5 (bl 15 59) rfl (by kernel_rfl) (by decide) (fun W h => h.holds (Le.refl _) (by first | exact mp rfl | exact mq rfl)) (Yld.eval T rfl rfl) ?_
    first | refine RAny.tk 6 (bl 15 123) rfl (by kernel_rfl) (by decide) (fun W h => h.holds (Le.refl _) (by first | exact mp rfl | exact mq rfl)) (Yld.load 0 T rfl rfl rfl rfl rfl) ?_ | refine RAny.tk 6 (bl 15 123) rfl (by kernel_rfl) (by decide) (fun W h => h.holds (Le.refl _) (by first | exact mp rfl | exact mq rfl)) (Yld.load 1 T rfl rfl rfl rfl rfl) ?_ | refine RAny.tk 6 (bl 15 123) rfl (by kernel_rfl) (by decide) (fun W h => h.holds (Le.refl _) (by first | exact mp rfl | exact mq rfl)) (Yld.load 2 T rfl rfl rfl rfl rfl) ?_
    refine RAny.tk 7 (bl 15 251) rfl (by kernel_rfl) (by decide) (fun W h => h.holds (Le.refl _) (by first | exact mp rfl | exact mq rfl)) (Yld.eval T rfl rfl) ?_
    first | refine RAny.tk 8 (bl 15 507) rfl (by kernel_rfl) (by decide) (fun W h => h.holds (Le.refl _) (by first | exact mp rfl | exact mq rfl)) (Yld.load 0 T rfl rfl rfl rfl rfl) ?_ | refine RAny.tk 8 (bl 15 507) rfl (by kernel_rfl) (by decide) (fun W h => h.holds (Le.refl _) (by first | exact mp rfl | exact mq rfl)) (Yld.load 1 T rfl rfl rfl rfl rfl) ?_ | refine RAny.tk 8 (bl 15 507) rfl (by kernel_rfl) (by decide) (fun W h => h.holds (Le.refl _) (by first | exact mp rfl | exact mq rfl)) (Yld.load 2 T rfl rfl rfl rfl rfl) ?_
    refine RAny.tk 9 (bl 15 1019) rfl (by kernel_rfl) (by decide) (fun W h => h.holds (Le.refl _) (by first | exact mp rfl | exact mq rfl)) (Yld.eval T rfl rfl) ?_
    first | refine RAny.tk 10 (bl 15 2043) rfl (by kernel_rfl) (by decide) (fun W h => h.holds (Le.refl _) (by first | exact mp rfl | exact mq rfl)) (Yld.load 0 T rfl rfl rfl rfl rfl) ?_ | refine RAny.tk 10 (bl 15 2043) rfl (by kernel_rfl) (by decide) (fun W h => h.holds (Le.refl _) (by first | exact mp rfl | exact mq rfl)) (Yld.load 1 T rfl rfl rfl rfl rfl) ?_ | refine RAny.tk 10 (bl 15 2043) rfl (by kernel_rfl) (by decide) (fun W h => h.holds (Le.refl _) (by first | exact mp rfl | exact mq rfl)) (Yld.load 2 T rfl rfl rfl rfl rfl) ?_
    refine RAny.on 2 (bl 15 2047) rfl (by kernel_rfl) rfl (by decide) (Eff.call (impl_copied J test _ s1 g1) call108 rfl fun x1 J1 l1 hx1 => ⟨fun W h => h.holds l1 (by first | exact mp rfl | exact mq rfl), ?_⟩)
    obtain ⟨A2, c2, e2⟩ := hx1.isSl
    subst e2
    skip
    refine RAny.tk 11 (bl 15 4095) rfl (by kernel_rfl) (by decide) (fun W h => h.holds l1 (by first | exact mp rfl | exact mq rfl)) (Yld.buildL bd162 rfl rfl rfl) ?_
    refine RAny.on 12 (bl 15 8191) rfl (by kernel_rfl) rfl (by decide) (Eff.box rfl rfl fun b5_ => ⟨fun W h => h.holds l1 (by first | exact mp rfl | exact mq rfl), ?_⟩)
    refine RAny.tk 13 (bl 15 16383) rfl (by kernel_rfl) (by decide) (fun W h => h.holds l1 (by first | exact mp rfl | exact mq rfl)) (Yld.eval T rfl rfl) ?_
    refine RAny.os 14 (bl 15 32767) rfl (by kernel_rfl) rfl (Eff.store 2 rfl rfl rfl rfl (T.sizeOk rfl) rfl (Nat.le_of_ble_eq_true rfl) rfl rfl ⟨fun W h => h.holds l1 (by first | exact mp rfl | exact mq rfl), ?_⟩)
    refine RAny.done _ (by kernel_rfl) ?_
    repeat (first | refine Run.seq ?_ | refine Run.region ?_ | refine Ops.nil ?_ | refine Ops.loadN 2 rfl (by decide) rfl rfl (T.aggOk rfl) (T.sizeOk rfl) rfl rfl ?_ | refine Ops.store 3 rfl rfl rfl rfl rfl (T.sizeOk rfl) rfl (Nat.le_of_ble_eq_true rfl) rfl rfl ?_)
    refine Run.retC T 3 (by rw [hCf]; exact func107) results107 rfl rfl rfl rfl rfl rfl (hR _ _ _ ?_)
    exact ⟨rfl, ⟨t.cmd, t.entry, t.env_, t.onb, t.shell, t.vol, t.exp_, t.lab, some ⟨b5_, 0, none⟩⟩, rfl⟩
  · skip
    repeat (first | refine Run.seq ?_ | refine Run.region ?_ | refine Ops.nil ?_ | refine Run.skip ?_ | refine Ops.loadN 0 rfl (by decide) rfl rfl (T.aggOk rfl) (T.sizeOk rfl) rfl rfl ?_ | refine Ops.store 1 rfl rfl rfl rfl rfl (T.sizeOk rfl) rfl (Nat.le_of_ble_eq_true rfl) rfl rfl ?_)
    refine Run.retC T 1 (by rw [hCf]; exact func107) results107 rfl rfl rfl rfl rfl rfl (hR _ _ _ ?_)
    exact ⟨rfl, t, rfl⟩
end Go.V
namespace Go.V
open Go.Proofs.Tryz
open Go.RowKit
set_option linter.unusedVariables false
set_option linter.unusedSimpArgs false
set_option maxRecDepth 10000
attribute [local irreducible] Run Ops QD
def cfNames : List Bs := [[97, 114, 99, 104, 105, 116, 101, 99, 116, 117, 114, 101], [97, 117, 116, 104, 111, 114], [99, 111, 110, 116, 97, 105, 110, 101, 114], [99, 114, 101, 97, 116, 101, 100], [100, 111, 99, 107, 101, 114, 95, 118, 101, 114, 115, 105, 111, 110], [104, 105, 115, 116, 111, 114, 121], [111, 115], [114, 111, 111, 116, 102, 115], [99, 111, 110, 102, 105, 103], [111, 115, 46, 118, 101, 114, 115, 105, 111, 110], [118, 97, 114, 105, 97, 110, 116], [111, 115, 46, 102, 101, 97, 116, 117, 114, 101, 115]]
theorem cfField (I : Imm) (hU : UT I) (key : Bs) (v : Value) (hS : Sl tStr I v cfNames) (hk : key.length ≤ 137438953472) : Pure prog 175 [str key, v] I fun w J => w = .int .i64 (fieldR key cfNames) :=
  zz_Field I hU key cfNames v hS hk (by decide) (by decide)
def cfB (os : Bs) : List Value := [str [], str [], str [], .int .i64 0, .int .i64 0, .int .i64 0, str [], nilS, str os, str [], nilS] ++ zCo ++ [str [], str [], nilS]
def owT : Bs := [123, 34, 111, 115, 34, 58, 34, 108, 105, 110, 117, 120, 34, 125]
def owV : JV := .mk 123 false [] [.mk 34 true awS [] []] [[111, 115]]
theorem ow_read : rdV 10000 owT = some (owV, []) := by kernel_rfl
set_option maxHeartbeats 2000000 in
theorem cf_take6 (f : Nat) (I : Imm) (hU : UT I) (cs : List Value) (v : JV) (hrel : (tJV (f + 1)).rel I cs v) (key : Bs) (hkl : key.length ≤ 137438953472) (b2 x : Nat) (hB : At I b2 0 [.pointer (some ⟨x, 0, none⟩)])
    (hf : fieldR key cfNames = 6) (hk : v.kind = 34) :
    Spec prog 174 [str key, .agg cs.toArray, .pointer (some ⟨b2, 0, none⟩)] I [(x, blk (cfB []) 107)] fun w J M => w = .bool true ∧ M = [(x, blk (cfB v.text) 107)] := by
  have hrel0 := hrel
  obtain ⟨wk, wn, rfl, hwk, hwn⟩ := hrel
  obtain ⟨A3, z3, rfl⟩ := hwk.isSl
  obtain ⟨A4, z4, rfl⟩ := hwn.isSl
  refine Spec.enter 92 [(0, _), (1, _), (2, _)] func174 rfl ntmps174 (by simp) rfl ?_
  intro C hCf hR hCI
  repeat (first | refine Run.seq ?_)
  refine Run.region ?_
  refine Ops.box rfl (by decide) rfl rfl (fun b4 => ?_)
  refine Ops.pure T rfl (by decide) rfl ?_
  refine Ops.nil ?_
  repeat (first | refine Run.seq ?_)
  refine Run.regionP (D := [some 6, some 7, some 8]) [true] 1 rfl rfl rfl (by simp only [List.drop_succ_cons, List.drop_zero]; rfl) (fun Z hZ => ?_)
  refine QD.ev T (by decide) rfl rfl ?_
  refine QD.nil (hZ _ ?_)
  clear hZ Z
  refine Ops.lit T rfl rfl rfl (by decide) rfl (by decide) (by decide) rfl rfl rfl rfl rfl (fun bq => ?_)
  refine Ops.freezeAt 0 rfl rfl fun J1 l1 hJ1 => ?_
  have hS : Sl tStr J1 (.slice (some ⟨bq, 0, none⟩) 12 12) cfNames := Sl.ofBlock hJ1 (Cells.strs cfNames) rfl (by decide)
  have hB := hB.mono l1
  have hrel := (tJV (f + 1)).mono hrel0 l1
  refine Ops.call ((cfField J1 (hU.mono l1) key _ hS hkl)) rfl (by decide) call175 rfl ?_
  rintro _ J2 l2 rfl
  refine Ops.nil ?_
  rw [hf]
  have hB := hB.mono l2
  have hrel := (tJV (f + 1)).mono hrel l2
  repeat (first | refine Run.seq ?_ | refine Run.block ?_)
  refine Run.regionO (D := [some 10, some 9]) [true, true] rfl rfl rfl (fun Z hZ => ?_)
  refine QD.e (Ev.eqlI rfl rfl) (by decide) rfl ?_
  refine QD.ev T (by decide) rfl rfl ?_
  refine QD.nil (hZ _ ?_)
  clear hZ Z
  repeat (first | refine Run.seq ?_ | refine Run.cond_f rfl ?_)
  refine Run.regionO (D := [some 17, some 16]) [true, true] rfl rfl rfl (fun Z hZ => ?_)
  refine QD.e (Ev.eqlI rfl rfl) (by decide) rfl ?_
  refine QD.ev T (by decide) rfl rfl ?_
  refine QD.nil (hZ _ ?_)
  clear hZ Z
  repeat (first | refine Run.seq ?_ | refine Run.cond_f rfl ?_)
  refine Run.regionO (D := [some 24, some 23]) [true, true] rfl rfl rfl (fun Z hZ => ?_)
  refine QD.e (Ev.eqlI rfl rfl) (by decide) rfl ?_
  refine QD.ev T (by decide) rfl rfl ?_
  refine QD.nil (hZ _ ?_)
  clear hZ Z
  repeat (first | refine Run.seq ?_ | refine Run.cond_f rfl ?_)
  refine Run.regionO (D := [some 31, some 30]) [true, true] rfl rfl rfl (fun Z hZ => ?_)
  refine QD.e (Ev.eqlI rfl rfl) (by decide) rfl ?_
  refine QD.ev T (by decide) rfl rfl ?_
  refine QD.nil (hZ _ ?_)
  clear hZ Z
  repeat (first | refine Run.seq ?_ | refine Run.cond_f rfl ?_)
  refine Run.regionO (D := [some 38, some 37]) [true, true] rfl rfl rfl (fun Z hZ => ?_)
  refine QD.e (Ev.eqlI rfl rfl) (by decide) rfl ?_
  refine QD.ev T (by decide) rfl rfl ?_
  refine QD.nil (hZ _ ?_)
  clear hZ Z
  repeat (first | refine Run.seq ?_ | refine Run.cond_f rfl ?_)
  refine Run.regionO (D := [some 45, some 44]) [true, true] rfl rfl rfl (fun Z hZ => ?_)
  refine QD.e (Ev.eqlI rfl rfl) (by decide) rfl ?_
  refine QD.ev T (by decide) rfl rfl ?_
  refine QD.nil (hZ _ ?_)
  clear hZ Z
  repeat (first | refine Run.seq ?_ | refine Run.cond_f rfl ?_)
  refine Run.regionO (D := [some 51, some 50]) [true, true] rfl rfl rfl (fun Z hZ => ?_)
  refine QD.e (Ev.eqlI rfl rfl) (by decide) rfl ?_
  refine QD.ev T (by decide) rfl rfl ?_
  refine QD.nil (hZ _ ?_)
  clear hZ Z
  repeat (first | refine Run.seq ?_ | refine Run.cond_t rfl ?_)
  refine Run.regionT (D := [some 52, some 53, some 54, some 55, some 56, some 5]) (fun _ => True) [true, true, true, true] (bl 6 15) 2 (by kernel_rfl) (by kernel_rfl) (by kernel_rfl) rfl (fun Z hZ => ?_)
  first | refine QD.yv (by decide) rfl (Yv.loadN 0 T rfl rfl rfl rfl rfl rfl) ?_ | refine QD.yv (by decide) rfl (Yv.loadN 1 T rfl rfl rfl rfl rfl rfl) ?_ | refine QD.yv (by decide) rfl (Yv.loadN 2 T rfl rfl rfl rfl rfl rfl) ?_
  refine QD.yv (by decide) rfl (Yv.loadI T hB rfl rfl) ?_
  refine QD.ev T (by decide) rfl rfl ?_
  refine QD.ev T (by decide) rfl rfl ?_
  refine QD.nil (hZ _ ?_)
  clear hZ Z
  refine RAny.on 4 (bl 6 31) rfl (by kernel_rfl) rfl (by decide) (Eff.callM (M := [_]) (N := [_]) (Value_Str f _ _ v hrel x 8 _ _ (by simp [cfB, zCo])) (List.Perm.swap _ _ _) call176 rfl fun w J' M' l' hw => ⟨fun _ _ => trivial, ?_⟩)
  obtain ⟨rfl, rfl, rfl⟩ := hw
  refine RAny.tk 5 (bl 6 63) rfl (by kernel_rfl) (by decide) (fun _ _ => trivial) (Yld.eval T rfl rfl) ?_
  refine RAny.done _ (by kernel_rfl) ?_
  skip
  refine Run.dropL (L' := [(x, _)]) (List.Sublist.cons_cons _ (List.nil_sublist _)) ?_
  refine Run.ret1 (by rw [hCf]; exact func174) results174 rfl (hR _ _ _ ?_)
  rw [hk]
  exact ⟨rfl, rfl⟩
theorem cf_takeAw (I : Imm) (hU : UT I) (cs : List Value) (hrel : (tJV (10000 + 1)).rel I cs owV) (x : Nat) :
    Spec prog 169 [.pointer (some ⟨x, 0, none⟩), .agg cs.toArray] I [(x, blk (cfB []) 107)] fun w J M => w = .bool true ∧ M = [(x, blk (cfB awS) 107)] := by
  have hrel0 := hrel
  obtain ⟨wk, wn, rfl, hwk, hwn⟩ := hrel
  obtain ⟨A3, z3, rfl⟩ := hwk.isSl
  obtain ⟨A4, z4, rfl⟩ := hwn.isSl
  refine Spec.enter 8 [(0, _), (1, _)] func169 rfl ntmps169 (by simp) rfl ?_
  intro C hCf hR hCI
  repeat (first | refine Run.seq ?_)
  refine Run.region ?_
  refine Ops.box rfl (by decide) rfl rfl (fun b2 => ?_)
  refine Ops.box rfl (by decide) rfl rfl (fun b3 => ?_)
  refine Ops.pure T rfl (by decide) rfl ?_
  refine Ops.nil ?_
  refine Run.freezeAt 1 rfl rfl fun J1 l1 hJ1 => ?_
  have hB : At J1 b2 0 [.pointer (some ⟨x, 0, none⟩)] := At.block hJ1
  repeat (first | refine Run.seq ?_)
  refine Run.regionP (D := [some 5, some 6, some 7, some 4]) [true, true] 2 rfl rfl rfl (by simp only [List.drop_succ_cons, List.drop_zero]; rfl) (fun Z hZ => ?_)
  first | refine QD.yv (by decide) rfl (Yv.loadN 0 T rfl rfl rfl rfl rfl rfl) ?_ | refine QD.yv (by decide) rfl (Yv.loadN 1 T rfl rfl rfl rfl rfl rfl) ?_ | refine QD.yv (by decide) rfl (Yv.loadN 2 T rfl rfl rfl rfl rfl rfl) ?_
  refine QD.ev T (by decide) rfl rfl ?_
  refine QD.nil (hZ _ ?_)
  clear hZ Z
  have hM := Value_Members 10000 J1 _ owV ((tJV (10000 + 1)).mono hrel0 l1) rfl rfl (by decide) 174 [.pointer (some ⟨b2, 0, none⟩)] (fun i J M => M = [(x, blk (if i = 0 then cfB [] else cfB awS) 107)]) _ rfl call174 (fun _ _ _ _ h _ => h)
    (fun i key y J M kc hle hkey hkid hr hSt => by
      subst hSt
      match i, hkey, hkid with
      | 0, hkey, hkid =>
        obtain rfl : [111, 115] = key := Option.some.inj hkey
        obtain rfl : JV.mk 34 true awS [] [] = y := Option.some.inj hkid
        exact cf_take6 9999 J (hU.mono (l1.trans hle)) kc _ hr _ (by decide) b2 x (hB.mono hle) (by decide) rfl
      | n + 1, hkey, hkid => exact absurd hkey (by simp [owV, JV.keys]))
  refine Ops.callP (N := [_]) (hM) (.refl _) rfl (by decide) call173 rfl ?_
  rintro w J2 M2 l2 ⟨rfl, rfl⟩
  refine Ops.pure T rfl (by decide) rfl ?_
  refine Ops.nil ?_
  skip
  refine Run.dropL (L' := [(x, _)]) (List.sublist_cons_self _ _) ?_
  refine Run.ret1 (by rw [hCf]; exact func169) results169 rfl (hR _ _ _ ?_)
  exact ⟨rfl, rfl⟩
theorem meth_cfTake : ∀ u w, (method (prog.types.size + Made.depth) 85 u "ZzTake").run prog w = .ok (169, u) w := by intro u w; kernel_rfl
theorem v1_ParseConfigAw (I : Imm) (hU : UT I) (r : Nat) (pr : Int) (a0 : Addr) (hE : At I 2 0 [eofV a0]) :
    Spec prog 39 [.iface 90 (.pointer (some ⟨r, 0, none⟩))] I [(r, rdO owT 0 pr)] fun w J M => ∃ x, w = .tuple #[.pointer (some ⟨x, 0, none⟩), .nilIface] ∧ M = [(x, blk (cfB awS) 107)] := by
  refine Spec.enter 13 [(0, _)] func39 rfl ntmps39 (by simp) rfl ?_
  intro C hCf hR hCI
  repeat (first | refine Run.seq ?_)
  refine Run.regionO (D := [some 2, some 3]) [true, true] rfl rfl rfl (fun Z hZ => ?_)
  refine QD.ev T (by decide) rfl rfl ?_
  refine QD.ev T (by decide) rfl rfl ?_
  refine QD.nil (hZ _ ?_)
  clear hZ Z
  repeat (first | refine Run.seq ?_)
  refine Run.region ?_
  refine Ops.buildL bd107 rfl (by decide) rfl rfl ?_
  refine Ops.alloc rfl (by decide) (T.zeroOk rfl) rfl (fun x => ?_)
  first | refine Ops.store 0 rfl rfl rfl rfl rfl (T.sizeOk rfl) rfl (Nat.le_of_ble_eq_true rfl) rfl rfl ?_ | refine Ops.store 1 rfl rfl rfl rfl rfl (T.sizeOk rfl) rfl (Nat.le_of_ble_eq_true rfl) rfl rfl ?_ | refine Ops.store 2 rfl rfl rfl rfl rfl (T.sizeOk rfl) rfl (Nat.le_of_ble_eq_true rfl) rfl rfl ?_
  refine Ops.nil ?_
  repeat (first | refine Run.seq ?_)
  refine Run.regionP (D := [some 7, some 8, some 9, some 5]) [true, true] 2 rfl rfl rfl (by simp only [List.drop_succ_cons, List.drop_zero]; rfl) (fun Z hZ => ?_)
  refine QD.ev T (by decide) rfl rfl ?_
  refine QD.ev T (by decide) rfl rfl ?_
  refine QD.nil (hZ _ ?_)
  clear hZ Z
  refine Ops.callP (M := [(r, rdO owT 0 pr), (x, _)]) (N := []) (zz_Decode (R := fun J M => M = [(x, blk (cfB awS) 107)]) I hU owT (by decide) r x pr a0 hE _ 85 169 owV [] ow_read meth_cfTake call169 (fun J cs hle hrel => cf_takeAw J (hU.mono hle) cs hrel x)) (List.Perm.swap _ _ _) rfl (by decide) call81 rfl ?_
  rintro y J2 M2 l2 ⟨rfl, rfl⟩
  refine Ops.pure T rfl (by decide) rfl ?_
  refine Ops.nil ?_
  repeat (first | refine Run.seq ?_)
  refine Run.regionO (D := [some 10, some 11]) [true, true] rfl rfl rfl (fun Z hZ => ?_)
  refine QD.ev T (by decide) rfl rfl ?_
  refine QD.e (Ev.neqNil T rfl rfl rfl rfl rfl) (by decide) rfl ?_
  refine QD.nil (hZ _ ?_)
  clear hZ Z
  repeat (first | refine Run.seq ?_ | refine Run.skip ?_ | refine Run.cond_f rfl ?_)
  refine Run.regionO (D := [some 2, some 3]) [true, true] rfl rfl rfl (fun Z hZ => ?_)
  refine QD.ev T (by decide) rfl rfl ?_
  refine QD.ev T (by decide) rfl rfl ?_
  refine QD.nil (hZ _ ?_)
  clear hZ Z
  skip
  refine Run.ret2 (by rw [hCf]; exact func39) results39 rfl rfl (hR _ _ _ ?_)
  exact ⟨x, rfl, rfl⟩
theorem impl_ConfigParseAw (I : Imm) (hU : UT I) (a0 : Addr) (hE : At I 2 0 [eofV a0]) :
    Pure prog 14 [str owT] I fun w J => ∃ v, w = .tuple #[.agg (awC.cs v).toArray, .bool true] := by
  refine Spec.enter 20 [(0, _)] func14 rfl ntmps14 (by simp) rfl ?_
  intro C hCf hR hCI
  repeat (first | refine Run.seq ?_)
  refine Run.region ?_
  refine Ops.alloc rfl (by decide) (T.zeroOk rfl) rfl (fun b4 => ?_)
  refine Ops.pure T rfl (by decide) rfl ?_
  refine Ops.nil ?_
  repeat (first | refine Run.seq ?_)
  refine Run.regionP (D := [some 7, some 8, some 9, some 10, some 6, some 11, some 12, some 4, some 5]) [true] 1 rfl rfl rfl (by simp only [List.drop_succ_cons, List.drop_zero]; rfl) (fun Z hZ => ?_)
  refine QD.ev T (by decide) rfl rfl ?_
  refine QD.nil (hZ _ ?_)
  clear hZ Z
  refine Ops.callN ((strings_NewReader I owT)) rfl (by decide) call40 rfl ?_
  rintro _ J1 M1 l1 ⟨r, rfl, rfl⟩
  refine Ops.pure T rfl (by decide) rfl ?_
  refine Ops.callP (N := [(b4, _)]) (v1_ParseConfigAw J1 (hU.mono l1) r _ a0 (hE.mono l1)) (perm_of_count fun x => by simp only [List.count_append, List.count_cons, List.count_nil, Nat.add_zero, Nat.zero_add] <;> ac_rfl) rfl (by decide) call39 rfl ?_
  rintro y J2 M2 l2 ⟨x, rfl, rfl⟩
  refine Ops.pure T rfl (by decide) rfl ?_
  refine Ops.pure T rfl (by decide) rfl ?_
  refine Ops.pure T rfl (by decide) rfl ?_
  refine Ops.pure T rfl (by decide) rfl ?_
  refine Ops.pure T rfl (by decide) rfl ?_
  refine Ops.nil ?_
  repeat (first | refine Run.seq ?_)
  refine Run.regionO (D := [some 13, some 14]) [true, true] rfl rfl rfl (fun Z hZ => ?_)
  refine QD.ev T (by decide) rfl rfl ?_
  refine QD.e (Ev.neqNil T rfl rfl rfl rfl rfl) (by decide) rfl ?_
  refine QD.nil (hZ _ ?_)
  clear hZ Z
  repeat (first | refine Run.seq ?_ | refine Run.skip ?_ | refine Run.cond_f rfl ?_)
  refine Run.regionP (D := [some 16, some 17, some 18, some 19, none, some 3]) [true, true, true] 3 rfl rfl rfl (by simp only [List.drop_succ_cons, List.drop_zero]; rfl) (fun Z hZ => ?_)
  refine QD.ev T (by decide) rfl rfl ?_
  refine QD.ev T (by decide) rfl rfl ?_
  first | refine QD.yv (by decide) rfl (Yv.loadN 0 T rfl rfl rfl rfl rfl rfl) ?_ | refine QD.yv (by decide) rfl (Yv.loadN 1 T rfl rfl rfl rfl rfl rfl) ?_ | refine QD.yv (by decide) rfl (Yv.loadN 2 T rfl rfl rfl rfl rfl rfl) ?_
  refine QD.nil (hZ _ ?_)
  clear hZ Z
  refine Ops.call ((impl_configOfAw J2)) rfl (by decide) call41 rfl ?_
  rintro _ J3 l3 ⟨v, rfl⟩
  first | refine Ops.store 0 rfl rfl rfl rfl rfl (T.sizeOk rfl) rfl (Nat.le_of_ble_eq_true rfl) rfl rfl ?_ | refine Ops.store 1 rfl rfl rfl rfl rfl (T.sizeOk rfl) rfl (Nat.le_of_ble_eq_true rfl) rfl rfl ?_ | refine Ops.store 2 rfl rfl rfl rfl rfl (T.sizeOk rfl) rfl (Nat.le_of_ble_eq_true rfl) rfl rfl ?_
  refine Ops.pure T rfl (by decide) rfl ?_
  refine Ops.nil ?_
  skip
  refine Run.retCT T 0 (by rw [hCf]; exact func14) results14 rfl rfl rfl rfl rfl rfl rfl (hR _ _ _ ?_)
  exact ⟨rfl, v, rfl⟩
theorem configAwake (I : Imm) (hU : UT I) (a0 : Addr) (hE : At I 2 0 [eofV a0]) : Pure prog 13 [] I fun w J => w = .bool true := by
  refine Spec.enter 18 [] func13 rfl ntmps13 (by simp) rfl ?_
  intro C hCf hR hCI
  repeat (first | refine Run.seq ?_)
  refine Run.regionO (D := [some 0]) [true] rfl rfl rfl (fun Z hZ => ?_)
  refine QD.ev T (by decide) rfl rfl ?_
  refine QD.nil (hZ _ ?_)
  clear hZ Z
  repeat (first | refine Run.seq ?_)
  refine Run.region ?_
  refine Ops.call ((impl_ConfigParseAw I hU a0 hE)) rfl (by decide) call14 rfl ?_
  rintro _ J1 l1 ⟨v, rfl⟩
  refine Ops.pure T rfl (by decide) rfl ?_
  refine Ops.pure T rfl (by decide) rfl ?_
  refine Ops.pure T rfl (by decide) rfl ?_
  refine Ops.alloc rfl (by decide) (T.zeroOk rfl) rfl (fun b1 => ?_)
  first | refine Ops.store 0 rfl rfl rfl rfl rfl (T.sizeOk rfl) rfl (Nat.le_of_ble_eq_true rfl) rfl rfl ?_ | refine Ops.store 1 rfl rfl rfl rfl rfl (T.sizeOk rfl) rfl (Nat.le_of_ble_eq_true rfl) rfl rfl ?_ | refine Ops.store 2 rfl rfl rfl rfl rfl (T.sizeOk rfl) rfl (Nat.le_of_ble_eq_true rfl) rfl rfl ?_
  refine Ops.pure T rfl (by decide) rfl ?_
  refine Ops.nil ?_
  repeat (first | refine Run.seq ?_)
  refine Run.regionO (D := [some 7, some 8, some 9, some 10, some 11, some 12, some 13, some 14, some 15, some 16, some 17, some 0]) [true, true, true, true, true, true, true, true, true, true, true, true] rfl rfl rfl (fun Z hZ => ?_)
  refine QD.ev T (by decide) rfl rfl ?_
  refine QD.ev T (by decide) rfl rfl ?_
  first | refine QD.ev T (by decide) rfl rfl ?_ | refine QD.off (by decide) rfl ?_
  first | refine QD.yv (by decide) rfl (Yv.load 0 T rfl rfl rfl rfl) ?_ | refine QD.yv (by decide) rfl (Yv.load 1 T rfl rfl rfl rfl) ?_ | refine QD.yv (by decide) rfl (Yv.load 2 T rfl rfl rfl rfl) ?_ | refine QD.off (by decide) rfl ?_
  first | refine QD.e (Ev.eqlS rfl rfl) (by decide) rfl ?_ | refine QD.off (by decide) rfl ?_
  refine QD.ev T (by decide) rfl rfl ?_
  refine QD.ev T (by decide) rfl rfl ?_
  first | refine QD.ev T (by decide) rfl rfl ?_ | refine QD.off (by decide) rfl ?_
  first | refine QD.yv (by decide) rfl (Yv.load 0 T rfl rfl rfl rfl) ?_ | refine QD.yv (by decide) rfl (Yv.load 1 T rfl rfl rfl rfl) ?_ | refine QD.yv (by decide) rfl (Yv.load 2 T rfl rfl rfl rfl) ?_ | refine QD.off (by decide) rfl ?_
  first | refine QD.e (Ev.eqlI rfl rfl) (by decide) rfl ?_ | refine QD.off (by decide) rfl ?_
  refine QD.ev T (by decide) rfl rfl ?_
  refine QD.ev T (by decide) rfl rfl ?_
  refine QD.nil (hZ _ ?_)
  clear hZ Z
  skip
  refine Run.fin (Run.ret1 (by rw [hCf]; exact func13) results13 rfl (hR _ _ _ ?_))
  exact ⟨rfl, rfl⟩
end Go.V
