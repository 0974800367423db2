import Derived.Test.YtcegjgmmbbojdaaGreatDoorAW
import Derived.Test.YtcegjgmmbbojdaaGreatDoorAM19
import Derived.Test.YtcegjgmmbbojdaaGreatDoorAM8
import Derived.Test.YtcegjgmmbbojdaaGreatDoorAM13
import Derived.Test.YtcegjgmmbbojdaaGreatDoorAM18
import Derived.Test.YtcegjgmmbbojdaaGreatDoorAM17
set_option linter.unusedVariables false
set_option linter.unusedSimpArgs false
namespace Go.V
open Go.Proofs.Tryz
open Go.RowKit
set_option maxRecDepth 10000
attribute [local irreducible] Run Ops QD
def rdO (s : List UInt8) (i : Nat) (pr : Int) : Obj := blk [str s, .int .i64 i, .int .i64 pr] 104
theorem strings_NewReader (I : Imm) (s : List UInt8) : Spec prog 24 [str s] I [] fun w J M => ∃ r, w = .pointer (some ⟨r, 0, none⟩) /\ M = [(r, rdO s 0 (-1))] := by
 refine Spec.enter 6 [(0, _)] func24 rfl ntmps24 (by simp) rfl ?_
 intro C hCf hR hCI
 refine rS ?_
 refine rO (fun Z hZ => (eE rfl (zN hZ ((rS (rP 2 (fun Z hZ => (eE rfl (fE (Ev.buildS bd104 rfl rfl) (zN hZ ((Ops.box rfl dc rfl rfl (fun r => (oP rfl (Ops.nil ?_)))))))))))))))
 skip
 refine Run.ret1 (by rw [hCf]; exact func24) results24 rfl (hR _ _ _ ?_)
 exact ⟨r, rfl, rfl⟩
def rdAns (eof : Value) (s : List UInt8) (i m : Nat) : Value := if s.length <= i then .tuple #[.int .i64 0, eof] else .tuple #[.int .i64 (min (s.length - i) m : Nat), .nilIface]
def rdNext (s : List UInt8) (i m : Nat) (pr : Int) : Obj := if s.length <= i then rdO s i pr else rdO s (i + min (s.length - i) m) (-1)
def rdBytes (s : List UInt8) (i : Nat) (xs : List UInt8) : List UInt8 := if s.length <= i then xs else (s.drop i).take xs.length ++ xs.drop (s.length - i)
set_option maxHeartbeats 1000000 in
theorem strings_Read (I : Imm) (s xs : List UInt8) (r b i cap : Nat) (pr : Int) (pre post : List Value) (et : TypeId) (ev : Value) (hE : At I 2 0 [.iface et ev]) (hs : s.length <= 1099511627776) (hi : i <= s.length) :
  Spec prog 165 [.pointer (some ⟨r, 0, none⟩), .slice (some ⟨b, pre.length, none⟩) xs.length cap] I [(r, rdO s i pr), (b, bobj pre xs post 5)] fun w J M =>
   w = rdAns (.iface et ev) s i xs.length /\ M = [(r, rdNext s i xs.length pr), (b, bobj pre (rdBytes s i xs) post 5)] := by
 refine Spec.enter 39 [(0, _), (1, _)] func165 rfl ntmps165 (by simp) rfl ?_
 intro C hCf hR hCI
 refine rS ?_
 refine rO (fun Z hZ => (eE rfl (eE rfl (zN hZ ?_))))
 repeat refine rS ?_
 refine rQ (fun Z hZ => (eE rfl (eE rfl (eE rfl (gY (Yv.load 0 T rfl rfl rfl rfl) (eE rfl (eE rfl (eE rfl (gY (Yv.load 0 T rfl rfl rfl rfl) (fE (Ev.lenS T rfl rfl) (fE (Ev.geq rfl rfl) (zN hZ ?_))))))))))))
 skip
 refine Run.cond rfl rfl (fun h1 => ?_) (fun h1 => ?_)
 all_goals (try rw [h1])
 all_goals (try simp only [decide_eq_true_eq, decide_eq_false_iff_not, Bool.not_eq_true', Bool.not_eq_false', Bool.and_eq_true, Bool.or_eq_true, Bool.and_eq_false_imp, Bool.or_eq_false_iff] at h1)
 ·have h1' : s.length <= i := by omega
  refine rS ?_
  refine rQ (fun Z hZ => (gY (Yv.loadI T hE rfl rfl) (eE rfl (eE rfl (zN hZ ?_)))))
  skip
  refine Run.ret2 (by rw [hCf]; exact func165) results165 rfl rfl (hR _ _ _ ?_)
  unfold rdAns rdNext rdBytes
  rw [if_pos h1', if_pos h1', if_pos h1']
  exact ⟨rfl, rfl⟩
 ·have h1' : ¬ s.length <= i := by omega
  repeat (first | refine rS ?_ | refine rK ?_)
  refine rP 3 (fun Z hZ => (eE rfl (eE rfl (eE rfl (zN hZ ((Ops.store 0 rfl rfl rfl rfl rfl (T.sizeOk rfl) rfl (lb rfl) rfl rfl (Ops.nil (rS (Run.regionT (D := [some 20, some 21, some 22, some 23, some 24, some 25, some 26, some 27, some 28, some 29, some 30, some 4]) (fun _ => True) [true, true, true, true, true, true, true, true, true, true] (bl 12 1023) 2 (by kernel_rfl) (by kernel_rfl) (by kernel_rfl) rfl (fun Z hZ => ?_)))))))))))
  iterate 4 refine eE rfl ?_
  refine gY (Yv.load 0 T rfl rfl rfl rfl) (eE rfl (eE rfl (eE rfl (gY (Yv.load 0 T rfl rfl rfl rfl) (fE (Ev.cutSLo T rfl rfl rfl om om) (zN hZ ?_))))))
  rw [Int.toNat_natCast]
  refine RAny.on 10 (bl 12 2047) rfl (by kernel_rfl) rfl dc (Eff.copyAt (N := [(r, _)]) btB rfl rfl (List.Perm.swap _ _ _) ⟨fun _ _ => trivial, (RAny.tk 11 (bl 12 4095) rfl (by kernel_rfl) dc (fun _ _ => trivial) (Yld.eval T rfl rfl) (RAny.done _ (by kernel_rfl) (rS ?_)))⟩)
  have hm : (min (s.drop i).length xs.length : Nat) = min (s.length - i) xs.length := by simp
  rw [hm]
  refine rP 8 (fun Z hZ => (eE rfl (eE rfl (eE rfl (gY (Yv.load 1 T rfl rfl rfl rfl) (eE rfl (fE (Ev.addI rfl rfl (wI om om)) (eE rfl (eE rfl (zN hZ ((Ops.store 1 rfl rfl rfl rfl rfl (T.sizeOk rfl) rfl (lb rfl) rfl rfl (Ops.nil ?_)))))))))))))
  skip
  refine Run.perm (List.Perm.swap _ _ _) ?_
  refine Run.ret2 (by rw [hCf]; exact func165) results165 rfl rfl (hR _ _ _ ?_)
  unfold rdAns rdNext rdBytes
  rw [if_neg h1', if_neg h1', if_neg h1']
  refine ⟨rfl, ?_⟩
  rw [List.length_drop]
  rfl
theorem meth_rd : ∀ u w, (method (prog.types.size + Made.depth) 67 u "Read").run prog w = .ok (165, u) w := by intro u w; kernel_rfl
theorem nil_rd : ∀ a w, (nilAhead (prog.types.size + Made.depth) 67 (.pointer (some a)) "Read").run prog w = .ok (some false) w := by intro a w; kernel_rfl
abbrev eofV (a : Addr) : Value := .iface 154 (.pointer (some a))
theorem bobj_read (s cur xs : List UInt8) (i : Nat) (e : TypeId) (hi : i < s.length) : bobj (wb cur) (rdBytes s i xs) [] e = bobj (wb (cur ++ (s.drop i).take xs.length)) (xs.drop (s.length - i)) [] e := by
 unfold bobj rdBytes
 rw [if_neg (by omega)]
 simp only [wb, List.map_append, List.append_assoc]
theorem bobj_all (cur xs : List UInt8) (e : TypeId) : bobj (wb cur) xs [] e = blk (([] : List Value) ++ wb cur ++ wb xs) e := by
 unfold bobj; simp
theorem Buf.ofBlock (b c : Nat) (e : TypeId) : Buf e (.slice (some ⟨b, 0, none⟩) 0 c) [] [(b, blk (wb (List.replicate c 0)) e)] :=
 .inr ⟨b, [], wb (List.replicate c 0), c, rfl, by simp [wb], Nat.zero_le _, by simp [wb]⟩
theorem bobj_zero (b c : Nat) (e : TypeId) : blk (wb (List.replicate c 0)) e = bobj (wb []) (List.replicate c 0) [] e := by
 unfold bobj; simp [wb]
theorem sl_cur {J : Imm} {b C : Nat} {cur xs : List UInt8} (hJ : J b = some (bobj (wb cur) xs [] 5)) (hC : cur.length <= C) (hx : C <= cur.length + xs.length) : Sl tU8 J (.slice (some ⟨b, 0, none⟩) cur.length C) cur := by
 rw [bobj_all] at hJ
 exact Buf.sl (M := [(b, blk (([] : List Value) ++ wb cur ++ wb xs) 5)]) (.inr ⟨b, [], wb xs, C, rfl, rfl, hC, by simpa [wb] using hx⟩) (fun b' o h => by
  obtain ⟨rfl, rfl⟩ := Prod.mk.inj (List.mem_singleton.1 h); exact hJ)
theorem Rd.ofSl {J : Imm} {b off c : Nat} {s : List UInt8} (h : Sl tU8 J (.slice (some ⟨b, off, none⟩) s.length c) s) : Rd J (.slice (some ⟨b, off, none⟩) s.length c) s b off c := by
 by_cases hs : s = []
 ·subst hs
  exact ⟨rfl, Nat.zero_le _, fun i hi => absurd hi (Nat.not_lt_zero _)⟩
 ·obtain ⟨db, off', c', h'⟩ := Rd.of h hs
  have e := h'.eq
  injection e with e1 _ e3
  injection e1 with e1
  injection e1 with e1 e2 _
  subst e1; subst e2; subst e3
  exact h'
set_option maxHeartbeats 4000000 in
theorem io_ReadAll (I : Imm) (s : List UInt8) (r : Nat) (pr : Int) (a0 : Addr) (hE : At I 2 0 [eofV a0]) (hs : s.length <= 1099511627776) :
  Spec prog 54 [.iface 67 (.pointer (some ⟨r, 0, none⟩))] I [(r, rdO s 0 pr)] fun w J M => ∃ v db off c, w = .tuple #[v, .nilIface] /\ Rd J v s db off c /\ M = [] := by
 refine Spec.enter 91 [(0, _)] func54 rfl ntmps54 (by simp) rfl ?_
 intro C hCf hR hCI
 refine rS ?_
 refine rO (fun Z hZ => (eE rfl (eE rfl (zN hZ ((rS (Run.region (Ops.makeBuf (a := 0) (c := 512) btB rfl dc rfl rfl (by omega) (by omega) fun B hB => ?_))))))))
 clear hB
 rw [bobj_zero B]
 obtain ⟨xs, hxs, hxl⟩ : ∃ xs : List UInt8, List.replicate 512 0 = xs /\ xs.length = 512 := ⟨_, rfl, List.length_replicate⟩
 rw [hxs]
 clear hxs
 refine oP rfl (Ops.nil (rS (rO (fun Z hZ => (eE rfl (zN hZ ((rS (Run.region (Ops.makeGr (tSl tU8) el142 rfl dc rfl rfl dc dc fun bc Mc hGc => (oP rfl (Ops.nil (rS (rO (fun Z hZ => (eE rfl (zN hZ ((rB (Run.keep [0, 4, 5, 6, 7] [_, _, _, _, _] rfl ?_))))))))))))))))))))
 refine Run.perm (L' := (B, bobj (wb []) xs [] 5) :: (r, rdO s 0 pr) :: Mc) (List.perm_append_comm (l₁ := Mc) (l₂ := [_, _])) ?_
 refine Run.rounds (fun m env L J => ∃ (i : Nat) (B : Nat) (cur xs : List UInt8) (pr : Int) (nx : Nat) (cl : List (List UInt8)) (vc : Value) (Mc : Own), m = s.length - i /\ i <= s.length /\ s.take i = cl.flatten ++ cur /\ (cur.length + xs.length) / 16 <= xs.length /\ 256 <= cur.length + xs.length /\ cur.length + xs.length <= 9223372036854775807 /\
   nx <= 2 * cl.flatten.length + 256 /\ 256 <= nx /\ 2 * nx <= 3 * (cur.length + xs.length) /\ cl.length <= cl.flatten.length /\
   Gr (tSl tU8) J 32 vc cl Mc /\ env = [(0, .iface 67 (.pointer (some ⟨r, 0, none⟩))), (4, .slice (some ⟨B, 0, none⟩) cur.length (cur.length + xs.length)), (5, .int .i64 (nx : Int)), (6, vc), (7, .int .i64 (cl.flatten.length : Int))] /\
   L = (B, bobj (wb cur) xs [] 5) :: (r, rdO s i pr) :: Mc /\ Le I J) s.length ⟨0, B, [], xs, pr, 256, [], _, Mc, rfl, by omega, by simp, by simp [hxl], by simp [hxl], by simp [hxl], by simp, by omega, by simp [hxl], by simp, hGc, by rw [show ([] : List UInt8).length + xs.length = 512 by simp [hxl]]; rfl, rfl, Le.refl _⟩ ?_
 clear hGc hxl
 rintro m env L J ⟨i, B, cur, xs, pr, nx, cl, vc, Mc, rfl, hi, htk, hroom, hC0, hC1, hnx, hnx0, hnxC, hcl, hGc, rfl, rfl, hle⟩ ih
 have hE' := hE.mono hle
 have hxs0 : 0 < xs.length := by omega
 repeat (first | refine rS ?_ | refine rB ?_)
 refine Run.regionAny (fun _ => True) (bl 16 0) (by kernel_rfl) (by kernel_rfl) (RAny.tk 0 (bl 16 1) rfl (by kernel_rfl) dc (fun _ _ => trivial) (Yld.eval T rfl rfl) (RAny.tk 1 (bl 16 3) rfl (by kernel_rfl) dc (fun _ _ => trivial) (Yld.eval T rfl rfl) (RAny.tk 2 (bl 16 7) rfl (by kernel_rfl) dc (fun _ _ => trivial) (Yld.eval T rfl rfl) (RAny.tk 3 (bl 16 15) rfl (by kernel_rfl) dc (fun _ _ => trivial) (Yld.eval T rfl rfl) (RAny.tk 4 (bl 16 31) rfl (by kernel_rfl) dc (fun _ _ => trivial) (Yld.eval T rfl rfl) (RAny.tk 5 (bl 16 63) rfl (by kernel_rfl) dc (fun _ _ => trivial) (Yld.ev (Ev.capV T rfl rfl) rfl) ?_))))))
 refine RAny.tk 6 (bl 16 127) rfl (by kernel_rfl) dc (fun _ _ => trivial) (Yld.ev ((Ev.sliceLH (size := 1) T rfl rfl rfl rfl rfl (by omega) (by omega)).as (show _ = Value.slice (some ⟨B, (wb cur).length, none⟩) xs.length xs.length from by rw [if_neg (by omega)]; simp [Addr.add, wb]; intro h; simp [h])) rfl) (RAny.tk 7 (bl 16 255) rfl (by kernel_rfl) dc (fun _ _ => trivial) (Yld.eval T rfl rfl) (RAny.tk 8 (bl 16 511) rfl (by kernel_rfl) dc (fun _ _ => trivial) (Yld.ev (Ev.nilCheckM rfl (nil_rd _)) rfl) (RAny.tk 9 (bl 16 1023) rfl (by kernel_rfl) dc (fun _ _ => trivial) (Yld.eval T rfl rfl) (RAny.on 10 (bl 16 2047) rfl (by kernel_rfl) rfl dc (Eff.invokeM (M := [(r, rdO s i pr), (B, bobj (wb cur) xs [] 5)]) (N := Mc) (strings_Read J s xs r B i xs.length pr (wb cur) [] _ _ hE' hs hi) (List.Perm.swap _ _ _) call165 rfl (meth_rd _) rfl fun y J1 M1 l1 hw => ⟨fun _ _ => trivial, ?_⟩)))))
 obtain ⟨rfl, rfl⟩ := hw
 unfold rdAns rdNext
 skip
 by_cases hq : s.length <= i
 ·rw [if_pos hq, if_pos hq]
  have hii : i = s.length := by omega
  subst hii
  have hall : s = cl.flatten ++ cur := by rw [List.take_length] at htk; exact htk
  have hbr : rdBytes s s.length xs = xs := by unfold rdBytes; rw [if_pos (Nat.le_refl _)]
  rw [hbr]
  refine RAny.tk 11 (bl 16 4095) rfl (by kernel_rfl) dc (fun _ _ => trivial) (Yld.eval T rfl rfl) (RAny.tk 12 (bl 16 8191) rfl (by kernel_rfl) dc (fun _ _ => trivial) (Yld.eval T rfl rfl) (RAny.tk 13 (bl 16 16383) rfl (by kernel_rfl) dc (fun _ _ => trivial) (Yld.eval T rfl rfl) (RAny.tk 14 (bl 16 32767) rfl (by kernel_rfl) dc (fun _ _ => trivial) (Yld.eval T rfl rfl) (RAny.tk 15 (bl 16 65535) rfl (by kernel_rfl) dc (fun _ _ => trivial) (Yld.eval T rfl rfl) (RAny.done _ (by kernel_rfl) (rS (Run.perm (List.Perm.swap _ _ _) ?_)))))))
  refine rO (fun Z hZ => ?_)
  iterate 4 refine eE rfl ?_
  refine fE (Ev.addI rfl rfl (wI (by omega) (by omega))) (fE ((Ev.sliceHi' T rfl rfl rfl rfl (by omega) (by omega)).as (show _ = Value.slice (some ⟨B, 0, none⟩) cur.length (cur.length + xs.length) from by simp)) (eE rfl (zN hZ ?_)))
  repeat refine rS ?_
  refine rO (fun Z hZ => (eE rfl (fE (Ev.neqNil T rfl rfl rfl rfl rfl) (zN hZ ?_))))
  repeat (first | refine rS ?_ | refine rT rfl ?_)
  refine Run.region (oP rfl (Ops.loadI rfl dc rfl (hE'.mono l1) (T.aggOk rfl) (Ops.eqlSame underlying64 underlying154 (show _ = some t154 by kernel_rfl) rfl (show _ = some t228 by kernel_rfl) rfl dc rfl rfl (Ops.nil (rT rfl (rO (fun Z hZ => (eE rfl (zN hZ ?_)))))))))
  repeat refine rS ?_
  have hGc1 := hGc.mono l1
  obtain ⟨Ac, cc, rfl⟩ := hGc1.isSl
  refine Run.freezeAt 0 rfl rfl fun J2 l2 hB => ?_
  have hcur := sl_cur hB (by omega) (Nat.le_refl _)
  refine Run.keepGr (hGc1.mono l2) (N := [(r, _)]) (List.perm_append_comm (l₁ := [_]) (l₂ := Mc)) fun J3 l3 hSl => ?_
  refine Run.dropL (L' := []) (List.nil_sublist _) ?_
  have hcur := hcur.mono l3
  have hsl : s.length = cl.flatten.length + cur.length := by have := congrArg List.length hall; rwa [List.length_append] at this
  by_cases hcl0 : cl = []
  ·subst hcl0
   obtain rfl : s = cur := by simpa using hall
   refine rO (fun Z hZ => (eE rfl (eE rfl (fE (Ev.eqlI rfl rfl) (zN hZ ?_)))))
   repeat (first | refine rS ?_ | refine rT rfl ?_)
   refine rO (fun Z hZ => ?_)
   iterate 4 refine eE rfl ?_
   refine zN hZ ?_
   skip
   refine Run.ret2 (by rw [hCf]; exact func54) results54 rfl rfl (hR _ _ _ ?_)
   exact ⟨_, _, _, _, rfl, Rd.ofSl hcur, rfl⟩
  ·have hcln : 0 < cl.length := List.length_pos_iff.2 hcl0
   refine rO (fun Z hZ => (eE rfl (eE rfl (kF (Ev.eqlI rfl rfl) (by omega) (zN hZ ?_)))))
   repeat (first | refine rS ?_ | refine rK ?_ | refine rF rfl ?_)
   refine rO (fun Z hZ => (eE rfl (eE rfl (eE rfl (fE (Ev.addK (r := ((s.length : Nat) : Int)) rfl rfl (by rw [wI (by omega) (by omega)]; omega)) (eE rfl (zN hZ ((rS (Run.region (oP rfl (Ops.appMake (q := s.length) btB underlying3 rfl dc rfl rfl (by omega) (by omega) fun b2 c2 hc2 hc3 => (Ops.ev ((Ev.sliceHi' T rfl rfl rfl rfl (by omega) (by omega)).as (show _ = Value.slice (some ⟨b2, 0, none⟩) 0 c2 from rfl)) rfl dc (oP rfl (Ops.nil ?_)))))))))))))))
   repeat refine rS ?_
   have hB2 := Buf.ofBlock b2 c2 5
   refine rO (fun Z hZ => (eE rfl (eE rfl (eE rfl (zN hZ ((rB (Run.keep [4, 9, 10, 52, 53, 54] [_, _, _, _, _, _] rfl ?_))))))))
   refine Run.rounds (fun m env L J => ∃ (j : Nat) (fv : Value) (Mf : Own), m = cl.length - j /\ j <= cl.length /\ Buf 5 fv (cl.take j).flatten Mf /\
    env = [(4, .slice (some ⟨B, 0, none⟩) cur.length (cur.length + xs.length)), (9, .nilIface), (10, fv), (52, .slice Ac cl.length cc), (53, .int .i64 (cl.length : Int)), (54, .int .i64 (j : Int))] /\ L = Mf /\ J3 = J) cl.length ⟨0, _, _, by omega, by omega, by simpa using hB2, rfl, rfl, rfl⟩ ?_
   clear hB2
   rintro m env L J ⟨j, fv, Mf, rfl, hj, hBf, rfl, rfl, rfl⟩ ih2
   have hle2 : (cl.take j).flatten.length <= cl.flatten.length := by
    have := congrArg (fun l => (List.flatten l).length) (List.take_append_drop j cl)
    simp only [List.flatten_append, List.length_append] at this; omega
   by_cases hlt : j < cl.length
   ·skip
    refine rS ?_
    refine rO (fun Z hZ => (kT (Ev.lss rfl rfl) (by omega) (zN hZ ?_)))
    repeat (first | refine rS ?_ | refine rK ?_ | refine rB ?_ | refine rT rfl ?_)
    refine Run.region (Ops.indexSl (j := (j : Int)) hSl rfl dc rfl rfl (T.undOk rfl) (T.sizeOk rfl) (by omega) (by omega) fun bb off q cs hq1 hr1 hA => ?_)
    obtain ⟨vq, rfl, hq8⟩ := hr1
    rw [Int.toNat_natCast] at hq1
    obtain ⟨Aq, cq, rfl⟩ := hq8.isSl
    refine Ops.loadI rfl dc rfl hA (T.aggOk rfl) (oP rfl (Ops.nil ?_))
    skip
    have hle3 : (cl.take j).flatten.length + q.length <= cl.flatten.length := by
     obtain ⟨hj', rfl⟩ := List.getElem?_eq_some_iff.1 hq1
     have := congrArg (fun l => (List.flatten l).length) (List.take_append_drop (j + 1) cl)
     rw [List.take_succ_eq_append_getElem hj'] at this
     simp only [List.flatten_append, List.length_append, List.flatten_singleton, List.flatten_cons, List.flatten_nil, List.append_nil] at this; omega
    refine Run.region (oP rfl (oP rfl (Ops.appSlB (N := []) btB hBf hq8 rfl dc rfl rfl rfl (by omega) fun v' M' hB' => (oP rfl (Ops.nil (rI (rO (fun Z hZ => (fE (Ev.addK (r := ((j + 1 : Nat) : Int)) rfl rfl (by rw [wI (by omega) (by omega)]; omega)) (eE rfl (zN hZ ?_)))))))))))
    skip
    refine Run.keep [4, 9, 10, 52, 53, 54] [_, _, _, _, _, _] rfl ?_
    refine ih2 (cl.length - (j + 1)) _ _ _ (by omega) ⟨j + 1, v', M', rfl, by omega, ?_, rfl, rfl, rfl⟩
    obtain ⟨hj', rfl⟩ := List.getElem?_eq_some_iff.1 hq1
    rw [List.take_succ_eq_append_getElem hj', List.flatten_append, List.flatten_singleton]
    exact hB'
   ·obtain rfl : j = cl.length := by omega
    rw [List.take_length] at hBf
    refine rS ?_
    refine rO (fun Z hZ => (kF (Ev.lss rfl rfl) (by omega) (zN hZ ?_)))
    repeat (first | refine rS ?_ | refine Run.exit rfl ?_ | refine rF rfl ?_)
    refine Run.region (oP rfl (oP rfl (Ops.appSlB (N := []) btB hBf hcur rfl dc rfl rfl rfl (by omega) fun v' M' hB' => (oP rfl (Ops.nil (rS (rO (fun Z hZ => ?_))))))))
    iterate 4 refine eE rfl ?_
    refine zN hZ ?_
    skip
    rw [<- hall] at hB'
    refine Run.keepB (M := M') (N := []) hB' (by simp) fun J5 l5 hv => ?_
    refine Run.ret2 (by rw [hCf]; exact func54) results54 rfl rfl (hR _ _ _ ?_)
    have hne : s ≠ [] := fun e => by rw [e] at hsl; simp only [List.length_nil] at hsl; omega
    obtain ⟨db, off, c, hrd⟩ := Rd.of hv hne
    exact ⟨_, db, off, c, rfl, hrd, rfl⟩
 ·skip
  skip
  rw [if_neg hq, if_neg hq, bobj_read s cur xs i _ (by omega)]
  have hq2 : min (s.length - i) xs.length = min xs.length (s.drop i).length := by rw [List.length_drop]; omega
  have htake : (s.drop i).take xs.length = (s.drop i).take (min (s.length - i) xs.length) := List.take_eq_take_iff.2 (by rw [List.length_drop]; omega)
  have hdrl : (xs.drop (s.length - i)).length = xs.length - min (s.length - i) xs.length := by rw [List.length_drop]; omega
  rw [htake]
  have hcl' : ((s.drop i).take (min (s.length - i) xs.length)).length = min (s.length - i) xs.length := by rw [List.length_take, List.length_drop]; omega
  have hqs : min (s.length - i) xs.length <= s.length - i /\ min (s.length - i) xs.length <= xs.length /\ 0 < min (s.length - i) xs.length := by omega
  clear htake hq2
  have htk2 : ∀ q, s.take (i + q) = s.take i ++ (s.drop i).take q := fun q => List.take_add
  generalize min (s.length - i) xs.length = q at *
  have htk' : s.take (i + q) = cl.flatten ++ (cur ++ (s.drop i).take q) := by rw [htk2, htk, List.append_assoc]
  obtain ⟨hq0, hq1, hq2⟩ := hqs
  have hcul : (cur ++ (s.drop i).take q).length = cur.length + q := by rw [List.length_append, hcl']
  generalize cur ++ (s.drop i).take q = cu at *
  generalize xs.drop (s.length - i) = xr at *
  clear htk htk2 hcl'
  have hCC : cur.length + xs.length = cu.length + xr.length := by omega
  have hsum : cl.flatten.length + cu.length <= s.length := by
   have := congrArg List.length htk'
   rw [List.length_take, List.length_append] at this; omega
  refine RAny.tk 11 (bl 16 4095) rfl (by kernel_rfl) dc (fun _ _ => trivial) (Yld.eval T rfl rfl) (RAny.tk 12 (bl 16 8191) rfl (by kernel_rfl) dc (fun _ _ => trivial) (Yld.eval T rfl rfl) (RAny.tk 13 (bl 16 16383) rfl (by kernel_rfl) dc (fun _ _ => trivial) (Yld.eval T rfl rfl) (RAny.tk 14 (bl 16 32767) rfl (by kernel_rfl) dc (fun _ _ => trivial) (Yld.eval T rfl rfl) (RAny.tk 15 (bl 16 65535) rfl (by kernel_rfl) dc (fun _ _ => trivial) (Yld.eval T rfl rfl) (RAny.done _ (by kernel_rfl) (rS (Run.perm (List.Perm.swap _ _ _) ?_)))))))
  refine rO (fun Z hZ => ?_)
  iterate 4 refine eE rfl ?_
  refine fE (Ev.addK (r := ((cu.length : Nat) : Int)) rfl rfl (by rw [wI (by omega) (by omega)]; omega)) (fE ((Ev.sliceHi' T rfl rfl rfl rfl (by omega) (by omega)).as (show _ = Value.slice (some ⟨B, 0, none⟩) cu.length (cu.length + xr.length) from by rw [Int.toNat_natCast, hCC])) (eE rfl (zN hZ ?_)))
  repeat refine rS ?_
  refine rO (fun Z hZ => (eE rfl (fE (Ev.neqNil T rfl rfl rfl rfl rfl) (zN hZ ?_))))
  repeat (first | refine rS ?_ | refine rK ?_ | refine rF rfl ?_)
  have hGc1 := hGc.mono l1
  by_cases hfull : xr.length < (cu.length + xr.length) / 16
  ·skip
   refine rO (fun Z hZ => (eE rfl (fE (Ev.capV T rfl rfl) (eE rfl (eE rfl (fE (Ev.subK (r := ((xr.length : Nat) : Int)) rfl rfl (by rw [wI (by omega) (by omega)]; omega)) (eE rfl (fE (Ev.capV T rfl rfl) (fE (Ev.quoI rfl rfl dc ((congrArg IntKind.i64.wrap (Int.tdiv_eq_ediv_of_nonneg om)).trans (wI om om))) (kT (Ev.lss rfl rfl) (by omega) (zN hZ ?_)))))))))))
   repeat (first | refine rS ?_ | refine rT rfl ?_)
   obtain ⟨Ac, cc, rfl⟩ := hGc1.isSl
   refine Run.freezeAt 0 rfl rfl fun J2 l2 hB => ?_
   have hcur := sl_cur hB (by omega) (Nat.le_refl _)
   have hGc2 := hGc1.mono l2
   clear hB
   refine Run.region (oP rfl (oP rfl (Ops.lit T rfl rfl rfl dc rfl dc dc rfl rfl rfl rfl rfl (fun bq => (Ops.appOne (N := [_]) el142 hGc2 ⟨_, rfl, hcur⟩ rfl dc rfl rfl rfl rfl (by omega) (by omega) fun vc3 Mc3 hGc3 => (oP rfl (Ops.nil (rS (rO (fun Z hZ => (eE rfl (eE rfl (eE rfl (fE (Ev.addK (r := (((cl ++ [cu]).flatten.length : Nat) : Int)) rfl rfl (by rw [wI (by omega) (by omega)]; simp)) (eE rfl (zN hZ ((rS (Run.region (oP rfl (Ops.appMake (q := nx) btB underlying3 rfl dc rfl rfl (by omega) (by omega) fun b2 c2 hc2 hc3 => (Ops.ev ((Ev.sliceHi' T rfl rfl rfl rfl (by omega) (by omega)).as (show _ = Value.slice (some ⟨b2, 0, none⟩) 0 c2 from rfl)) rfl dc (oP rfl (Ops.nil ?_))))))))))))))))))))))))
   skip
   refine rO (fun Z hZ => (eE rfl (eE rfl (fE ((Ev.quoI rfl rfl dc ((congrArg IntKind.i64.wrap (Int.tdiv_eq_ediv_of_nonneg (by omega))).trans (wI (by omega) (by omega)))).as (show _ = Value.int .i64 ((nx / 2 : Nat) : Int) from congrArg (Value.int .i64) (by omega))) (fE (Ev.addK (r := ((nx + nx / 2 : Nat) : Int)) rfl rfl (by rw [wI (by omega) (by omega)]; omega)) (eE rfl (zN hZ ((rI (Run.keep [0, 4, 5, 6, 7] [_, _, _, _, _] rfl ?_))))))))))
   rw [bobj_zero b2]
   have hrl : (List.replicate c2 (0 : UInt8)).length = c2 := List.length_replicate
   have hfl : (cl ++ [cu]).flatten.length = cl.flatten.length + cu.length := by simp
   generalize List.replicate c2 (0 : UInt8) = zs at *
   refine ih (s.length - (i + q)) _ _ _ (by omega) ⟨i + q, b2, [], zs, -1, nx + nx / 2, cl ++ [cu], vc3, Mc3, rfl, by omega, by rw [htk']; simp, by simp only [List.length_nil]; omega, by simp only [List.length_nil]; omega, by simp only [List.length_nil]; omega, by omega, by omega, by simp only [List.length_nil]; omega, by rw [hfl, List.length_append, List.length_singleton]; omega, hGc3, ?_, rfl, (hle.trans l1).trans l2⟩
   rw [List.length_nil, Nat.zero_add, hrl]
   rfl
  ·skip
   refine rO (fun Z hZ => (eE rfl (fE (Ev.capV T rfl rfl) (eE rfl (eE rfl (fE (Ev.subK (r := ((xr.length : Nat) : Int)) rfl rfl (by rw [wI (by omega) (by omega)]; omega)) (eE rfl (fE (Ev.capV T rfl rfl) (fE (Ev.quoI rfl rfl dc ((congrArg IntKind.i64.wrap (Int.tdiv_eq_ediv_of_nonneg om)).trans (wI om om))) (kF (Ev.lss rfl rfl) (by omega) (zN hZ ?_)))))))))))
   repeat (first | refine rK ?_ | refine rI ?_ | refine rF rfl ?_)
   refine Run.keep [0, 4, 5, 6, 7] [_, _, _, _, _] rfl ?_
   exact ih (s.length - (i + q)) _ _ _ (by omega) ⟨i + q, B, cu, xr, -1, nx, cl, vc, Mc, rfl, by omega, htk', by omega, by omega, by omega, hnx, hnx0, by omega, hcl, hGc1, rfl, rfl, hle.trans l1⟩
end Go.V
namespace Go.V
open Go.Proofs.Tryz
open Go.RowKit
set_option maxRecDepth 10000
attribute [local irreducible] Run Ops QD
set_option maxHeartbeats 1000000 in
theorem zz_Decode {R : Imm -> Own -> Prop} (I : Imm) (hU : UT I) (s : Bs) (hs : s.length <= 137438953472) (r x : Nat) (pr : Int) (a0 : Addr) (hE : At I 2 0 [eofV a0]) (o : Obj) (tt : TypeId) (F : FuncId) (v : JV) (t : Bs) (hv : rdV 10000 s = some (v, t))
  (hmeth : ∀ u w, (method (prog.types.size + Made.depth) tt u "ZzTake").run prog w = .ok (F, u) w) (hcall : ∀ args w, (callFunc F args).run prog w = .ok (.enter F args) w)
  (htake : ∀ J cs, Le I J -> (tJV (10000 + 1)).rel J cs v -> Spec prog F [.pointer (some ⟨x, 0, none⟩), .agg cs.toArray] J [(x, o)] fun w J' M => w = .bool true /\ R J' M) :
  Spec prog 43 [.iface 67 (.pointer (some ⟨r, 0, none⟩)), .iface tt (.pointer (some ⟨x, 0, none⟩))] I [(r, rdO s 0 pr), (x, o)] fun w J M => w = .nilIface /\ R J M := by
 refine Spec.enter 60 [(0, _), (1, _)] func43 rfl ntmps43 (by simp) rfl ?_
 intro C hCf hR hCI
 refine rS ?_
 refine rO (fun Z hZ => (eE rfl (zN hZ ((rS (rP 1 (fun Z hZ => (eE rfl (zN hZ ((Ops.callP (M := [(r, rdO s 0 pr)]) (N := [(x, o)]) (io_ReadAll I s r pr a0 hE (by omega)) (List.Perm.swap _ _ _) rfl dc call54 rfl ?_)))))))))))
 rintro y J1 M1 l1 ⟨w, db, off, c, rfl, hR0, rfl⟩
 have hV : ∀ r, _ := fun r => reader_value 10000 s J1 s w db off c r 0 (hU.mono l1) hR0 (Sfx.refl s) hs rfl
 obtain rfl := hR0.eq
 rw [hv] at hV
 have h0 : posR s s = 0 := by unfold posR; omega
 rw [h0] at hV
 iterate 5 refine oP rfl ?_
 refine Ops.nil (rS (Run.region (oP rfl (Ops.buildL bd126 rfl dc rfl rfl (Ops.box rfl dc rfl rfl (fun rb => (oP rfl (Ops.nil (rS (rP 1 (fun Z hZ => (eE rfl (zN hZ ((Ops.callP (N := [(x, o)]) (hV rb) (List.Perm.swap _ _ _) rfl dc call55 rfl ?_)))))))))))))))
 rintro y J2 M2 l2 ⟨cs, rfl, hrel, rfl⟩
 have hrel0 := hrel
 obtain ⟨wk, wn, rfl, hwk, hwn⟩ := hrel
 obtain ⟨A3, z3, rfl⟩ := hwk.isSl
 obtain ⟨A4, z4, rfl⟩ := hwn.isSl
 iterate 3 refine oP rfl ?_
 refine Ops.alloc rfl dc (T.zeroOk rfl) rfl (fun b8 => (Ops.store 0 rfl rfl rfl rfl rfl (T.sizeOk rfl) rfl (lb rfl) rfl rfl (oP rfl (Ops.nil ?_))))
 repeat refine rS ?_
 refine rO (fun Z hZ => (eE rfl (eE rfl (zN hZ ?_))))
 repeat (first | refine rS ?_ | refine rK ?_ | refine rF rfl ?_)
 refine rP 2 (fun Z hZ => (eE rfl (gY (Yv.loadN 0 T rfl rfl rfl rfl rfl rfl) (zN hZ ((Ops.eff rfl (dOk dc) (Eff.invokeM (M := [(x, o)]) (N := [(b8, _), (rb, _)]) (htake J2 _ (l1.trans l2) hrel0) (List.Perm.swap _ _ _) hcall rfl (hmeth _) rfl fun y J3 M' l3 hw => ?_)))))))
 obtain ⟨rfl, hR3⟩ := hw
 refine oP rfl (Ops.nil ?_)
 repeat (first | refine rS ?_ | refine rK ?_ | refine rF rfl ?_)
 refine rO (fun Z hZ => (eE rfl (zN hZ ?_)))
 skip
 refine Run.dropL (L' := M') (List.sublist_append_left _ _) ?_
 refine Run.ret1 (by rw [hCf]; exact func43) results43 rfl (hR _ _ _ ?_)
 exact ⟨rfl, hR3⟩
end Go.V
namespace Go.V
open Go.Proofs.Tryz
open Go.RowKit
set_option maxRecDepth 10000
attribute [local irreducible] Run Ops QD
theorem impl_descriptorsOfNil (I : Imm) : Pure prog 44 [.slice none 0 0] I fun w J => w = .slice none 0 0 := by
 refine Spec.enter 21 [(0, _)] func44 rfl ntmps44 (by simp) rfl ?_
 intro C hCf hR hCI
 refine rS ?_
 refine rO (fun Z hZ => (eE rfl (zN hZ ?_)))
 repeat refine rS ?_
 refine rO (fun Z hZ => (eE rfl (fE (Ev.neqNil T rfl rfl rfl rfl rfl) (zN hZ ?_))))
 repeat (first | refine rS ?_ | refine rK ?_ | refine rF rfl ?_)
 refine rO (fun Z hZ => (eE rfl (eE rfl (eE rfl (zN hZ ((rB (Run.loop ?_))))))))
 refine rS ?_
 refine rO (fun Z hZ => (fE (Ev.lss rfl rfl) (zN hZ ?_)))
 repeat (first | refine rS ?_ | refine Run.exit rfl ?_ | refine rF rfl ?_)
 refine rO (fun Z hZ => (eE rfl (eE rfl (zN hZ ?_))))
 skip
 refine Run.fin (Run.ret1 (by rw [hCf]; exact func44) results44 rfl (hR _ _ _ ?_))
 exact ⟨rfl, rfl⟩
theorem impl_subjectOfNil (I : Imm) : Pure prog 46 [.pointer none] I fun w J => w = .slice none 0 0 := by
 refine Spec.enter 10 [(0, _)] func46 rfl ntmps46 (by simp) rfl ?_
 intro C hCf hR hCI
 refine rS ?_
 refine rO (fun Z hZ => (eE rfl (zN hZ ?_)))
 repeat refine rS ?_
 refine rO (fun Z hZ => (eE rfl (fE (Ev.eqlNil T rfl rfl rfl rfl rfl) (zN hZ ?_))))
 repeat (first | refine rS ?_ | refine rT rfl ?_)
 refine rO (fun Z hZ => (eE rfl (zN hZ ?_)))
 skip
 refine Run.fin (Run.ret1 (by rw [hCf]; exact func46) results46 rfl (hR _ _ _ ?_))
 exact ⟨rfl, rfl⟩
end Go.V
namespace Go.V
open Go.Proofs.Tryz
open Go.RowKit
set_option maxRecDepth 10000
attribute [local irreducible] Run Ops QD
theorem v1_takeMedia (f : Nat) (I : Imm) (cs : List Value) (v : JV) (hrel : (tJV (f + 1)).rel I cs v) (hk : v.kind = 34) (x off : Nat) (cells : List Value) (tt : TypeId) (ho : off + 1 <= cells.length) :
  Spec prog 100 [.agg cs.toArray, .pointer (some ⟨x, off, none⟩)] I [(x, blk cells tt)] fun w J M => w = .bool true /\ M = [(x, blk (setAt cells off [str v.text]) tt)] := by
 have hrel0 := hrel
 obtain ⟨wk, wn, rfl, hwk, hwn⟩ := hrel
 obtain ⟨A3, z3, rfl⟩ := hwk.isSl
 obtain ⟨A4, z4, rfl⟩ := hwn.isSl
 refine Spec.enter 8 [(0, _), (1, _)] func100 rfl ntmps100 (by simp) rfl ?_
 intro C hCf hR hCI
 refine rS ?_
 refine Run.region (Ops.box rfl dc rfl rfl (fun b2 => (oP rfl (Ops.nil (rS (rP 2 (fun Z hZ => (gY (Yv.loadN 0 T rfl rfl rfl rfl rfl rfl) (eE rfl (zN hZ ((Ops.callP (N := [_]) ((Value_Str f I _ v hrel0 x off cells tt ho)) (.refl _) rfl dc call104 rfl ?_))))))))))))
 rintro _ J M l ⟨rfl, rfl, rfl⟩
 refine oP rfl (Ops.nil ?_)
 skip
 refine Run.dropL (L' := [(x, _)]) (List.Sublist.cons _ (List.Sublist.refl _)) ?_
 refine Run.ret1 (by rw [hCf]; exact func100) results100 rfl (hR _ _ _ ?_)
 rw [hk]
 exact ⟨rfl, rfl⟩
end Go.V
namespace Go.V
open Go.Proofs.Tryz
open Go.RowKit
set_option maxRecDepth 10000
attribute [local irreducible] Run Ops QD
theorem takeMediaT (f : Nat) (I : Imm) (cs : List Value) (v : JV) (hrel : (tJV (f + 1)).rel I cs v) (x off : Nat) (cells : List Value) (tt : TypeId) (s : Bs) (hk : v.kind = 34 /\ v.text = s) (ho : off + 1 <= cells.length) : Spec prog 100 [.agg cs.toArray, .pointer (some ⟨x, off, none⟩)] I [(x, blk cells tt)] fun w J M => w = .bool true /\ M = [(x, blk (setAt cells off [str s]) tt)] := by
 rw [<- hk.2]
 exact v1_takeMedia f I cs v hrel hk.1 x off cells tt ho
theorem Value_BytesT (f : Nat) (I : Imm) (cs : List Value) (v : JV) (hrel : (tJV (f + 1)).rel I cs v) (x off : Nat) (cells : List Value) (tt : TypeId) (bs : Bs) (hk : v.kind = 34 /\ v.text = b64 bs) (hne : bs ≠ []) (hl : bs.length <= 1000000) (hc0 : cells[off]? = some (.slice none 0 0)) :
  Spec prog 119 [.agg cs.toArray, .pointer (some ⟨x, off, none⟩)] I [(x, blk cells tt)] fun w J M => w = .bool true /\ ∃ c, Sl tU8 J c bs /\ M = [(x, blk (setAt cells off [c]) tt)] := by
 have ho : off + 1 <= cells.length := (List.getElem?_eq_some_iff.1 hc0).1
 obtain ⟨wk, wn, rfl, hwk, hwn⟩ := hrel
 obtain ⟨A3, z3, rfl⟩ := hwk.isSl
 obtain ⟨A4, z4, rfl⟩ := hwn.isSl
 rw [hk.1, hk.2]
 refine Spec.enter 25 [(0, _), (1, _)] func119 rfl ntmps119 (by simp) rfl ?_
 intro C hCf hR hCI
 refine rS ?_
 refine Run.region (Ops.box rfl dc rfl rfl (fun b2 => (Ops.box rfl dc rfl rfl (fun b3 => (oP rfl (Ops.nil ?_))))))
 repeat refine rS ?_
 refine rO (fun Z hZ => (eE rfl (gY (Yv.load 1 T rfl rfl rfl rfl) (fE (Ev.eqlI rfl rfl) (zN hZ ?_)))))
 repeat (first | refine rS ?_ | refine rT rfl ?_)
 refine rP 2 (fun Z hZ => (eE rfl (gY (Yv.load 1 T rfl rfl rfl rfl) (zN hZ ((Ops.call ((zz_Unbase64 I bs hne (by omega))) rfl dc call129 rfl ?_))))))
 rintro _ J l ⟨c, rfl, hc⟩
 obtain ⟨Ac, cc, rfl⟩ := hc.isSl
 iterate 5 refine oP rfl ?_
 refine Ops.nil ?_
 repeat refine rS ?_
 refine rO (fun Z hZ => (eE rfl (zN hZ ((rT rfl (rP 3 (fun Z hZ => (gY (Yv.load 0 T rfl rfl rfl rfl) (eE rfl (eE rfl (zN hZ ((Ops.store 2 rfl rfl rfl rfl rfl (T.sizeOk rfl) rfl ho rfl rfl (Ops.nil (rS (rO (fun Z hZ => (eE rfl (eE rfl (zN hZ ?_))))))))))))))))))))
 skip
 refine Run.dropL (L' := [(x, _)]) (List.Sublist.cons _ (List.sublist_cons_self _ _)) ?_
 refine Run.ret1 (by rw [hCf]; exact func119) results119 rfl (hR _ _ _ ?_)
 exact ⟨rfl, _, hc, rfl⟩
def z6 : List Value := [str [], str [], str [], .slice none 0 0, str [], .slice none 0 0]
theorem Platform_take (f : Nat) (I : Imm) (hU : UT I) (cs : List Value) (v : JV) (hrel : (tJV (f + 1)).rel I cs v) (x : PfL) (hv : plR x v) (g1 : x.2.1.length <= 1000000) (g2 : x.2.2.length <= 1000000) (xb : Nat) :
  Spec prog 121 [.pointer (some ⟨xb, 0, none⟩), .agg cs.toArray] I [(xb, blk z6 138)] fun w J M => w = .bool true /\ ∃ pc, pfR J x pc /\ M = [(xb, blk pc 138)] := by
 have hrel0 := hrel
 obtain ⟨wk, wn, rfl, hwk, hwn⟩ := hrel
 obtain ⟨A3, z3, rfl⟩ := hwk.isSl
 obtain ⟨A4, z4, rfl⟩ := hwn.isSl
 refine Spec.enter 8 [(0, _), (1, _)] func121 rfl ntmps121 (by simp) rfl ?_
 intro C hCf hR hCI
 refine rS ?_
 refine Run.region (Ops.box rfl dc rfl rfl (fun b2 => (Ops.box rfl dc rfl rfl (fun b3 => (oP rfl (Ops.nil (Run.freezeAt 1 rfl rfl fun J1 l1 hJ1 => ?_)))))))
 have hB : At J1 b2 0 [.pointer (some ⟨xb, 0, none⟩)] := At.block hJ1
 refine rS ?_
 refine rP 2 (fun Z hZ => (gY (Yv.loadN 0 T rfl rfl rfl rfl rfl rfl) (eE rfl (zN hZ ?_))))
 have hM := members_take f J1 _ v ((tJV (f + 1)).mono hrel0 l1) pfNames (plM x) (plE x) hv 136 [.pointer (some ⟨b2, 0, none⟩)] (fun D J M => ∃ pc, pfSt J x D pc /\ M = [(xb, blk pc 138)]) [(xb, blk z6 138)] ⟨_, ⟨_, _, rfl, rfl, rfl⟩, rfl⟩ call136 (fun D J J' M ⟨pc, h, e⟩ l => ⟨pc, h.mono l, e⟩)
  (fun D m J M kc hle hm hr hD hSt => by
   obtain ⟨pc, hpc, rfl⟩ := hSt
   cases f with
   | zero => exact hr.elim
   | succ g => exact pf_step g J (hU.mono (l1.trans hle)) kc m hr x hm g1 g2 b2 xb (hB.mono hle) D hD pc hpc)
 refine Ops.callP (N := [_]) (hM) (.refl _) rfl dc call96 rfl ?_
 rintro w J2 M2 l2 ⟨rfl, D, hE, pc, hpc, rfl⟩
 refine oP rfl (Ops.nil ?_)
 skip
 refine Run.dropL (L' := [(xb, _)]) (List.sublist_cons_self _ _) ?_
 refine Run.ret1 (by rw [hCf]; exact func121) results121 rfl (hR _ _ _ ?_)
 exact ⟨rfl, pc, hpc.fin hE, rfl⟩
end Go.V
namespace Go.V
open Go.Proofs.Tryz
open Go.RowKit
set_option maxRecDepth 10000
attribute [local irreducible] Run Ops QD
set_option maxHeartbeats 4000000 in
theorem ds_step (f : Nat) (I : Imm) (hU : UT I) (cs : List Value) (m : Bs × JV) (hrel : (tJV (f + 1)).rel I cs m.2) (x : Ds) (hm : dsM x m) (hg : okDt x) (b2 xb off : Nat) (cells0 : List Value) (tt : TypeId) (ho : off + 9 <= cells0.length) (hB : At I b2 0 [.pointer (some ⟨xb, off, none⟩)]) (D : Int -> Bool) (hD : fieldR m.1 dsNames ≠ -1 -> D (fieldR m.1 dsNames) = false) (dc : List Value) (hS0 : dsSt I x D dc) :
  Spec prog 117 [str m.1, .agg cs.toArray, .pointer (some ⟨b2, 0, none⟩)] I [(xb, blk (setAt cells0 off dc) tt)] fun w J M => w = .bool true /\ ∃ dc', dsSt J x (upd D (fieldR m.1 dsNames)) dc' /\ M = [(xb, blk (setAt cells0 off dc') tt)] := by
 obtain ⟨g1, g2, g3, g4, g5, g6, g7⟩ := hg
 have hlen : ∀ a b c d e g h i j : Value, (setAt cells0 off [a, b, c, d, e, g, h, i, j]).length = cells0.length := fun a b c d e g h i j => setAt_length ho
 have hin : ∀ (a b c d e g h i j w : Value) (k : Nat), k + 1 <= 9 -> setAt (setAt cells0 off [a, b, c, d, e, g, h, i, j]) (off + k) [w] = setAt cells0 off (setAt [a, b, c, d, e, g, h, i, j] k [w]) := fun a b c d e g h i j w k hk => setAt_in hk ho
 have hnth : ∀ (a b c d e g h i j w : Value) (k : Nat), [a, b, c, d, e, g, h, i, j][k]? = some w -> (setAt cells0 off [a, b, c, d, e, g, h, i, j])[off + k]? = some w := fun a b c d e g h i j w k hk => setAt_nth hk ho
 obtain ⟨cd, cu, cm, cp, rfl, h3, h4, h5, h6⟩ := hS0
 have hkl := hm.1
 have hrel0 := hrel
 obtain ⟨wk, wn, ew, hwk, hwn⟩ := hrel
 obtain ⟨A3, z3, rfl⟩ := hwk.isSl
 obtain ⟨A4, z4, rfl⟩ := hwn.isSl
 subst ew
 refine Spec.enter 82 [(0, _), (1, _), (2, _)] func117 rfl ntmps117 (by simp) rfl ?_
 intro C hCf hR hCI
 refine rS ?_
 refine Run.region (Ops.box rfl dc rfl rfl (fun b4 => (oP rfl (Ops.nil ?_))))
 repeat refine rS ?_
 refine rP 1 (fun Z hZ => (eE rfl (zN hZ ((Ops.lit T rfl rfl rfl dc rfl dc dc rfl rfl rfl rfl rfl (fun bq => (Ops.freezeAt 0 rfl rfl fun J1 l1 hJ1 => ?_)))))))
 have hS : Sl tStr J1 (.slice (some ⟨bq, 0, none⟩) 8 8) dsNames := Sl.ofBlock hJ1 (Cells.strs dsNames) rfl (by decide)
 have hB := hB.mono l1
 have hrel := (tJV (f + 1)).mono hrel0 l1
 refine Ops.call ((fieldOf J1 (hU.mono l1) m.1 dsNames _ hS hkl dc dc)) rfl dc call98 rfl ?_
 rintro _ J2 l2 rfl
 refine Ops.nil ?_
 have hB := hB.mono l2
 have hU2 := (hU.mono l1).mono l2
 have hrel := (tJV (f + 1)).mono hrel l2
 have l12 := l1.trans l2
 clear l1 hrel0 hJ1 hS
 rcases hm.2 with ⟨hf, ht⟩ | ⟨hf, ht⟩ | ⟨hf, ht⟩ | ⟨hf, ht1, ht2, ht3⟩ | ⟨hf, ht⟩ | ⟨hf, ht⟩ | ⟨hf, p, r, hp, ht⟩ | ⟨hf, ht⟩ | hf
 ·rw [hf] at hD ⊢
  repeat (first | refine rS ?_ | refine rB ?_)
  refine rO (fun Z hZ => (fE (Ev.eqlI rfl rfl) (eE rfl (zN hZ ?_))))
  repeat (first | refine rS ?_ | refine rT rfl ?_)
  refine Run.regionT (D := [some 11, some 12, some 13, some 14, some 15, some 5]) (fun _ => True) [true, true, true, true] (bl 6 15) 2 (by kernel_rfl) (by kernel_rfl) (by kernel_rfl) rfl (fun Z hZ => (gY (Yv.loadN 0 T rfl rfl rfl rfl rfl rfl) (gY (Yv.loadI T hB rfl rfl) (eE rfl (eE rfl (zN hZ ((RAny.on 4 (bl 6 31) rfl (by kernel_rfl) rfl dc (Eff.callM (M := [_]) (N := [_]) (takeMediaT f _ _ m.2 hrel xb (off + 0) _ _ _ ht (by rw [hlen]; omega)) (List.Perm.swap _ _ _) call100 rfl fun w J' M' l' hw => ⟨fun _ _ => trivial, ?_⟩)))))))))
  obtain ⟨rfl, rfl⟩ := hw
  refine RAny.tk 5 (bl 6 63) rfl (by kernel_rfl) dc (fun _ _ => trivial) (Yld.eval T rfl rfl) (RAny.done _ (by kernel_rfl) ?_)
  skip
  refine Run.dropL (L' := [(xb, _)]) (List.Sublist.cons_cons _ (List.nil_sublist _)) ?_
  refine Run.ret1 (by rw [hCf]; exact func117) results117 rfl (hR _ _ _ ?_)
  rw [hf]
  exact ⟨rfl, _, ⟨cd, cu, cm, cp, rfl, h3.mono (l12.trans l'), h4.mono (l12.trans l'), h5.mono (l12.trans l'), h6.mono (l12.trans l')⟩, by rw [hin _ _ _ _ _ _ _ _ _ _ _ (by decide)]; rfl⟩
 ·rw [hf] at hD ⊢
  repeat (first | refine rS ?_ | refine rB ?_)
  refine rO (fun Z hZ => (fE (Ev.eqlI rfl rfl) (eE rfl (zN hZ ?_))))
  repeat (first | refine rS ?_ | refine rF rfl ?_)
  refine rO (fun Z hZ => (fE (Ev.eqlI rfl rfl) (eE rfl (zN hZ ?_))))
  repeat (first | refine rS ?_ | refine rT rfl ?_)
  refine Run.regionT (D := [some 18, some 19, some 20, some 21, some 22, some 5]) (fun _ => True) [true, true, true, true] (bl 6 15) 2 (by kernel_rfl) (by kernel_rfl) (by kernel_rfl) rfl (fun Z hZ => (gY (Yv.loadN 0 T rfl rfl rfl rfl rfl rfl) (gY (Yv.loadI T hB rfl rfl) (eE rfl (eE rfl (zN hZ ((RAny.on 4 (bl 6 31) rfl (by kernel_rfl) rfl dc (Eff.callM (M := [_]) (N := [_]) (Value_IntT f _ _ m.2 hrel xb (off + 1) _ _ _ ht g5 g6 (by rw [hlen]; omega)) (List.Perm.swap _ _ _) call99 rfl fun w J' M' l' hw => ⟨fun _ _ => trivial, ?_⟩)))))))))
  obtain ⟨rfl, rfl⟩ := hw
  refine RAny.tk 5 (bl 6 63) rfl (by kernel_rfl) dc (fun _ _ => trivial) (Yld.eval T rfl rfl) (RAny.done _ (by kernel_rfl) ?_)
  skip
  refine Run.dropL (L' := [(xb, _)]) (List.Sublist.cons_cons _ (List.nil_sublist _)) ?_
  refine Run.ret1 (by rw [hCf]; exact func117) results117 rfl (hR _ _ _ ?_)
  rw [hf]
  exact ⟨rfl, _, ⟨cd, cu, cm, cp, rfl, h3.mono (l12.trans l'), h4.mono (l12.trans l'), h5.mono (l12.trans l'), h6.mono (l12.trans l')⟩, by rw [hin _ _ _ _ _ _ _ _ _ _ _ (by decide)]; rfl⟩
 ·rw [hf] at hD ⊢
  repeat (first | refine rS ?_ | refine rB ?_)
  refine rO (fun Z hZ => (fE (Ev.eqlI rfl rfl) (eE rfl (zN hZ ?_))))
  repeat (first | refine rS ?_ | refine rF rfl ?_)
  refine rO (fun Z hZ => (fE (Ev.eqlI rfl rfl) (eE rfl (zN hZ ?_))))
  repeat (first | refine rS ?_ | refine rF rfl ?_)
  refine rO (fun Z hZ => (fE (Ev.eqlI rfl rfl) (eE rfl (zN hZ ?_))))
  repeat (first | refine rS ?_ | refine rT rfl ?_)
  refine Run.regionT (D := [some 25, some 26, some 27, some 28, some 29, some 5]) (fun _ => True) [true, true, true, true] (bl 6 15) 2 (by kernel_rfl) (by kernel_rfl) (by kernel_rfl) rfl (fun Z hZ => (gY (Yv.loadI T hB rfl rfl) (eE rfl (eE rfl (gY (Yv.loadN 0 T rfl rfl rfl rfl rfl rfl) (zN hZ ((RAny.on 4 (bl 6 31) rfl (by kernel_rfl) rfl dc (Eff.callM (M := [_]) (N := [_]) (Hash_T f _ _ m.2 hrel xb (off + 2) _ _ _ ht g4 (by rw [hlen]; omega)) (List.Perm.swap _ _ _) call118 rfl fun w J' M' l' hw => ⟨fun _ _ => trivial, ?_⟩)))))))))
  obtain ⟨rfl, rfl⟩ := hw
  refine RAny.tk 5 (bl 6 63) rfl (by kernel_rfl) dc (fun _ _ => trivial) (Yld.eval T rfl rfl) (RAny.done _ (by kernel_rfl) ?_)
  skip
  refine Run.dropL (L' := [(xb, _)]) (List.Sublist.cons_cons _ (List.nil_sublist _)) ?_
  refine Run.ret1 (by rw [hCf]; exact func117) results117 rfl (hR _ _ _ ?_)
  rw [hf]
  exact ⟨rfl, _, ⟨cd, cu, cm, cp, rfl, h3.mono (l12.trans l'), h4.mono (l12.trans l'), h5.mono (l12.trans l'), h6.mono (l12.trans l')⟩, by rw [hin _ _ _ _ _ _ _ _ _ _ _ (by decide)]; exact congrArg (fun z => [(xb, blk z tt)]) (setAt_in (k := 3) (lb rfl) ho)⟩
 ·rw [hf] at hD ⊢
  repeat (first | refine rS ?_ | refine rB ?_)
  refine rO (fun Z hZ => (fE (Ev.eqlI rfl rfl) (eE rfl (zN hZ ?_))))
  repeat (first | refine rS ?_ | refine rF rfl ?_)
  refine rO (fun Z hZ => (fE (Ev.eqlI rfl rfl) (eE rfl (zN hZ ?_))))
  repeat (first | refine rS ?_ | refine rF rfl ?_)
  refine rO (fun Z hZ => (fE (Ev.eqlI rfl rfl) (eE rfl (zN hZ ?_))))
  repeat (first | refine rS ?_ | refine rF rfl ?_)
  refine rO (fun Z hZ => (fE (Ev.eqlI rfl rfl) (eE rfl (zN hZ ?_))))
  repeat (first | refine rS ?_ | refine rT rfl ?_)
  obtain rfl : cd = .slice none 0 0 := by rw [hD (by decide)] at h3; exact h3
  refine Run.regionT (D := [some 32, some 33, some 34, some 35, some 36, some 5]) (fun _ => True) [true, true, true, true] (bl 6 15) 2 (by kernel_rfl) (by kernel_rfl) (by kernel_rfl) rfl (fun Z hZ => (gY (Yv.loadN 0 T rfl rfl rfl rfl rfl rfl) (gY (Yv.loadI T hB rfl rfl) (eE rfl (eE rfl (zN hZ ((RAny.on 4 (bl 6 31) rfl (by kernel_rfl) rfl dc (Eff.callM (M := [_]) (N := [_]) (Value_BytesT f _ _ m.2 hrel xb (off + 4) _ _ _ ⟨ht1, ht2⟩ ht3 g7 (hnth _ _ _ _ _ _ _ _ _ _ 4 rfl)) (List.Perm.swap _ _ _) call119 rfl fun w J' M' l' hw => ⟨fun _ _ => trivial, ?_⟩)))))))))
  obtain ⟨rfl, c, hc, rfl⟩ := hw
  refine RAny.tk 5 (bl 6 63) rfl (by kernel_rfl) dc (fun _ _ => trivial) (Yld.eval T rfl rfl) (RAny.done _ (by kernel_rfl) ?_)
  skip
  refine Run.dropL (L' := [(xb, _)]) (List.Sublist.cons_cons _ (List.nil_sublist _)) ?_
  refine Run.ret1 (by rw [hCf]; exact func117) results117 rfl (hR _ _ _ ?_)
  rw [hf]
  exact ⟨rfl, _, ⟨c, cu, cm, cp, rfl, hc, h4.mono (l12.trans l'), h5.mono (l12.trans l'), h6.mono (l12.trans l')⟩, by rw [hin _ _ _ _ _ _ _ _ _ _ _ (by decide)]; rfl⟩
 ·rw [hf] at hD ⊢
  repeat (first | refine rS ?_ | refine rB ?_)
  refine rO (fun Z hZ => (fE (Ev.eqlI rfl rfl) (eE rfl (zN hZ ?_))))
  repeat (first | refine rS ?_ | refine rF rfl ?_)
  refine rO (fun Z hZ => (fE (Ev.eqlI rfl rfl) (eE rfl (zN hZ ?_))))
  repeat (first | refine rS ?_ | refine rF rfl ?_)
  refine rO (fun Z hZ => (fE (Ev.eqlI rfl rfl) (eE rfl (zN hZ ?_))))
  repeat (first | refine rS ?_ | refine rF rfl ?_)
  refine rO (fun Z hZ => (fE (Ev.eqlI rfl rfl) (eE rfl (zN hZ ?_))))
  repeat (first | refine rS ?_ | refine rF rfl ?_)
  refine rO (fun Z hZ => (fE (Ev.eqlI rfl rfl) (eE rfl (zN hZ ?_))))
  repeat (first | refine rS ?_ | refine rT rfl ?_)
  obtain rfl : cu = .slice none 0 0 := by rw [hD (by decide)] at h4; exact h4
  refine Run.regionT (D := [some 39, some 40, some 41, some 42, some 43, some 5]) (fun _ => True) [true, true, true, true] (bl 6 15) 2 (by kernel_rfl) (by kernel_rfl) (by kernel_rfl) rfl (fun Z hZ => (gY (Yv.loadN 0 T rfl rfl rfl rfl rfl rfl) (gY (Yv.loadI T hB rfl rfl) (eE rfl (eE rfl (zN hZ ((RAny.on 4 (bl 6 31) rfl (by kernel_rfl) rfl dc (Eff.callM (M := [_]) (N := [_]) (Value_StrsT f _ _ m.2 hrel xb (off + 5) _ _ _ ht g1 (hnth _ _ _ _ _ _ _ _ _ _ 5 rfl)) (List.Perm.swap _ _ _) call120 rfl fun w J' M' l' hw => ⟨fun _ _ => trivial, ?_⟩)))))))))
  obtain ⟨rfl, c, hc, rfl⟩ := hw
  refine RAny.tk 5 (bl 6 63) rfl (by kernel_rfl) dc (fun _ _ => trivial) (Yld.eval T rfl rfl) (RAny.done _ (by kernel_rfl) ?_)
  skip
  refine Run.dropL (L' := [(xb, _)]) (List.Sublist.cons_cons _ (List.nil_sublist _)) ?_
  refine Run.ret1 (by rw [hCf]; exact func117) results117 rfl (hR _ _ _ ?_)
  rw [hf]
  exact ⟨rfl, _, ⟨cd, c, cm, cp, rfl, h3.mono (l12.trans l'), hc, h5.mono (l12.trans l'), h6.mono (l12.trans l')⟩, by rw [hin _ _ _ _ _ _ _ _ _ _ _ (by decide)]; rfl⟩
 ·rw [hf] at hD ⊢
  repeat (first | refine rS ?_ | refine rB ?_)
  refine rO (fun Z hZ => (fE (Ev.eqlI rfl rfl) (eE rfl (zN hZ ?_))))
  repeat (first | refine rS ?_ | refine rF rfl ?_)
  refine rO (fun Z hZ => (fE (Ev.eqlI rfl rfl) (eE rfl (zN hZ ?_))))
  repeat (first | refine rS ?_ | refine rF rfl ?_)
  refine rO (fun Z hZ => (fE (Ev.eqlI rfl rfl) (eE rfl (zN hZ ?_))))
  repeat (first | refine rS ?_ | refine rF rfl ?_)
  refine rO (fun Z hZ => (fE (Ev.eqlI rfl rfl) (eE rfl (zN hZ ?_))))
  repeat (first | refine rS ?_ | refine rF rfl ?_)
  refine rO (fun Z hZ => (fE (Ev.eqlI rfl rfl) (eE rfl (zN hZ ?_))))
  repeat (first | refine rS ?_ | refine rF rfl ?_)
  refine rO (fun Z hZ => (fE (Ev.eqlI rfl rfl) (eE rfl (zN hZ ?_))))
  repeat (first | refine rS ?_ | refine rT rfl ?_)
  obtain rfl : cm = .map none := by rw [hD (by decide)] at h5; exact h5
  refine Run.regionT (D := [some 46, some 47, some 48, some 49, some 50, some 5]) (fun _ => True) [true, true, true, true] (bl 6 15) 2 (by kernel_rfl) (by kernel_rfl) (by kernel_rfl) rfl (fun Z hZ => (gY (Yv.loadN 0 T rfl rfl rfl rfl rfl rfl) (gY (Yv.loadI T hB rfl rfl) (eE rfl (eE rfl (zN hZ ((RAny.on 4 (bl 6 31) rfl (by kernel_rfl) rfl dc (Eff.callM (M := [_]) (N := [_]) (Value_StrMapT f _ _ m.2 hrel xb (off + 6) _ _ _ ht g2 (hnth _ _ _ _ _ _ _ _ _ _ 6 rfl)) (List.Perm.swap _ _ _) call102 rfl fun w J' M' l' hw => ⟨fun _ _ => trivial, ?_⟩)))))))))
  obtain ⟨rfl, c, hc, rfl⟩ := hw
  refine RAny.tk 5 (bl 6 63) rfl (by kernel_rfl) dc (fun _ _ => trivial) (Yld.eval T rfl rfl) (RAny.done _ (by kernel_rfl) ?_)
  skip
  refine Run.dropL (L' := [(xb, _)]) (List.Sublist.cons_cons _ (List.nil_sublist _)) ?_
  refine Run.ret1 (by rw [hCf]; exact func117) results117 rfl (hR _ _ _ ?_)
  rw [hf]
  exact ⟨rfl, _, ⟨cd, cu, c, cp, rfl, h3.mono (l12.trans l'), h4.mono (l12.trans l'), hc, h6.mono (l12.trans l')⟩, by rw [hin _ _ _ _ _ _ _ _ _ _ _ (by decide)]; rfl⟩
 ·rw [hf] at hD ⊢
  obtain rfl : cp = .pointer none := by rw [hD (by decide)] at h6; exact h6
  have hk6 := ht.1
  rw [hk6] at hrel ⊢
  repeat (first | refine rS ?_ | refine rB ?_)
  refine rO (fun Z hZ => (fE (Ev.eqlI rfl rfl) (eE rfl (zN hZ ?_))))
  repeat (first | refine rS ?_ | refine rF rfl ?_)
  refine rO (fun Z hZ => (fE (Ev.eqlI rfl rfl) (eE rfl (zN hZ ?_))))
  repeat (first | refine rS ?_ | refine rF rfl ?_)
  refine rO (fun Z hZ => (fE (Ev.eqlI rfl rfl) (eE rfl (zN hZ ?_))))
  repeat (first | refine rS ?_ | refine rF rfl ?_)
  refine rO (fun Z hZ => (fE (Ev.eqlI rfl rfl) (eE rfl (zN hZ ?_))))
  repeat (first | refine rS ?_ | refine rF rfl ?_)
  refine rO (fun Z hZ => (fE (Ev.eqlI rfl rfl) (eE rfl (zN hZ ?_))))
  repeat (first | refine rS ?_ | refine rF rfl ?_)
  refine rO (fun Z hZ => (fE (Ev.eqlI rfl rfl) (eE rfl (zN hZ ?_))))
  repeat (first | refine rS ?_ | refine rF rfl ?_)
  refine rO (fun Z hZ => (fE (Ev.eqlI rfl rfl) (eE rfl (zN hZ ?_))))
  repeat (first | refine rS ?_ | refine rT rfl ?_)
  refine rO (fun Z hZ => (eE rfl (gY (Yv.load 0 T rfl rfl rfl rfl) (fE (Ev.eqlI rfl rfl) (zN hZ ?_)))))
  repeat (first | refine rS ?_ | refine rK ?_ | refine rF rfl ?_)
  refine rO (fun Z hZ => (gY (Yv.loadI T hB rfl rfl) (eE rfl (eE rfl (gY (Yv.load 1 T rfl rfl rfl (hnth _ _ _ _ _ _ _ _ _ _ 7 rfl)) (fE (Ev.eqlNil T rfl rfl rfl rfl rfl) (zN hZ ((rT rfl (Run.region (Ops.loadI rfl dc rfl hB (T.aggOk rfl) (Ops.buildL bd138 rfl dc rfl rfl (Ops.box rfl dc rfl rfl (fun bp => (oP rfl (oP rfl (Ops.store 2 rfl rfl rfl rfl rfl (T.sizeOk rfl) rfl (show off + 7 + 1 <= _ by rw [hlen]; omega) rfl rfl (Ops.nil (rS (Run.regionT (D := [some 69, some 70, some 71, some 72, some 73, some 74, some 5]) (fun _ => True) [true, true, true, true, true] (bl 7 31) 2 (by kernel_rfl) (by kernel_rfl) (by kernel_rfl) rfl (fun Z hZ => (gY (Yv.loadI T hB rfl rfl) (eE rfl (eE rfl (gY (Yv.load 2 T rfl rfl rfl (setAt_get (off := off + 7) _ (by rw [hlen]; omega))) (gY (Yv.loadN 1 T rfl rfl rfl rfl rfl rfl) (zN hZ ?_)))))))))))))))))))))))))))
  have hpb := g3 p (by rw [hp]; exact List.mem_cons_self)
  refine RAny.on 5 (bl 7 63) rfl (by kernel_rfl) rfl dc (Eff.callM (M := [_]) (N := [_, _]) (Platform_take f _ hU2 _ m.2 hrel p ht hpb.1 hpb.2 bp) (.refl _) call121 rfl fun w J' M' l' hw => ⟨fun _ _ => trivial, ?_⟩)
  obtain ⟨rfl, pc, hpc, rfl⟩ := hw
  refine RAny.tk 6 (bl 7 127) rfl (by kernel_rfl) dc (fun _ _ => trivial) (Yld.eval T rfl rfl) (RAny.done _ (by kernel_rfl) ?_)
  skip
  refine Run.freezeAt 0 rfl rfl fun J3 l3 hJ3 => ?_
  refine Run.dropL (L' := [(xb, _)]) (List.sublist_cons_self _ _) ?_
  refine Run.ret1 (by rw [hCf]; exact func117) results117 rfl (hR _ _ _ ?_)
  rw [hf]
  exact ⟨rfl, _, ⟨cd, cu, cm, _, rfl, h3.mono ((l12.trans l').trans l3), h4.mono ((l12.trans l').trans l3), h5.mono ((l12.trans l').trans l3), ⟨p, r, bp, pc, hp, rfl, At.block hJ3, hpc.mono l3⟩⟩, by rw [hin _ _ _ _ _ _ _ _ _ _ _ (by decide)]; rfl⟩
 ·rw [hf] at hD ⊢
  repeat (first | refine rS ?_ | refine rB ?_)
  refine rO (fun Z hZ => (fE (Ev.eqlI rfl rfl) (eE rfl (zN hZ ?_))))
  repeat (first | refine rS ?_ | refine rF rfl ?_)
  refine rO (fun Z hZ => (fE (Ev.eqlI rfl rfl) (eE rfl (zN hZ ?_))))
  repeat (first | refine rS ?_ | refine rF rfl ?_)
  refine rO (fun Z hZ => (fE (Ev.eqlI rfl rfl) (eE rfl (zN hZ ?_))))
  repeat (first | refine rS ?_ | refine rF rfl ?_)
  refine rO (fun Z hZ => (fE (Ev.eqlI rfl rfl) (eE rfl (zN hZ ?_))))
  repeat (first | refine rS ?_ | refine rF rfl ?_)
  refine rO (fun Z hZ => (fE (Ev.eqlI rfl rfl) (eE rfl (zN hZ ?_))))
  repeat (first | refine rS ?_ | refine rF rfl ?_)
  refine rO (fun Z hZ => (fE (Ev.eqlI rfl rfl) (eE rfl (zN hZ ?_))))
  repeat (first | refine rS ?_ | refine rF rfl ?_)
  refine rO (fun Z hZ => (fE (Ev.eqlI rfl rfl) (eE rfl (zN hZ ?_))))
  repeat (first | refine rS ?_ | refine rF rfl ?_)
  refine rO (fun Z hZ => (fE (Ev.eqlI rfl rfl) (eE rfl (zN hZ ?_))))
  repeat (first | refine rS ?_ | refine rT rfl ?_)
  refine Run.regionT (D := [some 77, some 78, some 79, some 80, some 81, some 5]) (fun _ => True) [true, true, true, true] (bl 6 15) 2 (by kernel_rfl) (by kernel_rfl) (by kernel_rfl) rfl (fun Z hZ => (gY (Yv.loadN 0 T rfl rfl rfl rfl rfl rfl) (gY (Yv.loadI T hB rfl rfl) (eE rfl (eE rfl (zN hZ ((RAny.on 4 (bl 6 31) rfl (by kernel_rfl) rfl dc (Eff.callM (M := [_]) (N := [_]) (Value_StrT f _ _ m.2 hrel xb (off + 8) _ _ _ ht (by rw [hlen]; omega)) (List.Perm.swap _ _ _) call104 rfl fun w J' M' l' hw => ⟨fun _ _ => trivial, ?_⟩)))))))))
  obtain ⟨rfl, rfl⟩ := hw
  refine RAny.tk 5 (bl 6 63) rfl (by kernel_rfl) dc (fun _ _ => trivial) (Yld.eval T rfl rfl) (RAny.done _ (by kernel_rfl) ?_)
  skip
  refine Run.dropL (L' := [(xb, _)]) (List.Sublist.cons_cons _ (List.nil_sublist _)) ?_
  refine Run.ret1 (by rw [hCf]; exact func117) results117 rfl (hR _ _ _ ?_)
  rw [hf]
  exact ⟨rfl, _, ⟨cd, cu, cm, cp, rfl, h3.mono (l12.trans l'), h4.mono (l12.trans l'), h5.mono (l12.trans l'), h6.mono (l12.trans l')⟩, by rw [hin _ _ _ _ _ _ _ _ _ _ _ (by decide)]; rfl⟩
 ·rw [hf] at hD ⊢
  repeat (first | refine rS ?_ | refine rB ?_)
  refine rO (fun Z hZ => (fE (Ev.eqlI rfl rfl) (eE rfl (zN hZ ?_))))
  repeat (first | refine rS ?_ | refine rF rfl ?_)
  refine rO (fun Z hZ => (fE (Ev.eqlI rfl rfl) (eE rfl (zN hZ ?_))))
  repeat (first | refine rS ?_ | refine rF rfl ?_)
  refine rO (fun Z hZ => (fE (Ev.eqlI rfl rfl) (eE rfl (zN hZ ?_))))
  repeat (first | refine rS ?_ | refine rF rfl ?_)
  refine rO (fun Z hZ => (fE (Ev.eqlI rfl rfl) (eE rfl (zN hZ ?_))))
  repeat (first | refine rS ?_ | refine rF rfl ?_)
  refine rO (fun Z hZ => (fE (Ev.eqlI rfl rfl) (eE rfl (zN hZ ?_))))
  repeat (first | refine rS ?_ | refine rF rfl ?_)
  refine rO (fun Z hZ => (fE (Ev.eqlI rfl rfl) (eE rfl (zN hZ ?_))))
  repeat (first | refine rS ?_ | refine rF rfl ?_)
  refine rO (fun Z hZ => (fE (Ev.eqlI rfl rfl) (eE rfl (zN hZ ?_))))
  repeat (first | refine rS ?_ | refine rF rfl ?_)
  refine rO (fun Z hZ => (fE (Ev.eqlI rfl rfl) (eE rfl (zN hZ ?_))))
  repeat (first | refine rS ?_ | refine rK ?_ | refine rI ?_ | refine rF rfl ?_)
  refine rO (fun Z hZ => (eE rfl (zN hZ ?_)))
  skip
  refine Run.dropL (L' := [(xb, _)]) (List.sublist_cons_self _ _) ?_
  refine Run.ret1 (by rw [hCf]; exact func117) results117 rfl (hR _ _ _ ?_)
  rw [hf]
  exact ⟨rfl, _, ⟨cd, cu, cm, cp, rfl, h3.mono l12, h4.mono l12, h5.mono l12, h6.mono l12⟩, rfl⟩
end Go.V
namespace Go.V
open Go.Proofs.Tryz
open Go.RowKit
set_option maxRecDepth 10000
theorem flat_rep (zs : List Value) (k : Nat) (hk : zs.length = k) : ∀ a i : Nat, i < a * k -> ((List.replicate a zs).flatten)[i]? = zs[i % k]?
 | 0, i, h => by rw [Nat.zero_mul] at h; omega
 | a + 1, i, h => by
  rw [Nat.add_mul, Nat.one_mul] at h
  rw [List.replicate_succ, List.flatten_cons]
  by_cases hi : i < k
  ·rw [List.getElem?_append_left (by omega), Nat.mod_eq_of_lt hi]
  ·have e : i % k = (i - k) % k := Nat.mod_eq_sub_mod (by omega)
   rw [List.getElem?_append_right (by omega), hk, flat_rep zs k hk a (i - k) (by omega), e]
theorem flat_lenW (zs : List Value) (a : Nat) : ((List.replicate a zs).flatten).length = a * zs.length := by
 rw [List.length_flatten, List.map_replicate, List.sum_replicate_nat]
theorem madeCells_many (z : Value) (zs : List Value) (k : Nat) (h : z.cells = zs.toArray) (hk : zs.length = k) (h0 : 0 < k) (a : Nat) : madeCells z.cells (a * k) = ((List.replicate a zs).flatten).toArray := by
 rw [h]
 apply Array.ext'
 apply List.ext_getElem?
 intro i
 simp only [madeCells, Array.toList_map, Array.toList_range, List.getElem?_map]
 by_cases hi : i < a * k
 ·rw [List.getElem?_range hi, flat_rep zs k hk a i hi]
  have : i % k < k := Nat.mod_lt _ h0
  simp [hk, this]
 ·rw [List.getElem?_eq_none (by rw [List.length_range]; omega), List.getElem?_eq_none (by rw [flat_lenW, hk]; omega)]; rfl
section
variable {P : Program} {n : Nat} {C : Cx} {k : List Item} {env : Env} {L : Own} {I : Imm} {ops : Array Oper} {i : Nat} {l : List Oper} {ty : TypeId} {ps : String} {af : Array Edge} {g : Option (Nat × Bool)} {d : Nat}
theorem Ops.makeMany {x y : Operand} {ts e : TypeId} {bytes q : Nat} {z : Value} {kl kc : IntKind} {a : Nat} (zs : List Value) (hE : Elem P ts e q bytes) (hz : ∃ iE, P.info? e = some iE /\ iE.zero = some z) (h1 : z.cells = zs.toArray) (hq : zs.length = q) (h0 : 0 < q) (hg : want env ops g = some true) (hd : d < n)
  (hx : opnd env x = some (.int kl (a : Int))) (hy : opnd env y = some (.int kc (a : Int))) (hc : bytes * a <= 281474976710656) (h63 : a <= 281474976710656)
  (next : ∀ b, Ops P n C ops (i + 1) l k ((d, .slice (some ⟨b, 0, none⟩) a a) :: env) ((b, blk ((List.replicate a zs).flatten) e) :: L) I) :
  Ops P n C ops i (⟨some d, .makeSlice ts x y, ty, ps, af, g⟩ :: l) k env L I :=
 Ops.valW hg (dOk hd) fun a0 W he hi => by
  obtain ⟨iE, z', hinfo, hzero, hs1, hb1, hzs⟩ := hE.info
  obtain ⟨iE', hinfo', hz'⟩ := hz
  obtain rfl : iE' = iE := Option.some.inj (hinfo'.symm.trans hinfo)
  obtain rfl : z' = z := Option.some.inj (hzero.symm.trans hz')
  have hr := run_make (P := P) W ts e iE' _ hE.under hinfo hzero kl kc (a : Int) (a : Int) (by omega) (by omega) (by rw [hb1]; have : ((bytes * a : Nat) : Int) <= ((281474976710656 : Nat) : Int) := Int.ofNat_le.2 hc; rw [Int.natCast_mul] at this; exact this) (by omega)
  rw [hs1, Int.toNat_natCast, madeCells_many _ _ _ h1 hq h0] at hr
  refine ⟨.slice (some ⟨W.heap.size, 0, none⟩) a a, _, (W.heap.size, blk ((List.replicate a zs).flatten) e) :: L, I, .inl ?_, hi.alloc _, next _⟩
  simp only [execOp, eval_opnd he hx, eval_opnd he hy, Sem.run_bind, hr, Result.andThen_ok]; rfl
end
attribute [local irreducible] Run Ops QD
theorem Descriptor_take (f : Nat) (I : Imm) (hU : UT I) (cs : List Value) (v : JV) (hrel : (tJV (f + 1)).rel I cs v) (x : Ds) (hv : dsR x v) (hg : okDt x) (xb off : Nat) (cells0 : List Value) (tt : TypeId) (ho : off + 9 <= cells0.length) :
  Spec prog 111 [.pointer (some ⟨xb, off, none⟩), .agg cs.toArray] I [(xb, blk (setAt cells0 off z9) tt)] fun w J M => w = .bool true /\ ∃ dc, dsV J x dc /\ M = [(xb, blk (setAt cells0 off dc) tt)] := by
 have hrel0 := hrel
 obtain ⟨wk, wn, rfl, hwk, hwn⟩ := hrel
 obtain ⟨A3, z3, rfl⟩ := hwk.isSl
 obtain ⟨A4, z4, rfl⟩ := hwn.isSl
 refine Spec.enter 8 [(0, _), (1, _)] func111 rfl ntmps111 (by simp) rfl ?_
 intro C hCf hR hCI
 refine rS ?_
 refine Run.region (Ops.box rfl dc rfl rfl (fun b2 => (Ops.box rfl dc rfl rfl (fun b3 => (oP rfl (Ops.nil (Run.freezeAt 1 rfl rfl fun J1 l1 hJ1 => ?_)))))))
 have hB : At J1 b2 0 [.pointer (some ⟨xb, off, none⟩)] := At.block hJ1
 refine rS ?_
 refine rP 2 (fun Z hZ => (gY (Yv.loadN 0 T rfl rfl rfl rfl rfl rfl) (eE rfl (zN hZ ?_))))
 have hM := members_take f J1 _ v ((tJV (f + 1)).mono hrel0 l1) dsNames (dsM x) (dsE x) hv 117 [.pointer (some ⟨b2, 0, none⟩)] (fun D J M => ∃ dc, dsSt J x D dc /\ M = [(xb, blk (setAt cells0 off dc) tt)]) [(xb, blk (setAt cells0 off z9) tt)] ⟨_, dsSt.zero _ _, rfl⟩ call117 (fun D J J' M ⟨pc, h, e⟩ l => ⟨pc, h.mono l, e⟩)
  (fun D m J M kc hle hm hr hD hSt => by
   obtain ⟨pc, hpc, rfl⟩ := hSt
   cases f with
   | zero => exact hr.elim
   | succ g => exact ds_step g J (hU.mono (l1.trans hle)) kc m hr x hm hg b2 xb off cells0 tt ho (hB.mono hle) D hD pc hpc)
 refine Ops.callP (N := [_]) (hM) (.refl _) rfl dc call96 rfl ?_
 rintro w J2 M2 l2 ⟨rfl, D, hE, pc, hpc, rfl⟩
 refine oP rfl (Ops.nil ?_)
 skip
 refine Run.dropL (L' := [(xb, _)]) (List.sublist_cons_self _ _) ?_
 refine Run.ret1 (by rw [hCf]; exact func111) results111 rfl (hR _ _ _ ?_)
 exact ⟨rfl, pc, hpc.fin hE, rfl⟩
theorem zz_SizedDs (I : Imm) (n : Nat) (hn : n <= 100000) : Spec prog 109 [.slice none 0 0, .int .i64 (n : Int)] I [] fun w J M => ∃ b, w = .slice (some ⟨b, 0, none⟩) n n /\ M = [(b, blk ((List.replicate n z9).flatten) 83)] := by
 refine Spec.enter 14 [(0, _), (1, _)] func109 rfl ntmps109 (by simp) rfl ?_
 intro C hCf hR hCI
 refine rS ?_
 refine rO (fun Z hZ => (eE rfl (zN hZ ?_)))
 repeat refine rS ?_
 refine rO (fun Z hZ => (eE rfl (kF (Ev.lss rfl rfl) (by omega) (zN hZ ?_))))
 repeat (first | refine rS ?_ | refine rK ?_ | refine rF rfl ?_)
 refine Run.region (oP rfl (Ops.makeMany z9 el71 ⟨t83, by kernel_rfl, rfl⟩ (by kernel_rfl) rfl dc rfl dc rfl rfl (by omega) (by omega) fun b => (oP rfl (Ops.nil (rS (rP 2 (fun Z hZ => (eE rfl (eE rfl (zN hZ ((Ops.eff rfl (dOk dc) (Eff.copyOwn (size := 9) (b := b) (off := 0) (dl := n) (dc := n) (sl := 0) (q := 0) (sv := .slice none 0 0) (news := []) (cs' := (List.replicate n z9).flatten) 0 T rfl rfl rfl rfl (fun W => rfl) (Nat.zero_min _) rfl (fun W hi => rfl) (Nat.zero_le _) rfl (by simp [setAt]) (Ops.nil (rS (rO (fun Z hZ => (eE rfl (eE rfl (zN hZ ?_))))))))))))))))))))
 skip
 refine Run.ret1 (by rw [hCf]; exact func109) results109 rfl (hR _ _ _ ?_)
 exact ⟨b, rfl, rfl⟩
theorem Dss_size (I : Imm) (n : Nat) (hn : n <= 100000) (b3 x off : Nat) (cells : List Value) (tt : TypeId) (hB : At I b3 0 [.pointer (some ⟨x, off, none⟩)]) (hc : cells[off]? = some (.slice none 0 0)) (ho : off + 1 <= cells.length) :
  Spec prog 108 [.int .i64 (n : Int), .pointer (some ⟨b3, 0, none⟩)] I [(x, blk cells tt)] fun _ J M => ∃ b, M = [(x, blk (setAt cells off [.slice (some ⟨b, 0, none⟩) n n]) tt), (b, blk ((List.replicate n z9).flatten) 83)] := by
 refine Spec.enter 10 [(0, _), (1, _)] func108 rfl ntmps108 (by simp) rfl ?_
 intro C hCf hR hCI
 skip
 refine Run.regionAny (Holds I []) (bl 8 0) (by kernel_rfl) (by kernel_rfl) (RAny.tk 0 (bl 8 1) rfl (by kernel_rfl) dc (fun W h => h.holds (Le.refl _) (by first | exact mp rfl | exact mq rfl)) (Yld.loadI T hB rfl rfl rfl) (RAny.tk 1 (bl 8 3) rfl (by kernel_rfl) dc (fun W h => h.holds (Le.refl _) (by first | exact mp rfl | exact mq rfl)) (Yld.loadI T hB rfl rfl rfl) (RAny.tk 2 (bl 8 7) rfl (by kernel_rfl) dc (fun W h => h.holds (Le.refl _) (by first | exact mp rfl | exact mq rfl)) (Yld.eval T rfl rfl) (RAny.tk 4 (bl 8 23) rfl (by kernel_rfl) dc (fun W h => h.holds (Le.refl _) (by first | exact mp rfl | exact mq rfl)) (Yld.eval T rfl rfl) (RAny.on 3 (bl 8 31) rfl (by kernel_rfl) rfl dc (Eff.yv (Yv.load 0 T rfl rfl rfl hc) ⟨fun W h => h.holds (Le.refl _) (fun _ h => by cases h), ?_⟩))))))
 refine RAny.on 5 (bl 8 63) rfl (by kernel_rfl) rfl dc (Eff.callM (M := []) (N := [_]) (zz_SizedDs I n hn) (.refl _) call109 rfl fun w J' M' l' hw => ⟨fun W h => h.holds l' (fun _ h => by cases h), ?_⟩)
 obtain ⟨b, rfl, rfl⟩ := hw
 skip
 refine RAny.tk 6 (bl 8 127) rfl (by kernel_rfl) dc (fun W h => h.holds l' (by first | exact mp rfl | exact mq rfl)) (Yld.eval T rfl rfl) (RAny.os 7 (bl 8 255) rfl (by kernel_rfl) rfl (Eff.store 1 rfl rfl rfl rfl (T.sizeOk rfl) rfl ho rfl rfl ⟨fun W h => h.holds l' (fun _ h => by cases h), (RAny.done _ (by kernel_rfl) (Run.perm (L' := [(x, _), (b, _)]) (List.Perm.swap _ _ _) (Run.end0 (by rw [hCf]; exact func108) results108 (hR _ _ _ ?_))))⟩))
 exact ⟨b, rfl⟩
theorem Dss_one (f : Nat) (I : Imm) (hU : UT I) (i n : Nat) (hi : i < n) (hn : n <= 100000) (cs : List Value) (v : JV) (hrel : (tJV (f + 1)).rel I cs v) (d : Ds) (hv : dsR d v) (hg : okDt d) (b3 x off b : Nat) (cells ys : List Value) (tt : TypeId) (hB : At I b3 0 [.pointer (some ⟨x, off, none⟩)]) (hc : cells[off]? = some (.slice (some ⟨b, 0, none⟩) n n)) (hy : i * 9 + 9 <= ys.length) :
  Spec prog 110 [.int .i64 (i : Int), .agg cs.toArray, .pointer (some ⟨b3, 0, none⟩)] I [(x, blk cells tt), (b, blk (setAt ys (i * 9) z9) 83)] fun w J M => w = .bool true /\ ∃ dc, dsV J d dc /\ M = [(x, blk cells tt), (b, blk (setAt ys (i * 9) dc) 83)] := by
 have e9 : i * 9 = 0 + ((i : Int)).toNat * 9 := by omega
 rw [e9] at hy ⊢
 have hrel0 := hrel
 obtain ⟨wk, wn, rfl, hwk, hwn⟩ := hrel
 obtain ⟨A3, z3, rfl⟩ := hwk.isSl
 obtain ⟨A4, z4, rfl⟩ := hwn.isSl
 refine Spec.enter 13 [(0, _), (1, _), (2, _)] func110 rfl ntmps110 (by simp) rfl ?_
 intro C hCf hR hCI
 refine rS ?_
 refine Run.region (Ops.box rfl dc rfl rfl (fun b4 => (oP rfl (Ops.nil (rS (Run.regionT (D := [some 6, some 7, some 8, some 9, some 10, some 11, some 12, some 5]) (fun _ => True) [true, true, true, true, true, true] (bl 8 63) 2 (by kernel_rfl) (by kernel_rfl) (by kernel_rfl) rfl (fun Z hZ => (gY (Yv.loadI T hB rfl rfl) (eE rfl (gY (Yv.load 1 T rfl rfl rfl hc) (eE rfl (fE (Ev.indexS T rfl rfl rfl rfl om om) (gY (Yv.loadN 0 T rfl rfl rfl rfl rfl rfl) (zN hZ ((RAny.on 6 (bl 8 127) rfl (by kernel_rfl) rfl dc (Eff.callM (M := [_]) (N := [(b4, _), (x, _)]) (Descriptor_take f _ hU _ v hrel0 d hv hg b (0 + ((i : Int)).toNat * 9) ys 83 hy) (List.perm_append_comm (l₁ := [_, _]) (l₂ := [_])) call111 rfl fun w J' M' l' hw => ⟨fun _ _ => trivial, ?_⟩)))))))))))))))))
 obtain ⟨rfl, dc, hdc, rfl⟩ := hw
 refine RAny.tk 7 (bl 8 255) rfl (by kernel_rfl) (by decide) (fun _ _ => trivial) (Yld.eval T rfl rfl) (RAny.done _ (by kernel_rfl) ?_)
 skip
 refine Run.perm (L' := (b4, _) :: [(x, _), (b, _)]) (List.perm_append_comm (l₁ := [_]) (l₂ := [_, _])) ?_
 refine Run.dropL (List.sublist_cons_self _ _) ?_
 refine Run.ret1 (by rw [hCf]; exact func110) results110 rfl (hR _ _ _ ?_)
 exact ⟨rfl, dc, hdc, rfl⟩
end Go.V
