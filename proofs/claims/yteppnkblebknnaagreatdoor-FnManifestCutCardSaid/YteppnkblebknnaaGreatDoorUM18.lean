import Derived.Test.YteppnkblebknnaaGreatDoorUM17
import Derived.Test.YteppnkblebknnaaGreatDoorUM9
import Derived.Test.YteppnkblebknnaaGreatDoorUM12
import Derived.Test.YteppnkblebknnaaGreatDoorUM5
import Derived.Test.YteppnkblebknnaaGreatDoorUM4
import Derived.Lib.LaidU8T
set_option linter.unusedVariables false
set_option linter.unusedSimpArgs false
namespace Go.V
open Go.Proofs.Tryz
open Go.RowKit
set_option maxRecDepth 10000
attribute [local irreducible] Run Ops QD
def rdO (s : List UInt8) (i : Nat) (pr : Int) : Obj := blk [str s, .int .i64 i, .int .i64 pr] 178
theorem strings_NewReader (I : Imm) (s : List UInt8) : Spec prog 40 [str s] I [] fun w J M => ∃ r, w = .pointer (some ⟨r, 0, none⟩) ∧ M = [(r, rdO s 0 (-1))] := by
 refine Spec.enter 6 [(0, _)] func40 rfl ntmps40 (by simp) rfl ?_
 intro C hCf hR hCI
 refine Run.seq ?_
 refine Run.regionO (D := [some 2]) [true] rfl rfl rfl (fun Z hZ => ?_)
 refine q1 dc rfl rfl ?_
 refine QD.nil (hZ _ ?_)
 clear hZ Z
 refine Run.seq ?_
 refine Run.regionP (D := [some 3, some 4, some 5, some 2]) [true, true] 2 rfl rfl rfl (by simp only [List.drop_succ_cons, List.drop_zero]; rfl) (fun Z hZ => ?_)
 refine q1 dc rfl rfl ?_
 refine QD.e (Ev.buildS bd178 rfl rfl) dc rfl ?_
 refine QD.nil (hZ _ ?_)
 clear hZ Z
 refine Ops.box rfl dc rfl rfl (fun r => ?_)
 refine Ops.pure T rfl dc rfl ?_
 refine Ops.nil ?_
 skip
 refine Run.ret1 (by rw [hCf]; exact func40) results40 rfl (hR _ _ _ ?_)
 exact ⟨r, rfl, rfl⟩
def rdAns (eof : Value) (s : List UInt8) (i m : Nat) : Value := if s.length ≤ i then .tuple #[.int .i64 0, eof] else .tuple #[.int .i64 (min (s.length - i) m : Nat), .nilIface]
def rdNext (s : List UInt8) (i m : Nat) (pr : Int) : Obj := if s.length ≤ i then rdO s i pr else rdO s (i + min (s.length - i) m) (-1)
def rdBytes (s : List UInt8) (i : Nat) (xs : List UInt8) : List UInt8 := if s.length ≤ i then xs else (s.drop i).take xs.length ++ xs.drop (s.length - i)
set_option maxHeartbeats 1000000 in
theorem strings_Read (I : Imm) (s xs : List UInt8) (r b i cap : Nat) (pr : Int) (pre post : List Value) (et : TypeId) (ev : Value) (hE : At I 2 0 [.iface et ev]) (hs : s.length ≤ 1099511627776) (hi : i ≤ s.length) :
  Spec prog 290 [.pointer (some ⟨r, 0, none⟩), .slice (some ⟨b, pre.length, none⟩) xs.length cap] I [(r, rdO s i pr), (b, bobj pre xs post 5)] fun w J M =>
   w = rdAns (.iface et ev) s i xs.length ∧ M = [(r, rdNext s i xs.length pr), (b, bobj pre (rdBytes s i xs) post 5)] := by
 refine Spec.enter 39 [(0, _), (1, _)] func290 rfl ntmps290 (by simp) rfl ?_
 intro C hCf hR hCI
 refine Run.seq ?_
 refine Run.regionO (D := [some 4, some 5]) [true, true] rfl rfl rfl (fun Z hZ => ?_)
 iterate 2 refine q1 dc rfl rfl ?_
 refine QD.nil (hZ _ ?_)
 clear hZ Z
 repeat refine Run.seq ?_
 refine Run.regionQ (D := [some 6, some 7, some 8, some 9, some 10, some 11, some 12, some 13, some 14, some 15]) [true, true, true, true, true, true, true, true, true, true] (bl 10 1023) (by kernel_rfl) (by kernel_rfl) (by kernel_rfl) (by kernel_rfl) rfl (fun Z hZ => ?_)
 iterate 3 refine q1 dc rfl rfl ?_
 refine QD.yv dc rfl (Yv.load 0 T rfl rfl rfl rfl) ?_
 iterate 3 refine q1 dc rfl rfl ?_
 refine QD.yv dc rfl (Yv.load 0 T rfl rfl rfl rfl) ?_
 refine QD.e (Ev.lenS T rfl rfl) dc rfl ?_
 refine QD.e (Ev.geq rfl rfl) dc rfl ?_
 refine QD.nil (hZ _ ?_)
 clear hZ Z
 skip
 refine Run.cond rfl rfl (fun h1 => ?_) (fun h1 => ?_)
 all_goals (try rw [h1])
 all_goals (try simp only [decide_eq_true_eq, decide_eq_false_iff_not, Bool.not_eq_true', Bool.not_eq_false', Bool.and_eq_true, Bool.or_eq_true, Bool.and_eq_false_imp, Bool.or_eq_false_iff] at h1)
 ·have h1' : s.length ≤ i := by omega
  refine Run.seq ?_
  refine Run.regionQ (D := [some 16, some 4, some 5]) [true, true, true] (bl 3 7) (by kernel_rfl) (by kernel_rfl) (by kernel_rfl) (by kernel_rfl) rfl (fun Z hZ => ?_)
  refine QD.yv dc rfl (Yv.loadI T hE rfl rfl) ?_
  iterate 2 refine q1 dc rfl rfl ?_
  refine QD.nil (hZ _ ?_)
  clear hZ Z
  skip
  refine Run.ret2 (by rw [hCf]; exact func290) results290 rfl rfl (hR _ _ _ ?_)
  unfold rdAns rdNext rdBytes
  rw [if_pos h1', if_pos h1', if_pos h1']
  exact ⟨rfl, rfl⟩
 ·have h1' : ¬ s.length ≤ i := by omega
  repeat (first | refine Run.seq ?_ | refine Run.skip ?_)
  refine Run.regionP (D := [some 17, some 18, some 19, none]) [true, true, true] 3 rfl rfl rfl (by simp only [List.drop_succ_cons, List.drop_zero]; rfl) (fun Z hZ => ?_)
  iterate 3 refine q1 dc rfl rfl ?_
  refine QD.nil (hZ _ ?_)
  clear hZ Z
  refine Ops.store 0 rfl rfl rfl rfl rfl (T.sizeOk rfl) rfl (Nat.le_of_ble_eq_true rfl) rfl rfl ?_
  refine Ops.nil ?_
  refine Run.seq ?_
  refine Run.regionT (D := [some 20, some 21, some 22, some 23, some 24, some 25, some 26, some 27, some 28, some 29, some 30, some 4]) (fun _ => True) [true, true, true, true, true, true, true, true, true, true] (bl 12 1023) 2 (by kernel_rfl) (by kernel_rfl) (by kernel_rfl) rfl (fun Z hZ => ?_)
  iterate 4 refine q1 dc rfl rfl ?_
  refine QD.yv dc rfl (Yv.load 0 T rfl rfl rfl rfl) ?_
  iterate 3 refine q1 dc rfl rfl ?_
  refine QD.yv dc rfl (Yv.load 0 T rfl rfl rfl rfl) ?_
  refine QD.e (Ev.cutSLo T rfl rfl rfl om om) dc rfl ?_
  refine QD.nil (hZ _ ?_)
  clear hZ Z
  rw [Int.toNat_natCast]
  refine RAny.on 10 (bl 12 2047) rfl (by kernel_rfl) rfl dc (Eff.copyAt (N := [(r, _)]) btB rfl rfl (List.Perm.swap _ _ _) ⟨fun _ _ => trivial, ?_⟩)
  refine RAny.tk 11 (bl 12 4095) rfl (by kernel_rfl) dc (fun _ _ => trivial) (Yld.eval T rfl rfl) ?_
  refine RAny.done _ (by kernel_rfl) ?_
  refine Run.seq ?_
  have hm : (min (s.drop i).length xs.length : Nat) = min (s.length - i) xs.length := by simp
  rw [hm]
  refine Run.regionP (D := [some 31, some 32, some 33, some 34, some 35, some 36, some 37, some 38, none]) [true, true, true, true, true, true, true, true] 8 rfl rfl rfl (by simp only [List.drop_succ_cons, List.drop_zero]; rfl) (fun Z hZ => ?_)
  iterate 3 refine q1 dc rfl rfl ?_
  refine QD.yv dc rfl (Yv.load 1 T rfl rfl rfl rfl) ?_
  refine q1 dc rfl rfl ?_
  refine QD.e (Ev.addI rfl rfl (wI om om)) dc rfl ?_
  iterate 2 refine q1 dc rfl rfl ?_
  refine QD.nil (hZ _ ?_)
  clear hZ Z
  refine Ops.store 1 rfl rfl rfl rfl rfl (T.sizeOk rfl) rfl (Nat.le_of_ble_eq_true rfl) rfl rfl ?_
  refine Ops.nil ?_
  skip
  refine Run.perm (List.Perm.swap _ _ _) ?_
  refine Run.ret2 (by rw [hCf]; exact func290) results290 rfl rfl (hR _ _ _ ?_)
  unfold rdAns rdNext rdBytes
  rw [if_neg h1', if_neg h1', if_neg h1']
  refine ⟨rfl, ?_⟩
  rw [List.length_drop]
  rfl
theorem meth_rd : ∀ u w, (method (prog.types.size + Made.depth) 90 u "Read").run prog w = .ok (290, u) w := by intro u w; kernel_rfl
theorem nil_rd : ∀ a w, (nilAhead (prog.types.size + Made.depth) 90 (.pointer (some a)) "Read").run prog w = .ok (some false) w := by intro a w; kernel_rfl
abbrev eofV (a : Addr) : Value := .iface 279 (.pointer (some a))
theorem bobj_read (s cur xs : List UInt8) (i : Nat) (e : TypeId) (hi : i < s.length) : bobj (wb cur) (rdBytes s i xs) [] e = bobj (wb (cur ++ (s.drop i).take xs.length)) (xs.drop (s.length - i)) [] e := by
 unfold bobj rdBytes
 rw [if_neg (by omega)]
 simp only [wb, List.map_append, List.append_assoc]
theorem bobj_all (cur xs : List UInt8) (e : TypeId) : bobj (wb cur) xs [] e = blk (([] : List Value) ++ wb cur ++ wb xs) e := by
 unfold bobj; simp
theorem Buf.ofBlock (b c : Nat) (e : TypeId) : Buf e (.slice (some ⟨b, 0, none⟩) 0 c) [] [(b, blk (wb (List.replicate c 0)) e)] :=
 .inr ⟨b, [], wb (List.replicate c 0), c, rfl, by simp [wb], Nat.zero_le _, by simp [wb]⟩
theorem bobj_zero (b c : Nat) (e : TypeId) : blk (wb (List.replicate c 0)) e = bobj (wb []) (List.replicate c 0) [] e := by
 unfold bobj; simp [wb]
theorem sl_cur {J : Imm} {b C : Nat} {cur xs : List UInt8} (hJ : J b = some (bobj (wb cur) xs [] 5)) (hC : cur.length ≤ C) (hx : C ≤ cur.length + xs.length) : Sl tU8 J (.slice (some ⟨b, 0, none⟩) cur.length C) cur := by
 rw [bobj_all] at hJ
 exact Buf.sl (M := [(b, blk (([] : List Value) ++ wb cur ++ wb xs) 5)]) (.inr ⟨b, [], wb xs, C, rfl, rfl, hC, by simpa [wb] using hx⟩) (fun b' o h => by
  obtain ⟨rfl, rfl⟩ := Prod.mk.inj (List.mem_singleton.1 h); exact hJ)
theorem Rd.ofSl {J : Imm} {b off c : Nat} {s : List UInt8} (h : Sl tU8 J (.slice (some ⟨b, off, none⟩) s.length c) s) : Rd J (.slice (some ⟨b, off, none⟩) s.length c) s b off c := by
 by_cases hs : s = []
 ·subst hs
  exact ⟨rfl, Nat.zero_le _, fun i hi => absurd hi (Nat.not_lt_zero _)⟩
 ·obtain ⟨db, off', c', h'⟩ := Rd.of h hs
  have e := h'.eq
  injection e with e1 _ e3
  injection e1 with e1
  injection e1 with e1 e2 _
  subst e1; subst e2; subst e3
  exact h'
set_option maxHeartbeats 4000000 in
theorem io_ReadAll (I : Imm) (s : List UInt8) (r : Nat) (pr : Int) (a0 : Addr) (hE : At I 2 0 [eofV a0]) (hs : s.length ≤ 1099511627776) :
  Spec prog 119 [.iface 90 (.pointer (some ⟨r, 0, none⟩))] I [(r, rdO s 0 pr)] fun w J M => ∃ v db off c, w = .tuple #[v, .nilIface] ∧ Rd J v s db off c ∧ M = [] := by
 refine Spec.enter 91 [(0, _)] func119 rfl ntmps119 (by simp) rfl ?_
 intro C hCf hR hCI
 refine Run.seq ?_
 refine Run.regionO (D := [some 2, some 3]) [true, true] rfl rfl rfl (fun Z hZ => ?_)
 iterate 2 refine q1 dc rfl rfl ?_
 refine QD.nil (hZ _ ?_)
 clear hZ Z
 refine Run.seq ?_
 refine Run.region ?_
 refine Ops.makeBuf (a := 0) (c := 512) btB rfl dc rfl rfl (by omega) (by omega) fun B hB => ?_
 clear hB
 rw [bobj_zero B]
 obtain ⟨xs, hxs, hxl⟩ : ∃ xs : List UInt8, List.replicate 512 0 = xs ∧ xs.length = 512 := ⟨_, rfl, List.length_replicate⟩
 rw [hxs]
 clear hxs
 refine Ops.pure T rfl dc rfl ?_
 refine Ops.nil ?_
 refine Run.seq ?_
 refine Run.regionO (D := [some 5]) [true] rfl rfl rfl (fun Z hZ => ?_)
 refine q1 dc rfl rfl ?_
 refine QD.nil (hZ _ ?_)
 clear hZ Z
 refine Run.seq ?_
 refine Run.region ?_
 refine Ops.makeGr (tSl tU8) el261 rfl dc rfl rfl dc dc fun bc Mc hGc => ?_
 refine Ops.pure T rfl dc rfl ?_
 refine Ops.nil ?_
 refine Run.seq ?_
 refine Run.regionO (D := [some 7]) [true] rfl rfl rfl (fun Z hZ => ?_)
 refine q1 dc rfl rfl ?_
 refine QD.nil (hZ _ ?_)
 clear hZ Z
 refine Run.block ?_
 refine Run.keep [0, 4, 5, 6, 7] [_, _, _, _, _] rfl ?_
 refine Run.perm (L' := (B, bobj (wb []) xs [] 5) :: (r, rdO s 0 pr) :: Mc) (List.perm_append_comm (l₁ := Mc) (l₂ := [_, _])) ?_
 refine Run.rounds (fun m env L J => ∃ (i : Nat) (B : Nat) (cur xs : List UInt8) (pr : Int) (nx : Nat) (cl : List (List UInt8)) (vc : Value) (Mc : Own), m = s.length - i ∧ i ≤ s.length ∧ s.take i = cl.flatten ++ cur ∧ (cur.length + xs.length) / 16 ≤ xs.length ∧ 256 ≤ cur.length + xs.length ∧ cur.length + xs.length ≤ 9223372036854775807 ∧
   nx ≤ 2 * cl.flatten.length + 256 ∧ 256 ≤ nx ∧ 2 * nx ≤ 3 * (cur.length + xs.length) ∧ cl.length ≤ cl.flatten.length ∧
   Gr (tSl tU8) J 31 vc cl Mc ∧ env = [(0, .iface 90 (.pointer (some ⟨r, 0, none⟩))), (4, .slice (some ⟨B, 0, none⟩) cur.length (cur.length + xs.length)), (5, .int .i64 (nx : Int)), (6, vc), (7, .int .i64 (cl.flatten.length : Int))] ∧
   L = (B, bobj (wb cur) xs [] 5) :: (r, rdO s i pr) :: Mc ∧ Le I J) s.length ⟨0, B, [], xs, pr, 256, [], _, Mc, rfl, by omega, by simp, by simp [hxl], by simp [hxl], by simp [hxl], by simp, by omega, by simp [hxl], by simp, hGc, by rw [show ([] : List UInt8).length + xs.length = 512 by simp [hxl]]; rfl, rfl, Le.refl _⟩ ?_
 clear hGc hxl
 rintro m env L J ⟨i, B, cur, xs, pr, nx, cl, vc, Mc, rfl, hi, htk, hroom, hC0, hC1, hnx, hnx0, hnxC, hcl, hGc, rfl, rfl, hle⟩ ih
 have hE' := hE.mono hle
 have hxs0 : 0 < xs.length := by omega
 repeat (first | refine Run.seq ?_ | refine Run.block ?_)
 refine Run.regionAny (fun _ => True) (bl 16 0) (by kernel_rfl) (by kernel_rfl) ?_
 refine RAny.tk 0 (bl 16 1) rfl (by kernel_rfl) dc (fun _ _ => trivial) (Yld.eval T rfl rfl) ?_
 refine RAny.tk 1 (bl 16 3) rfl (by kernel_rfl) dc (fun _ _ => trivial) (Yld.eval T rfl rfl) ?_
 refine RAny.tk 2 (bl 16 7) rfl (by kernel_rfl) dc (fun _ _ => trivial) (Yld.eval T rfl rfl) ?_
 refine RAny.tk 3 (bl 16 15) rfl (by kernel_rfl) dc (fun _ _ => trivial) (Yld.eval T rfl rfl) ?_
 refine RAny.tk 4 (bl 16 31) rfl (by kernel_rfl) dc (fun _ _ => trivial) (Yld.eval T rfl rfl) ?_
 refine RAny.tk 5 (bl 16 63) rfl (by kernel_rfl) dc (fun _ _ => trivial) (Yld.ev (Ev.capV T rfl rfl) rfl) ?_
 refine RAny.tk 6 (bl 16 127) rfl (by kernel_rfl) dc (fun _ _ => trivial) (Yld.ev ((Ev.sliceLH (size := 1) T rfl rfl rfl rfl rfl (by omega) (by omega)).as (show _ = Value.slice (some ⟨B, (wb cur).length, none⟩) xs.length xs.length from by rw [if_neg (by omega)]; simp [Addr.add, wb]; intro h; simp [h])) rfl) ?_
 refine RAny.tk 7 (bl 16 255) rfl (by kernel_rfl) dc (fun _ _ => trivial) (Yld.eval T rfl rfl) ?_
 refine RAny.tk 8 (bl 16 511) rfl (by kernel_rfl) dc (fun _ _ => trivial) (Yld.ev (Ev.nilCheckM rfl (nil_rd _)) rfl) ?_
 refine RAny.tk 9 (bl 16 1023) rfl (by kernel_rfl) dc (fun _ _ => trivial) (Yld.eval T rfl rfl) ?_
 refine RAny.on 10 (bl 16 2047) rfl (by kernel_rfl) rfl dc (Eff.invokeM (M := [(r, rdO s i pr), (B, bobj (wb cur) xs [] 5)]) (N := Mc) (strings_Read J s xs r B i xs.length pr (wb cur) [] _ _ hE' hs hi) (List.Perm.swap _ _ _) call290 rfl (meth_rd _) rfl fun y J1 M1 l1 hw => ⟨fun _ _ => trivial, ?_⟩)
 obtain ⟨rfl, rfl⟩ := hw
 unfold rdAns rdNext
 skip
 by_cases hq : s.length ≤ i
 ·rw [if_pos hq, if_pos hq]
  have hii : i = s.length := by omega
  subst hii
  have hall : s = cl.flatten ++ cur := by rw [List.take_length] at htk; exact htk
  have hbr : rdBytes s s.length xs = xs := by unfold rdBytes; rw [if_pos (Nat.le_refl _)]
  rw [hbr]
  refine RAny.tk 11 (bl 16 4095) rfl (by kernel_rfl) dc (fun _ _ => trivial) (Yld.eval T rfl rfl) ?_
  refine RAny.tk 12 (bl 16 8191) rfl (by kernel_rfl) dc (fun _ _ => trivial) (Yld.eval T rfl rfl) ?_
  refine RAny.tk 13 (bl 16 16383) rfl (by kernel_rfl) dc (fun _ _ => trivial) (Yld.eval T rfl rfl) ?_
  refine RAny.tk 14 (bl 16 32767) rfl (by kernel_rfl) dc (fun _ _ => trivial) (Yld.eval T rfl rfl) ?_
  refine RAny.tk 15 (bl 16 65535) rfl (by kernel_rfl) dc (fun _ _ => trivial) (Yld.eval T rfl rfl) ?_
  refine RAny.done _ (by kernel_rfl) ?_
  refine Run.seq ?_
  refine Run.perm (List.Perm.swap _ _ _) ?_
  refine Run.regionO (D := [some 29, some 30, some 31, some 32, some 33, some 34, some 4]) [true, true, true, true, true, true, true] rfl rfl rfl (fun Z hZ => ?_)
  iterate 4 refine q1 dc rfl rfl ?_
  refine QD.e (Ev.addI rfl rfl (wI (by omega) (by omega))) dc rfl ?_
  refine QD.e ((Ev.sliceHi' T rfl rfl rfl rfl (by omega) (by omega)).as (show _ = Value.slice (some ⟨B, 0, none⟩) cur.length (cur.length + xs.length) from by simp)) dc rfl ?_
  refine q1 dc rfl rfl ?_
  refine QD.nil (hZ _ ?_)
  clear hZ Z
  repeat refine Run.seq ?_
  refine Run.regionO (D := [some 35, some 36]) [true, true] rfl rfl rfl (fun Z hZ => ?_)
  refine q1 dc rfl rfl ?_
  refine QD.e (Ev.neqNil T rfl rfl rfl rfl rfl) dc rfl ?_
  refine QD.nil (hZ _ ?_)
  clear hZ Z
  repeat (first | refine Run.seq ?_ | refine Run.cond_t rfl ?_)
  refine Run.region ?_
  refine Ops.pure T rfl dc rfl ?_
  refine Ops.loadI rfl dc rfl (hE'.mono l1) (T.aggOk rfl) ?_
  refine Ops.eqlSame underlying87 underlying279 (show _ = some t279 by kernel_rfl) rfl (show _ = some t353 by kernel_rfl) rfl dc rfl rfl ?_
  refine Ops.nil ?_
  refine Run.cond_t rfl ?_
  refine Run.regionO (D := [some 9]) [true] rfl rfl rfl (fun Z hZ => ?_)
  refine q1 dc rfl rfl ?_
  refine QD.nil (hZ _ ?_)
  clear hZ Z
  repeat refine Run.seq ?_
  have hGc1 := hGc.mono l1
  obtain ⟨Ac, cc, rfl⟩ := hGc1.isSl
  refine Run.freezeAt 0 rfl rfl fun J2 l2 hB => ?_
  have hcur := sl_cur hB (by omega) (Nat.le_refl _)
  refine Run.keepGr (hGc1.mono l2) (N := [(r, _)]) (List.perm_append_comm (l₁ := [_]) (l₂ := Mc)) fun J3 l3 hSl => ?_
  refine Run.dropL (L' := []) (List.nil_sublist _) ?_
  have hcur := hcur.mono l3
  have hsl : s.length = cl.flatten.length + cur.length := by have := congrArg List.length hall; rwa [List.length_append] at this
  by_cases hcl0 : cl = []
  ·subst hcl0
   obtain rfl : s = cur := by simpa using hall
   refine Run.regionO (D := [some 40, some 41, some 42]) [true, true, true] rfl rfl rfl (fun Z hZ => ?_)
   iterate 2 refine q1 dc rfl rfl ?_
   refine QD.e (Ev.eqlI rfl rfl) dc rfl ?_
   refine QD.nil (hZ _ ?_)
   clear hZ Z
   repeat (first | refine Run.seq ?_ | refine Run.cond_t rfl ?_)
   refine Run.regionO (D := [some 43, some 44, some 2, some 3]) [true, true, true, true] rfl rfl rfl (fun Z hZ => ?_)
   iterate 4 refine q1 dc rfl rfl ?_
   refine QD.nil (hZ _ ?_)
   clear hZ Z
   skip
   refine Run.ret2 (by rw [hCf]; exact func119) results119 rfl rfl (hR _ _ _ ?_)
   exact ⟨_, _, _, _, rfl, Rd.ofSl hcur, rfl⟩
  ·have hcln : 0 < cl.length := List.length_pos_iff.2 hcl0
   refine Run.regionO (D := [some 40, some 41, some 42]) [true, true, true] rfl rfl rfl (fun Z hZ => ?_)
   iterate 2 refine q1 dc rfl rfl ?_
   refine qf (Ev.eqlI rfl rfl) (by omega) dc rfl ?_
   refine QD.nil (hZ _ ?_)
   clear hZ Z
   repeat (first | refine Run.seq ?_ | refine Run.skip ?_ | refine Run.cond_f rfl ?_)
   refine Run.regionO (D := [some 45, some 46, some 47, some 48, some 7]) [true, true, true, true, true] rfl rfl rfl (fun Z hZ => ?_)
   iterate 3 refine q1 dc rfl rfl ?_
   refine QD.e (Ev.addK (r := ((s.length : Nat) : Int)) rfl rfl (by rw [wI (by omega) (by omega)]; omega)) dc rfl ?_
   refine q1 dc rfl rfl ?_
   refine QD.nil (hZ _ ?_)
   clear hZ Z
   refine Run.seq ?_
   refine Run.region ?_
   refine Ops.pure T rfl dc rfl ?_
   refine Ops.appMake (q := s.length) btB underlying3 rfl dc rfl rfl (by omega) (by omega) fun b2 c2 hc2 hc3 => ?_
   refine Ops.ev ((Ev.sliceHi' T rfl rfl rfl rfl (by omega) (by omega)).as (show _ = Value.slice (some ⟨b2, 0, none⟩) 0 c2 from rfl)) rfl dc ?_
   refine Ops.pure T rfl dc rfl ?_
   refine Ops.nil ?_
   repeat refine Run.seq ?_
   have hB2 := Buf.ofBlock b2 c2 5
   refine Run.regionO (D := [some 52, some 53, some 54]) [true, true, true] rfl rfl rfl (fun Z hZ => ?_)
   iterate 3 refine q1 dc rfl rfl ?_
   refine QD.nil (hZ _ ?_)
   clear hZ Z
   refine Run.block ?_
   refine Run.keep [4, 9, 10, 52, 53, 54] [_, _, _, _, _, _] rfl ?_
   refine Run.rounds (fun m env L J => ∃ (j : Nat) (fv : Value) (Mf : Own), m = cl.length - j ∧ j ≤ cl.length ∧ Buf 5 fv (cl.take j).flatten Mf ∧
    env = [(4, .slice (some ⟨B, 0, none⟩) cur.length (cur.length + xs.length)), (9, .nilIface), (10, fv), (52, .slice Ac cl.length cc), (53, .int .i64 (cl.length : Int)), (54, .int .i64 (j : Int))] ∧ L = Mf ∧ J3 = J) cl.length ⟨0, _, _, by omega, by omega, by simpa using hB2, rfl, rfl, rfl⟩ ?_
   clear hB2
   rintro m env L J ⟨j, fv, Mf, rfl, hj, hBf, rfl, rfl, rfl⟩ ih2
   have hle2 : (cl.take j).flatten.length ≤ cl.flatten.length := by
    have := congrArg (fun l => (List.flatten l).length) (List.take_append_drop j cl)
    simp only [List.flatten_append, List.length_append] at this; omega
   by_cases hlt : j < cl.length
   ·skip
    refine Run.seq ?_
    refine Run.regionO (D := [some 55]) [true] rfl rfl rfl (fun Z hZ => ?_)
    refine qt (Ev.lss rfl rfl) (by omega) dc rfl ?_
    refine QD.nil (hZ _ ?_)
    clear hZ Z
    repeat (first | refine Run.seq ?_ | refine Run.skip ?_ | refine Run.block ?_ | refine Run.cond_t rfl ?_)
    refine Run.region ?_
    refine Ops.indexSl (j := (j : Int)) hSl rfl dc rfl rfl (T.undOk rfl) (T.sizeOk rfl) (by omega) (by omega) fun bb off q cs hq1 hr1 hA => ?_
    obtain ⟨vq, rfl, hq8⟩ := hr1
    rw [Int.toNat_natCast] at hq1
    obtain ⟨Aq, cq, rfl⟩ := hq8.isSl
    refine Ops.loadI rfl dc rfl hA (T.aggOk rfl) ?_
    refine Ops.pure T rfl dc rfl ?_
    refine Ops.nil ?_
    skip
    have hle3 : (cl.take j).flatten.length + q.length ≤ cl.flatten.length := by
     obtain ⟨hj', rfl⟩ := List.getElem?_eq_some_iff.1 hq1
     have := congrArg (fun l => (List.flatten l).length) (List.take_append_drop (j + 1) cl)
     rw [List.take_succ_eq_append_getElem hj'] at this
     simp only [List.flatten_append, List.length_append, List.flatten_singleton, List.flatten_cons, List.flatten_nil, List.append_nil] at this; omega
    refine Run.region ?_
    iterate 2 refine Ops.pure T rfl dc rfl ?_
    refine Ops.appSlB (N := []) btB hBf hq8 rfl dc rfl rfl rfl (by omega) fun v' M' hB' => ?_
    refine Ops.pure T rfl dc rfl ?_
    refine Ops.nil ?_
    refine Run.inBlock ?_
    refine Run.regionO (D := [some 61, some 54]) [true, true] rfl rfl rfl (fun Z hZ => ?_)
    refine QD.e (Ev.addK (r := ((j + 1 : Nat) : Int)) rfl rfl (by rw [wI (by omega) (by omega)]; omega)) dc rfl ?_
    refine q1 dc rfl rfl ?_
    refine QD.nil (hZ _ ?_)
    clear hZ Z
    skip
    refine Run.keep [4, 9, 10, 52, 53, 54] [_, _, _, _, _, _] rfl ?_
    refine ih2 (cl.length - (j + 1)) _ _ _ (by omega) ⟨j + 1, v', M', rfl, by omega, ?_, rfl, rfl, rfl⟩
    obtain ⟨hj', rfl⟩ := List.getElem?_eq_some_iff.1 hq1
    rw [List.take_succ_eq_append_getElem hj', List.flatten_append, List.flatten_singleton]
    exact hB'
   ·obtain rfl : j = cl.length := by omega
    rw [List.take_length] at hBf
    refine Run.seq ?_
    refine Run.regionO (D := [some 55]) [true] rfl rfl rfl (fun Z hZ => ?_)
    refine qf (Ev.lss rfl rfl) (by omega) dc rfl ?_
    refine QD.nil (hZ _ ?_)
    clear hZ Z
    repeat (first | refine Run.seq ?_ | refine Run.exit rfl ?_ | refine Run.cond_f rfl ?_)
    refine Run.region ?_
    iterate 2 refine Ops.pure T rfl dc rfl ?_
    refine Ops.appSlB (N := []) btB hBf hcur rfl dc rfl rfl rfl (by omega) fun v' M' hB' => ?_
    refine Ops.pure T rfl dc rfl ?_
    refine Ops.nil ?_
    refine Run.seq ?_
    refine Run.regionO (D := [some 65, some 66, some 2, some 3]) [true, true, true, true] rfl rfl rfl (fun Z hZ => ?_)
    iterate 4 refine q1 dc rfl rfl ?_
    refine QD.nil (hZ _ ?_)
    clear hZ Z
    skip
    rw [← hall] at hB'
    refine Run.keepB (M := M') (N := []) hB' (by simp) fun J5 l5 hv => ?_
    refine Run.ret2 (by rw [hCf]; exact func119) results119 rfl rfl (hR _ _ _ ?_)
    have hne : s ≠ [] := fun e => by rw [e] at hsl; simp only [List.length_nil] at hsl; omega
    obtain ⟨db, off, c, hrd⟩ := Rd.of hv hne
    exact ⟨_, db, off, c, rfl, hrd, rfl⟩
 ·skip
  skip
  rw [if_neg hq, if_neg hq, bobj_read s cur xs i _ (by omega)]
  have hq2 : min (s.length - i) xs.length = min xs.length (s.drop i).length := by rw [List.length_drop]; omega
  have htake : (s.drop i).take xs.length = (s.drop i).take (min (s.length - i) xs.length) := List.take_eq_take_iff.2 (by rw [List.length_drop]; omega)
  have hdrl : (xs.drop (s.length - i)).length = xs.length - min (s.length - i) xs.length := by rw [List.length_drop]; omega
  rw [htake]
  have hcl' : ((s.drop i).take (min (s.length - i) xs.length)).length = min (s.length - i) xs.length := by rw [List.length_take, List.length_drop]; omega
  have hqs : min (s.length - i) xs.length ≤ s.length - i ∧ min (s.length - i) xs.length ≤ xs.length ∧ 0 < min (s.length - i) xs.length := by omega
  clear htake hq2
  have htk2 : ∀ q, s.take (i + q) = s.take i ++ (s.drop i).take q := fun q => List.take_add
  generalize min (s.length - i) xs.length = q at *
  have htk' : s.take (i + q) = cl.flatten ++ (cur ++ (s.drop i).take q) := by rw [htk2, htk, List.append_assoc]
  obtain ⟨hq0, hq1, hq2⟩ := hqs
  have hcul : (cur ++ (s.drop i).take q).length = cur.length + q := by rw [List.length_append, hcl']
  generalize cur ++ (s.drop i).take q = cu at *
  generalize xs.drop (s.length - i) = xr at *
  clear htk htk2 hcl'
  have hCC : cur.length + xs.length = cu.length + xr.length := by omega
  have hsum : cl.flatten.length + cu.length ≤ s.length := by
   have := congrArg List.length htk'
   rw [List.length_take, List.length_append] at this; omega
  refine RAny.tk 11 (bl 16 4095) rfl (by kernel_rfl) dc (fun _ _ => trivial) (Yld.eval T rfl rfl) ?_
  refine RAny.tk 12 (bl 16 8191) rfl (by kernel_rfl) dc (fun _ _ => trivial) (Yld.eval T rfl rfl) ?_
  refine RAny.tk 13 (bl 16 16383) rfl (by kernel_rfl) dc (fun _ _ => trivial) (Yld.eval T rfl rfl) ?_
  refine RAny.tk 14 (bl 16 32767) rfl (by kernel_rfl) dc (fun _ _ => trivial) (Yld.eval T rfl rfl) ?_
  refine RAny.tk 15 (bl 16 65535) rfl (by kernel_rfl) dc (fun _ _ => trivial) (Yld.eval T rfl rfl) ?_
  refine RAny.done _ (by kernel_rfl) ?_
  refine Run.seq ?_
  refine Run.perm (List.Perm.swap _ _ _) ?_
  refine Run.regionO (D := [some 29, some 30, some 31, some 32, some 33, some 34, some 4]) [true, true, true, true, true, true, true] rfl rfl rfl (fun Z hZ => ?_)
  iterate 4 refine q1 dc rfl rfl ?_
  refine QD.e (Ev.addK (r := ((cu.length : Nat) : Int)) rfl rfl (by rw [wI (by omega) (by omega)]; omega)) dc rfl ?_
  refine QD.e ((Ev.sliceHi' T rfl rfl rfl rfl (by omega) (by omega)).as (show _ = Value.slice (some ⟨B, 0, none⟩) cu.length (cu.length + xr.length) from by rw [Int.toNat_natCast, hCC])) dc rfl ?_
  refine q1 dc rfl rfl ?_
  refine QD.nil (hZ _ ?_)
  clear hZ Z
  repeat refine Run.seq ?_
  refine Run.regionO (D := [some 35, some 36]) [true, true] rfl rfl rfl (fun Z hZ => ?_)
  refine q1 dc rfl rfl ?_
  refine QD.e (Ev.neqNil T rfl rfl rfl rfl rfl) dc rfl ?_
  refine QD.nil (hZ _ ?_)
  clear hZ Z
  repeat (first | refine Run.seq ?_ | refine Run.skip ?_ | refine Run.cond_f rfl ?_)
  have hGc1 := hGc.mono l1
  by_cases hfull : xr.length < (cu.length + xr.length) / 16
  ·skip
   refine Run.regionO (D := [some 67, some 68, some 69, some 70, some 71, some 72, some 73, some 74, some 75]) [true, true, true, true, true, true, true, true, true] rfl rfl rfl (fun Z hZ => ?_)
   refine q1 dc rfl rfl ?_
   refine QD.e (Ev.capV T rfl rfl) dc rfl ?_
   iterate 2 refine q1 dc rfl rfl ?_
   refine QD.e (Ev.subK (r := ((xr.length : Nat) : Int)) rfl rfl (by rw [wI (by omega) (by omega)]; omega)) dc rfl ?_
   refine q1 dc rfl rfl ?_
   refine QD.e (Ev.capV T rfl rfl) dc rfl ?_
   refine QD.e (Ev.quoI rfl rfl dc ((congrArg IntKind.i64.wrap (Int.tdiv_eq_ediv_of_nonneg om)).trans (wI om om))) dc rfl ?_
   refine qt (Ev.lss rfl rfl) (by omega) dc rfl ?_
   refine QD.nil (hZ _ ?_)
   clear hZ Z
   repeat (first | refine Run.seq ?_ | refine Run.cond_t rfl ?_)
   obtain ⟨Ac, cc, rfl⟩ := hGc1.isSl
   refine Run.freezeAt 0 rfl rfl fun J2 l2 hB => ?_
   have hcur := sl_cur hB (by omega) (Nat.le_refl _)
   have hGc2 := hGc1.mono l2
   clear hB
   refine Run.region ?_
   iterate 2 refine Ops.pure T rfl dc rfl ?_
   refine Ops.lit T rfl rfl rfl dc rfl dc dc rfl rfl rfl rfl rfl (fun bq => ?_)
   refine Ops.appOne (N := [_]) el261 hGc2 ⟨_, rfl, hcur⟩ rfl dc rfl rfl rfl rfl (by omega) (by omega) fun vc3 Mc3 hGc3 => ?_
   refine Ops.pure T rfl dc rfl ?_
   refine Ops.nil ?_
   refine Run.seq ?_
   refine Run.regionO (D := [some 80, some 81, some 82, some 83, some 7]) [true, true, true, true, true] rfl rfl rfl (fun Z hZ => ?_)
   iterate 3 refine q1 dc rfl rfl ?_
   refine QD.e (Ev.addK (r := (((cl ++ [cu]).flatten.length : Nat) : Int)) rfl rfl (by rw [wI (by omega) (by omega)]; simp)) dc rfl ?_
   refine q1 dc rfl rfl ?_
   refine QD.nil (hZ _ ?_)
   clear hZ Z
   refine Run.seq ?_
   refine Run.region ?_
   refine Ops.pure T rfl dc rfl ?_
   refine Ops.appMake (q := nx) btB underlying3 rfl dc rfl rfl (by omega) (by omega) fun b2 c2 hc2 hc3 => ?_
   refine Ops.ev ((Ev.sliceHi' T rfl rfl rfl rfl (by omega) (by omega)).as (show _ = Value.slice (some ⟨b2, 0, none⟩) 0 c2 from rfl)) rfl dc ?_
   refine Ops.pure T rfl dc rfl ?_
   refine Ops.nil ?_
   skip
   refine Run.regionO (D := [some 87, some 88, some 89, some 90, some 5]) [true, true, true, true, true] rfl rfl rfl (fun Z hZ => ?_)
   iterate 2 refine q1 dc rfl rfl ?_
   refine QD.e ((Ev.quoI rfl rfl dc ((congrArg IntKind.i64.wrap (Int.tdiv_eq_ediv_of_nonneg (by omega))).trans (wI (by omega) (by omega)))).as (show _ = Value.int .i64 ((nx / 2 : Nat) : Int) from congrArg (Value.int .i64) (by omega))) dc rfl ?_
   refine QD.e (Ev.addK (r := ((nx + nx / 2 : Nat) : Int)) rfl rfl (by rw [wI (by omega) (by omega)]; omega)) dc rfl ?_
   refine q1 dc rfl rfl ?_
   refine QD.nil (hZ _ ?_)
   clear hZ Z
   refine Run.inBlock ?_
   refine Run.keep [0, 4, 5, 6, 7] [_, _, _, _, _] rfl ?_
   rw [bobj_zero b2]
   have hrl : (List.replicate c2 (0 : UInt8)).length = c2 := List.length_replicate
   have hfl : (cl ++ [cu]).flatten.length = cl.flatten.length + cu.length := by simp
   generalize List.replicate c2 (0 : UInt8) = zs at *
   refine ih (s.length - (i + q)) _ _ _ (by omega) ⟨i + q, b2, [], zs, -1, nx + nx / 2, cl ++ [cu], vc3, Mc3, rfl, by omega, by rw [htk']; simp, by simp only [List.length_nil]; omega, by simp only [List.length_nil]; omega, by simp only [List.length_nil]; omega, by omega, by omega, by simp only [List.length_nil]; omega, by rw [hfl, List.length_append, List.length_singleton]; omega, hGc3, ?_, rfl, (hle.trans l1).trans l2⟩
   rw [List.length_nil, Nat.zero_add, hrl]
   rfl
  ·skip
   refine Run.regionO (D := [some 67, some 68, some 69, some 70, some 71, some 72, some 73, some 74, some 75]) [true, true, true, true, true, true, true, true, true] rfl rfl rfl (fun Z hZ => ?_)
   refine q1 dc rfl rfl ?_
   refine QD.e (Ev.capV T rfl rfl) dc rfl ?_
   iterate 2 refine q1 dc rfl rfl ?_
   refine QD.e (Ev.subK (r := ((xr.length : Nat) : Int)) rfl rfl (by rw [wI (by omega) (by omega)]; omega)) dc rfl ?_
   refine q1 dc rfl rfl ?_
   refine QD.e (Ev.capV T rfl rfl) dc rfl ?_
   refine QD.e (Ev.quoI rfl rfl dc ((congrArg IntKind.i64.wrap (Int.tdiv_eq_ediv_of_nonneg om)).trans (wI om om))) dc rfl ?_
   refine qf (Ev.lss rfl rfl) (by omega) dc rfl ?_
   refine QD.nil (hZ _ ?_)
   clear hZ Z
   repeat (first | refine Run.skip ?_ | refine Run.inBlock ?_ | refine Run.cond_f rfl ?_)
   refine Run.keep [0, 4, 5, 6, 7] [_, _, _, _, _] rfl ?_
   exact ih (s.length - (i + q)) _ _ _ (by omega) ⟨i + q, B, cu, xr, -1, nx, cl, vc, Mc, rfl, by omega, htk', by omega, by omega, by omega, hnx, hnx0, by omega, hcl, hGc1, rfl, rfl, hle.trans l1⟩
end Go.V
namespace Go.V
open Go.Proofs.Tryz
open Go.RowKit
set_option maxRecDepth 10000
attribute [local irreducible] Run Ops QD
set_option maxHeartbeats 1000000 in
theorem zz_Decode {R : Imm → Own → Prop} (I : Imm) (hU : UT I) (s : Bs) (hs : s.length ≤ 137438953472) (r x : Nat) (pr : Int) (a0 : Addr) (hE : At I 2 0 [eofV a0]) (o : Obj) (tt : TypeId) (F : FuncId) (v : JV) (t : Bs) (hv : rdV 10000 s = some (v, t))
  (hmeth : ∀ u w, (method (prog.types.size + Made.depth) tt u "ZzTake").run prog w = .ok (F, u) w) (hcall : ∀ args w, (callFunc F args).run prog w = .ok (.enter F args) w)
  (htake : ∀ J cs, Le I J → (tJV (10000 + 1)).rel J cs v → Spec prog F [.pointer (some ⟨x, 0, none⟩), .agg cs.toArray] J [(x, o)] fun w J' M => w = .bool true ∧ R J' M) :
  Spec prog 81 [.iface 90 (.pointer (some ⟨r, 0, none⟩)), .iface tt (.pointer (some ⟨x, 0, none⟩))] I [(r, rdO s 0 pr), (x, o)] fun w J M => w = .nilIface ∧ R J M := by
 refine Spec.enter 60 [(0, _), (1, _)] func81 rfl ntmps81 (by simp) rfl ?_
 intro C hCf hR hCI
 refine Run.seq ?_
 refine Run.regionO (D := [some 4]) [true] rfl rfl rfl (fun Z hZ => ?_)
 refine q1 dc rfl rfl ?_
 refine QD.nil (hZ _ ?_)
 clear hZ Z
 refine Run.seq ?_
 refine Run.regionP (D := [some 11, some 12, some 10, some 13, some 14, some 5, some 6]) [true] 1 rfl rfl rfl (by simp only [List.drop_succ_cons, List.drop_zero]; rfl) (fun Z hZ => ?_)
 refine q1 dc rfl rfl ?_
 refine QD.nil (hZ _ ?_)
 clear hZ Z
 refine Ops.callP (M := [(r, rdO s 0 pr)]) (N := [(x, o)]) (io_ReadAll I s r pr a0 hE (by omega)) (List.Perm.swap _ _ _) rfl dc call119 rfl ?_
 rintro y J1 M1 l1 ⟨w, db, off, c, rfl, hR0, rfl⟩
 have hV : ∀ r, _ := fun r => reader_value 10000 s J1 s w db off c r 0 (hU.mono l1) hR0 (Sfx.refl s) hs rfl
 obtain rfl := hR0.eq
 rw [hv] at hV
 have h0 : posR s s = 0 := by unfold posR; omega
 rw [h0] at hV
 iterate 5 refine Ops.pure T rfl dc rfl ?_
 refine Ops.nil ?_
 refine Run.seq ?_
 refine Run.region ?_
 refine Ops.pure T rfl dc rfl ?_
 refine Ops.buildL bd227 rfl dc rfl rfl ?_
 refine Ops.box rfl dc rfl rfl (fun rb => ?_)
 refine Ops.pure T rfl dc rfl ?_
 refine Ops.nil ?_
 refine Run.seq ?_
 refine Run.regionP (D := [some 19, some 20, some 18, some 21, some 22, some 8, none, some 9]) [true] 1 rfl rfl rfl (by simp only [List.drop_succ_cons, List.drop_zero]; rfl) (fun Z hZ => ?_)
 refine q1 dc rfl rfl ?_
 refine QD.nil (hZ _ ?_)
 clear hZ Z
 refine Ops.callP (N := [(x, o)]) (hV rb) (List.Perm.swap _ _ _) rfl dc call120 rfl ?_
 rintro y J2 M2 l2 ⟨cs, rfl, hrel, rfl⟩
 have hrel0 := hrel
 obtain ⟨wk, wn, rfl, hwk, hwn⟩ := hrel
 obtain ⟨A3, z3, rfl⟩ := hwk.isSl
 obtain ⟨A4, z4, rfl⟩ := hwn.isSl
 iterate 3 refine Ops.pure T rfl dc rfl ?_
 refine Ops.alloc rfl dc (T.zeroOk rfl) rfl (fun b8 => ?_)
 refine Ops.store 0 rfl rfl rfl rfl rfl (T.sizeOk rfl) rfl (Nat.le_of_ble_eq_true rfl) rfl rfl ?_
 refine Ops.pure T rfl dc rfl ?_
 refine Ops.nil ?_
 repeat refine Run.seq ?_
 refine Run.regionO (D := [some 23, some 24]) [true, true] rfl rfl rfl (fun Z hZ => ?_)
 iterate 2 refine q1 dc rfl rfl ?_
 refine QD.nil (hZ _ ?_)
 clear hZ Z
 repeat (first | refine Run.seq ?_ | refine Run.skip ?_ | refine Run.cond_f rfl ?_)
 refine Run.regionP (D := [some 55, some 56, some 57, some 58]) [true, true] 2 rfl rfl rfl (by simp only [List.drop_succ_cons, List.drop_zero]; rfl) (fun Z hZ => ?_)
 refine q1 dc rfl rfl ?_
 refine QD.yv dc rfl (Yv.loadN 0 T rfl rfl rfl rfl rfl rfl) ?_
 refine QD.nil (hZ _ ?_)
 clear hZ Z
 refine Ops.eff rfl (dOk dc) (Eff.invokeM (M := [(x, o)]) (N := [(b8, _), (rb, _)]) (htake J2 _ (l1.trans l2) hrel0) (List.Perm.swap _ _ _) hcall rfl (hmeth _) rfl fun y J3 M' l3 hw => ?_)
 obtain ⟨rfl, hR3⟩ := hw
 refine Ops.pure T rfl dc rfl ?_
 refine Ops.nil ?_
 repeat (first | refine Run.seq ?_ | refine Run.skip ?_ | refine Run.cond_f rfl ?_)
 refine Run.regionO (D := [some 4]) [true] rfl rfl rfl (fun Z hZ => ?_)
 refine q1 dc rfl rfl ?_
 refine QD.nil (hZ _ ?_)
 clear hZ Z
 skip
 refine Run.dropL (L' := M') (List.sublist_append_left _ _) ?_
 refine Run.ret1 (by rw [hCf]; exact func81) results81 rfl (hR _ _ _ ?_)
 exact ⟨rfl, hR3⟩
set_option maxHeartbeats 1000000 in
theorem zz_DecodeNo (I : Imm) (hU : UT I) (s : Bs) (hs : s.length ≤ 137438953472) (r x : Nat) (pr : Int) (a0 : Addr) (hE : At I 2 0 [eofV a0]) (o : Obj) (tt : TypeId) (hv : rdV 10000 s = none) :
  Spec prog 81 [.iface 90 (.pointer (some ⟨r, 0, none⟩)), .iface tt (.pointer (some ⟨x, 0, none⟩))] I [(r, rdO s 0 pr), (x, o)] fun w J M => ∃ t' p', w = .iface t' p' ∧ M = [(x, o)] := by
 refine Spec.enter 60 [(0, _), (1, _)] func81 rfl ntmps81 (by simp) rfl ?_
 intro C hCf hR hCI
 refine Run.seq ?_
 refine Run.regionO (D := [some 4]) [true] rfl rfl rfl (fun Z hZ => ?_)
 refine q1 dc rfl rfl ?_
 refine QD.nil (hZ _ ?_)
 clear hZ Z
 refine Run.seq ?_
 refine Run.regionP (D := [some 11, some 12, some 10, some 13, some 14, some 5, some 6]) [true] 1 rfl rfl rfl (by simp only [List.drop_succ_cons, List.drop_zero]; rfl) (fun Z hZ => ?_)
 refine q1 dc rfl rfl ?_
 refine QD.nil (hZ _ ?_)
 clear hZ Z
 refine Ops.callP (M := [(r, rdO s 0 pr)]) (N := [(x, o)]) (io_ReadAll I s r pr a0 hE (by omega)) (List.Perm.swap _ _ _) rfl dc call119 rfl ?_
 rintro y J1 M1 l1 ⟨w, db, off, c, rfl, hR0, rfl⟩
 have hV : ∀ r, _ := fun r => reader_value 10000 s J1 s w db off c r 0 (hU.mono l1) hR0 (Sfx.refl s) hs rfl
 have hBl : ∀ (J : Imm) (r d : Nat), Le J1 J → _ := fun J r d hle => reader_blank J s w db off c r 0 d (hR0.mono hle) (Nat.zero_le _) (by omega)
 obtain rfl := hR0.eq
 rw [hv] at hV
 have h0 : posR s s = 0 := by unfold posR; omega
 rw [h0] at hV
 iterate 5 refine Ops.pure T rfl dc rfl ?_
 refine Ops.nil ?_
 refine Run.seq ?_
 refine Run.region ?_
 refine Ops.pure T rfl dc rfl ?_
 refine Ops.buildL bd227 rfl dc rfl rfl ?_
 refine Ops.box rfl dc rfl rfl (fun rb => ?_)
 refine Ops.pure T rfl dc rfl ?_
 refine Ops.nil ?_
 refine Run.seq ?_
 refine Run.regionP (D := [some 19, some 20, some 18, some 21, some 22, some 8, none, some 9]) [true] 1 rfl rfl rfl (by simp only [List.drop_succ_cons, List.drop_zero]; rfl) (fun Z hZ => ?_)
 refine q1 dc rfl rfl ?_
 refine QD.nil (hZ _ ?_)
 clear hZ Z
 refine Ops.callP (N := [(x, o)]) (hV rb) (List.Perm.swap _ _ _) rfl dc call120 rfl ?_
 rintro y J2 M2 l2 ⟨cs, p, d', rfl, hcl, hone, hp, rfl⟩
 obtain ⟨c1, c2, c3, c4, c5, rfl⟩ : ∃ c1 c2 c3 c4 c5, cs = [c1, c2, c3, c4, c5] := by
  match cs, hcl with
  | [c1, c2, c3, c4, c5], _ => exact ⟨c1, c2, c3, c4, c5, rfl⟩
 have hE2 := hE.mono (l1.trans l2)
 iterate 3 refine Ops.pure T rfl dc rfl ?_
 refine Ops.alloc rfl dc (T.zeroOk rfl) rfl (fun b8 => ?_)
 refine Ops.store 0 rfl rfl rfl rfl rfl (T.sizeOk rfl) rfl (Nat.le_of_ble_eq_true rfl) hone rfl ?_
 refine Ops.pure T rfl dc rfl ?_
 refine Ops.nil ?_
 repeat refine Run.seq ?_
 refine Run.regionO (D := [some 23, some 24]) [true, true] rfl rfl rfl (fun Z hZ => ?_)
 iterate 2 refine q1 dc rfl rfl ?_
 refine QD.nil (hZ _ ?_)
 clear hZ Z
 repeat (first | refine Run.seq ?_ | refine Run.cond_t rfl ?_)
 refine Run.regionO (D := [some 25, some 26]) [true, true] rfl rfl rfl (fun Z hZ => ?_)
 refine q1 dc rfl rfl ?_
 refine QD.e (Ev.neqNil T rfl rfl rfl rfl rfl) dc rfl ?_
 refine QD.nil (hZ _ ?_)
 clear hZ Z
 repeat (first | refine Run.seq ?_ | refine Run.skip ?_ | refine Run.cond_f rfl ?_)
 by_cases hpl : s.length ≤ p
 ·skip
  refine Run.regionQ (D := [some 28, some 29, some 30, some 31, some 32, some 33, some 34, some 35, some 36, some 37]) [true, true, true, true, true, true, true, true, true, true] (bl 10 1023) (by kernel_rfl) (by kernel_rfl) (by kernel_rfl) (by kernel_rfl) rfl (fun Z hZ => ?_)
  iterate 3 refine q1 dc rfl rfl ?_
  refine QD.yv dc rfl (Yv.load 2 T rfl rfl rfl rfl) ?_
  iterate 3 refine q1 dc rfl rfl ?_
  refine QD.yv dc rfl (Yv.load 2 T rfl rfl rfl rfl) ?_
  refine q1 dc rfl rfl ?_
  refine qt (Ev.geq rfl rfl) (by omega) dc rfl ?_
  refine QD.nil (hZ _ ?_)
  clear hZ Z
  repeat (first | refine Run.seq ?_ | refine Run.cond_t rfl ?_)
  refine Run.region ?_
  iterate 3 refine Ops.pure T rfl dc rfl ?_
  refine Ops.store 2 rfl rfl rfl rfl rfl (T.sizeOk rfl) rfl (Nat.le_of_ble_eq_true rfl) rfl rfl ?_
  refine Ops.nil ?_
  refine Run.seq ?_
  refine Run.regionP (D := [some 41, some 42]) [true] 1 rfl rfl rfl (by simp only [List.drop_succ_cons, List.drop_zero]; rfl) (fun Z hZ => ?_)
  refine q1 dc rfl rfl ?_
  refine QD.nil (hZ _ ?_)
  clear hZ Z
  refine Ops.callP (M := [(rb, rdr _ 0 d')]) (N := [(b8, _), (x, o)]) (hBl J2 rb d' l2) (.refl _) rfl dc call121 rfl ?_
  rintro y J3 M3 l3 ⟨rfl, rfl⟩
  have hpos : s.length - (skipB (s.drop 0)).length ≤ s.length := Nat.sub_le _ _
  generalize s.length - (skipB (s.drop 0)).length = p2 at *
  refine Ops.nil ?_
  refine Run.seq ?_
  by_cases hp2 : s.length ≤ p2
  ·skip
   refine Run.regionQ (D := [some 43, some 44, some 45, some 46, some 47, some 48, some 49, some 50, some 51, some 52]) [true, true, true, true, true, true, true, true, true, true] (bl 10 1023) (by kernel_rfl) (by kernel_rfl) (by kernel_rfl) (by kernel_rfl) rfl (fun Z hZ => ?_)
   iterate 3 refine q1 dc rfl rfl ?_
   refine QD.yv dc rfl (Yv.load 2 T rfl rfl rfl rfl) ?_
   iterate 3 refine q1 dc rfl rfl ?_
   refine QD.yv dc rfl (Yv.load 2 T rfl rfl rfl rfl) ?_
   refine q1 dc rfl rfl ?_
   refine qt (Ev.geq rfl rfl) (by omega) dc rfl ?_
   refine QD.nil (hZ _ ?_)
   clear hZ Z
   repeat (first | refine Run.seq ?_ | refine Run.cond_t rfl ?_)
   refine Run.region ?_
   refine Ops.loadI rfl dc rfl hE2 (T.aggOk rfl) ?_
   refine Ops.pure T rfl dc rfl ?_
   refine Ops.nil ?_
   skip
   refine Run.dropL (L' := [(x, o)]) (List.Sublist.cons _ (List.Sublist.cons_cons _ (List.nil_sublist _))) ?_
   refine Run.ret1 (by rw [hCf]; exact func81) results81 rfl (hR _ _ _ ?_)
   exact ⟨_, _, rfl, rfl⟩
  ·skip
   refine Run.regionQ (D := [some 43, some 44, some 45, some 46, some 47, some 48, some 49, some 50, some 51, some 52]) [true, true, true, true, true, true, true, true, true, true] (bl 10 1023) (by kernel_rfl) (by kernel_rfl) (by kernel_rfl) (by kernel_rfl) rfl (fun Z hZ => ?_)
   iterate 3 refine q1 dc rfl rfl ?_
   refine QD.yv dc rfl (Yv.load 2 T rfl rfl rfl rfl) ?_
   iterate 3 refine q1 dc rfl rfl ?_
   refine QD.yv dc rfl (Yv.load 2 T rfl rfl rfl rfl) ?_
   refine q1 dc rfl rfl ?_
   refine qf (Ev.geq rfl rfl) (by omega) dc rfl ?_
   refine QD.nil (hZ _ ?_)
   clear hZ Z
   repeat (first | refine Run.seq ?_ | refine Run.skip ?_ | refine Run.cond_f rfl ?_)
   refine Run.regionO (D := [some 54, some 4]) [true, true] rfl rfl rfl (fun Z hZ => ?_)
   iterate 2 refine q1 dc rfl rfl ?_
   refine QD.nil (hZ _ ?_)
   clear hZ Z
   skip
   refine Run.dropL (L' := [(x, o)]) (List.Sublist.cons _ (List.Sublist.cons_cons _ (List.nil_sublist _))) ?_
   refine Run.ret1 (by rw [hCf]; exact func81) results81 rfl (hR _ _ _ ?_)
   exact ⟨_, _, rfl, rfl⟩
 ·skip
  refine Run.regionQ (D := [some 28, some 29, some 30, some 31, some 32, some 33, some 34, some 35, some 36, some 37]) [true, true, true, true, true, true, true, true, true, true] (bl 10 1023) (by kernel_rfl) (by kernel_rfl) (by kernel_rfl) (by kernel_rfl) rfl (fun Z hZ => ?_)
  iterate 3 refine q1 dc rfl rfl ?_
  refine QD.yv dc rfl (Yv.load 2 T rfl rfl rfl rfl) ?_
  iterate 3 refine q1 dc rfl rfl ?_
  refine QD.yv dc rfl (Yv.load 2 T rfl rfl rfl rfl) ?_
  refine q1 dc rfl rfl ?_
  refine qf (Ev.geq rfl rfl) (by omega) dc rfl ?_
  refine QD.nil (hZ _ ?_)
  clear hZ Z
  repeat (first | refine Run.seq ?_ | refine Run.skip ?_ | refine Run.cond_f rfl ?_)
  refine Run.regionO (D := [some 54, some 4]) [true, true] rfl rfl rfl (fun Z hZ => ?_)
  iterate 2 refine q1 dc rfl rfl ?_
  refine QD.nil (hZ _ ?_)
  clear hZ Z
  skip
  refine Run.dropL (L' := [(x, o)]) (List.Sublist.cons _ (List.Sublist.cons_cons _ (List.nil_sublist _))) ?_
  refine Run.ret1 (by rw [hCf]; exact func81) results81 rfl (hR _ _ _ ?_)
  exact ⟨_, _, rfl, rfl⟩
end Go.V
namespace Go.V
open Go.Proofs.Tryz
open Go.RowKit
set_option maxRecDepth 10000
attribute [local irreducible] Run Ops QD
theorem zz_KeysNil (I : Imm) : Pure prog 128 [.map none] I fun w J => w = .slice none 0 0 := by
 refine Spec.enter 57 [(0, _)] func128 rfl ntmps128 (by simp) rfl ?_
 intro C hCf hR hCI
 refine Run.seq ?_
 refine Run.regionO (D := [some 2]) [true] rfl rfl rfl (fun Z hZ => ?_)
 refine q1 dc rfl rfl ?_
 refine QD.nil (hZ _ ?_)
 clear hZ Z
 refine Run.seq ?_
 refine Run.regionO (D := [some 3]) [true] rfl rfl rfl (fun Z hZ => ?_)
 refine q1 dc rfl rfl ?_
 refine QD.nil (hZ _ ?_)
 clear hZ Z
 repeat refine Run.seq ?_
 refine Run.region ?_
 refine Ops.pure T rfl dc rfl ?_
 refine Ops.rangeNil T rfl dc rfl rfl fun r => ?_
 refine Ops.nil ?_
 refine Run.block ?_
 refine Run.loop ?_
 refine Run.seq ?_
 refine Run.region ?_
 refine Ops.nextNil 0 rfl dc rfl rfl ?_
 refine Ops.pure T rfl dc rfl ?_
 refine Ops.nil ?_
 repeat (first | refine Run.seq ?_ | refine Run.exit rfl ?_ | refine Run.cond_f rfl ?_)
 refine Run.regionO (D := [some 5]) [true] rfl rfl rfl (fun Z hZ => ?_)
 refine q1 dc rfl rfl ?_
 refine QD.nil (hZ _ ?_)
 clear hZ Z
 refine Run.block ?_
 refine Run.loop ?_
 repeat refine Run.seq ?_
 refine Run.regionO (D := [some 17, some 18, some 19, some 20]) [true, true, true, true] rfl rfl rfl (fun Z hZ => ?_)
 iterate 3 refine q1 dc rfl rfl ?_
 refine QD.e (Ev.lss rfl rfl) dc rfl ?_
 refine QD.nil (hZ _ ?_)
 clear hZ Z
 repeat (first | refine Run.seq ?_ | refine Run.exit rfl ?_ | refine Run.cond_f rfl ?_)
 refine Run.regionO (D := [some 56, some 2]) [true, true] rfl rfl rfl (fun Z hZ => ?_)
 iterate 2 refine q1 dc rfl rfl ?_
 refine QD.nil (hZ _ ?_)
 clear hZ Z
 skip
 refine Run.fin (Run.ret1 (by rw [hCf]; exact func128) results128 rfl (hR _ _ _ ?_))
 exact ⟨rfl, rfl⟩
theorem impl_pairsOfNil (I : Imm) : Pure prog 99 [.map none] I fun w J => w = .slice none 0 0 := by
 refine Spec.enter 25 [(0, _)] func99 rfl ntmps99 (by simp) rfl ?_
 intro C hCf hR hCI
 refine Run.seq ?_
 refine Run.regionO (D := [some 2]) [true] rfl rfl rfl (fun Z hZ => ?_)
 refine q1 dc rfl rfl ?_
 refine QD.nil (hZ _ ?_)
 clear hZ Z
 repeat refine Run.seq ?_
 refine Run.regionO (D := [some 5, some 6]) [true, true] rfl rfl rfl (fun Z hZ => ?_)
 refine q1 dc rfl rfl ?_
 refine QD.e (Ev.neqNil T rfl rfl rfl rfl rfl) dc rfl ?_
 refine QD.nil (hZ _ ?_)
 clear hZ Z
 repeat (first | refine Run.seq ?_ | refine Run.skip ?_ | refine Run.cond_f rfl ?_)
 refine Run.regionP (D := [some 8, some 9, some 10, some 11]) [true] 1 rfl rfl rfl (by simp only [List.drop_succ_cons, List.drop_zero]; rfl) (fun Z hZ => ?_)
 refine q1 dc rfl rfl ?_
 refine QD.nil (hZ _ ?_)
 clear hZ Z
 refine Ops.call ((zz_KeysNil I)) rfl dc call128 rfl ?_
 rintro _ J l rfl
 iterate 2 refine Ops.pure T rfl dc rfl ?_
 refine Ops.nil ?_
 refine Run.block ?_
 refine Run.loop ?_
 refine Run.seq ?_
 refine Run.regionO (D := [some 12]) [true] rfl rfl rfl (fun Z hZ => ?_)
 refine QD.e (Ev.lss rfl rfl) dc rfl ?_
 refine QD.nil (hZ _ ?_)
 clear hZ Z
 repeat (first | refine Run.seq ?_ | refine Run.exit rfl ?_ | refine Run.cond_f rfl ?_)
 refine Run.regionO (D := [some 24, some 2]) [true, true] rfl rfl rfl (fun Z hZ => ?_)
 iterate 2 refine q1 dc rfl rfl ?_
 refine QD.nil (hZ _ ?_)
 clear hZ Z
 skip
 refine Run.fin (Run.ret1 (by rw [hCf]; exact func99) results99 rfl (hR _ _ _ ?_))
 exact ⟨rfl, rfl⟩
theorem impl_descriptorsOfNil (I : Imm) : Pure prog 98 [.slice none 0 0] I fun w J => w = .slice none 0 0 := by
 refine Spec.enter 21 [(0, _)] func98 rfl ntmps98 (by simp) rfl ?_
 intro C hCf hR hCI
 refine Run.seq ?_
 refine Run.regionO (D := [some 2]) [true] rfl rfl rfl (fun Z hZ => ?_)
 refine q1 dc rfl rfl ?_
 refine QD.nil (hZ _ ?_)
 clear hZ Z
 repeat refine Run.seq ?_
 refine Run.regionO (D := [some 5, some 6]) [true, true] rfl rfl rfl (fun Z hZ => ?_)
 refine q1 dc rfl rfl ?_
 refine QD.e (Ev.neqNil T rfl rfl rfl rfl rfl) dc rfl ?_
 refine QD.nil (hZ _ ?_)
 clear hZ Z
 repeat (first | refine Run.seq ?_ | refine Run.skip ?_ | refine Run.cond_f rfl ?_)
 refine Run.regionO (D := [some 8, some 9, some 10]) [true, true, true] rfl rfl rfl (fun Z hZ => ?_)
 iterate 3 refine q1 dc rfl rfl ?_
 refine QD.nil (hZ _ ?_)
 clear hZ Z
 refine Run.block ?_
 refine Run.loop ?_
 refine Run.seq ?_
 refine Run.regionO (D := [some 11]) [true] rfl rfl rfl (fun Z hZ => ?_)
 refine QD.e (Ev.lss rfl rfl) dc rfl ?_
 refine QD.nil (hZ _ ?_)
 clear hZ Z
 repeat (first | refine Run.seq ?_ | refine Run.exit rfl ?_ | refine Run.cond_f rfl ?_)
 refine Run.regionO (D := [some 20, some 2]) [true, true] rfl rfl rfl (fun Z hZ => ?_)
 iterate 2 refine q1 dc rfl rfl ?_
 refine QD.nil (hZ _ ?_)
 clear hZ Z
 skip
 refine Run.fin (Run.ret1 (by rw [hCf]; exact func98) results98 rfl (hR _ _ _ ?_))
 exact ⟨rfl, rfl⟩
theorem impl_subjectOfNil (I : Imm) : Pure prog 100 [.pointer none] I fun w J => w = .slice none 0 0 := by
 refine Spec.enter 10 [(0, _)] func100 rfl ntmps100 (by simp) rfl ?_
 intro C hCf hR hCI
 refine Run.seq ?_
 refine Run.regionO (D := [some 2]) [true] rfl rfl rfl (fun Z hZ => ?_)
 refine q1 dc rfl rfl ?_
 refine QD.nil (hZ _ ?_)
 clear hZ Z
 repeat refine Run.seq ?_
 refine Run.regionO (D := [some 3, some 4]) [true, true] rfl rfl rfl (fun Z hZ => ?_)
 refine q1 dc rfl rfl ?_
 refine QD.e (Ev.eqlNil T rfl rfl rfl rfl rfl) dc rfl ?_
 refine QD.nil (hZ _ ?_)
 clear hZ Z
 repeat (first | refine Run.seq ?_ | refine Run.cond_t rfl ?_)
 refine Run.regionO (D := [some 2]) [true] rfl rfl rfl (fun Z hZ => ?_)
 refine q1 dc rfl rfl ?_
 refine QD.nil (hZ _ ?_)
 clear hZ Z
 skip
 refine Run.fin (Run.ret1 (by rw [hCf]; exact func100) results100 rfl (hR _ _ _ ?_))
 exact ⟨rfl, rfl⟩
def zDs : List Value := [str [], .int .i64 0, str [], str [], str [], .slice none 0 0, .slice none 0 0, .slice none 0 0, str []]
set_option maxHeartbeats 2000000 in
theorem impl_indexOfBare (I : Imm) (ver : Int) (media art : Bs) : Pure prog 60 [.agg [.int .i64 ver, str media, .slice none 0 0, .map none, .pointer none, str art].toArray] I fun w J => w = .agg ([.bool true, .int .i64 ver, str media] ++ zDs ++ [.slice none 0 0, .slice none 0 0, .slice none 0 0, str art]).toArray := by
 refine Spec.enter 19 [(0, _)] func60 rfl ntmps60 (by simp) rfl ?_
 intro C hCf hR hCI
 refine Run.seq ?_
 refine Run.region ?_
 refine Ops.box rfl dc rfl rfl (fun b1 => ?_)
 refine Ops.alloc rfl dc (T.zeroOk rfl) rfl (fun b2 => ?_)
 refine Ops.nil ?_
 refine Run.seq ?_
 refine Run.regionT (D := [some 3, some 4, some 5, some 6, some 7, some 8, some 9, some 10, some 11, some 12, some 13, some 14, some 15, some 16, some 17, some 18, none]) (fun _ => True) [true, true, true, true, true, true, true, true, true, true, true, true, true, true, true] (bl 17 32767) 2 (by kernel_rfl) (by kernel_rfl) (by kernel_rfl) rfl (fun Z hZ => ?_)
 refine q1 dc rfl rfl ?_
 refine QD.yv dc rfl (Yv.load 1 T rfl rfl rfl rfl) ?_
 refine q1 dc rfl rfl ?_
 refine QD.yv dc rfl (Yv.load 1 T rfl rfl rfl rfl) ?_
 refine q1 dc rfl rfl ?_
 refine QD.yv dc rfl (Yv.load 1 T rfl rfl rfl rfl) ?_
 refine QD.call (impl_descriptorsOfNil _) dc rfl call98 rfl ?_
 refine q1 dc rfl rfl ?_
 refine QD.yv dc rfl (Yv.load 1 T rfl rfl rfl rfl) ?_
 refine QD.call (impl_pairsOfNil _) dc rfl call99 rfl ?_
 refine q1 dc rfl rfl ?_
 refine QD.yv dc rfl (Yv.load 1 T rfl rfl rfl rfl) ?_
 refine QD.call (impl_subjectOfNil _) dc rfl call100 rfl ?_
 refine q1 dc rfl rfl ?_
 refine QD.yv dc rfl (Yv.load 1 T rfl rfl rfl rfl) ?_
 refine QD.nil (hZ _ ?_)
 clear hZ Z
 refine RAny.tk 15 (bl 17 65535) rfl (by kernel_rfl) dc (fun _ _ => trivial) (Yld.ev (Ev.buildS bd50 rfl rfl) rfl) ?_
 refine RAny.os 16 (bl 17 131071) rfl (by kernel_rfl) rfl (Eff.store 0 rfl rfl rfl rfl (T.sizeOk rfl) rfl (Nat.le_of_ble_eq_true rfl) rfl rfl ⟨fun _ _ => trivial, ?_⟩)
 refine RAny.done _ (by kernel_rfl) ?_
 skip
 refine Run.retC T 0 (by rw [hCf]; exact func60) results60 rfl rfl rfl rfl rfl rfl (hR _ _ _ ?_)
 exact ⟨rfl, rfl⟩
end Go.V
namespace Go.V
open Go.Proofs.Tryz
open Go.RowKit
set_option maxRecDepth 10000
attribute [local irreducible] Run Ops QD
theorem v1_takeMedia (f : Nat) (I : Imm) (cs : List Value) (v : JV) (hrel : (tJV (f + 1)).rel I cs v) (hk : v.kind = 34) (x off : Nat) (cells : List Value) (tt : TypeId) (ho : off + 1 ≤ cells.length) :
  Spec prog 300 [.agg cs.toArray, .pointer (some ⟨x, off, none⟩)] I [(x, blk cells tt)] fun w J M => w = .bool true ∧ M = [(x, blk (setAt cells off [str v.text]) tt)] := by
 have hrel0 := hrel
 obtain ⟨wk, wn, rfl, hwk, hwn⟩ := hrel
 obtain ⟨A3, z3, rfl⟩ := hwk.isSl
 obtain ⟨A4, z4, rfl⟩ := hwn.isSl
 refine Spec.enter 8 [(0, _), (1, _)] func300 rfl ntmps300 (by simp) rfl ?_
 intro C hCf hR hCI
 refine Run.seq ?_
 refine Run.region ?_
 refine Ops.box rfl dc rfl rfl (fun b2 => ?_)
 refine Ops.pure T rfl dc rfl ?_
 refine Ops.nil ?_
 refine Run.seq ?_
 refine Run.regionP (D := [some 5, some 6, some 7, some 4]) [true, true] 2 rfl rfl rfl (by simp only [List.drop_succ_cons, List.drop_zero]; rfl) (fun Z hZ => ?_)
 refine QD.yv dc rfl (Yv.loadN 0 T rfl rfl rfl rfl rfl rfl) ?_
 refine q1 dc rfl rfl ?_
 refine QD.nil (hZ _ ?_)
 clear hZ Z
 refine Ops.callP (N := [_]) ((Value_Str f I _ v hrel0 x off cells tt ho)) (.refl _) rfl dc call176 rfl ?_
 rintro _ J M l ⟨rfl, rfl, rfl⟩
 refine Ops.pure T rfl dc rfl ?_
 refine Ops.nil ?_
 skip
 refine Run.dropL (L' := [(x, _)]) (List.Sublist.cons _ (List.Sublist.refl _)) ?_
 refine Run.ret1 (by rw [hCf]; exact func300) results300 rfl (hR _ _ _ ?_)
 rw [hk]
 exact ⟨rfl, rfl⟩
def ixNames : List Bs := [[115, 99, 104, 101, 109, 97, 86, 101, 114, 115, 105, 111, 110], [109, 101, 100, 105, 97, 84, 121, 112, 101], [109, 97, 110, 105, 102, 101, 115, 116, 115], [97, 110, 110, 111, 116, 97, 116, 105, 111, 110, 115], [115, 117, 98, 106, 101, 99, 116], [97, 114, 116, 105, 102, 97, 99, 116, 84, 121, 112, 101]]
theorem ixField (I : Imm) (hU : UT I) (key : Bs) (v : Value) (hS : Sl tStr I v ixNames) (hk : key.length ≤ 137438953472) : Pure prog 175 [str key, v] I fun w J => w = .int .i64 (fieldR key ixNames) :=
 zz_Field I hU key ixNames v hS hk (by decide) (by decide)
set_option maxHeartbeats 2000000 in
theorem ix_take0 (f : Nat) (I : Imm) (hU : UT I) (cs : List Value) (v : JV) (hrel : (tJV (f + 1)).rel I cs v) (key : Bs) (hkl : key.length ≤ 137438953472) (b2 x : Nat) (a : Value) (r : List Value) (hr : r.length = 5) (hB : At I b2 0 [.pointer (some ⟨x, 0, none⟩)])
  (hf : fieldR key ixNames = 0) (hk : v.kind = 48) (hl : v.text.length ≤ 1099511627776) (z : Int) (hz : Lib.parseIntB 64 v.text = .ok z) :
  Spec prog 299 [str key, .agg cs.toArray, .pointer (some ⟨b2, 0, none⟩)] I [(x, blk (a :: r) 136)] fun w J M => w = .bool true ∧ M = [(x, blk (.int .i64 z :: r) 136)] := by
 have hrel0 := hrel
 obtain ⟨wk, wn, rfl, hwk, hwn⟩ := hrel
 obtain ⟨A3, z3, rfl⟩ := hwk.isSl
 obtain ⟨A4, z4, rfl⟩ := hwn.isSl
 refine Spec.enter 51 [(0, _), (1, _), (2, _)] func299 rfl ntmps299 (by simp) rfl ?_
 intro C hCf hR hCI
 refine Run.seq ?_
 refine Run.region ?_
 refine Ops.box rfl dc rfl rfl (fun b4 => ?_)
 refine Ops.pure T rfl dc rfl ?_
 refine Ops.nil ?_
 repeat refine Run.seq ?_
 refine Run.regionP (D := [some 6, some 7, some 8]) [true] 1 rfl rfl rfl (by simp only [List.drop_succ_cons, List.drop_zero]; rfl) (fun Z hZ => ?_)
 refine q1 dc rfl rfl ?_
 refine QD.nil (hZ _ ?_)
 clear hZ Z
 refine Ops.lit T rfl rfl rfl dc rfl dc dc rfl rfl rfl rfl rfl (fun bq => ?_)
 refine Ops.freezeAt 0 rfl rfl fun J1 l1 hJ1 => ?_
 have hS : Sl tStr J1 (.slice (some ⟨bq, 0, none⟩) 6 6) ixNames := Sl.ofBlock hJ1 (Cells.strs ixNames) rfl (by decide)
 have hB := hB.mono l1
 have hrel := (tJV (f + 1)).mono hrel0 l1
 refine Ops.call ((ixField J1 (hU.mono l1) key _ hS hkl)) rfl dc call175 rfl ?_
 rintro _ J2 l2 rfl
 refine Ops.nil ?_
 rw [hf]
 have hB := hB.mono l2
 have hrel := (tJV (f + 1)).mono hrel l2
 repeat (first | refine Run.seq ?_ | refine Run.block ?_)
 refine Run.regionO (D := [some 10, some 9]) [true, true] rfl rfl rfl (fun Z hZ => ?_)
 refine QD.e (Ev.eqlI rfl rfl) dc rfl ?_
 refine q1 dc rfl rfl ?_
 refine QD.nil (hZ _ ?_)
 clear hZ Z
 repeat (first | refine Run.seq ?_ | refine Run.cond_t rfl ?_)
 refine Run.regionT (D := [some 11, some 12, some 13, some 14, some 15, some 5]) (fun _ => True) [true, true, true, true] (bl 6 15) 2 (by kernel_rfl) (by kernel_rfl) (by kernel_rfl) rfl (fun Z hZ => ?_)
 refine QD.yv dc rfl (Yv.loadN 0 T rfl rfl rfl rfl rfl rfl) ?_
 refine QD.yv dc rfl (Yv.loadI T hB rfl rfl) ?_
 iterate 2 refine q1 dc rfl rfl ?_
 refine QD.nil (hZ _ ?_)
 clear hZ Z
 refine RAny.on 4 (bl 6 31) rfl (by kernel_rfl) rfl dc (Eff.callM (M := [_]) (N := [_]) (Value_Int f _ _ v hrel hk hl z hz x 0 _ _ (by simp)) (List.Perm.swap _ _ _) call233 rfl fun w J' M' l' hw => ⟨fun _ _ => trivial, ?_⟩)
 obtain ⟨rfl, rfl⟩ := hw
 refine RAny.tk 5 (bl 6 63) rfl (by kernel_rfl) dc (fun _ _ => trivial) (Yld.eval T rfl rfl) ?_
 refine RAny.done _ (by kernel_rfl) ?_
 skip
 refine Run.dropL (L' := [(x, _)]) (List.Sublist.cons_cons _ (List.nil_sublist _)) ?_
 refine Run.ret1 (by rw [hCf]; exact func299) results299 rfl (hR _ _ _ ?_)
 exact ⟨rfl, rfl⟩
set_option maxHeartbeats 2000000 in
theorem ix_take1 (f : Nat) (I : Imm) (hU : UT I) (cs : List Value) (v : JV) (hrel : (tJV (f + 1)).rel I cs v) (key : Bs) (hkl : key.length ≤ 137438953472) (b2 x : Nat) (a b : Value) (r : List Value) (hr : r.length = 4) (hB : At I b2 0 [.pointer (some ⟨x, 0, none⟩)])
  (hf : fieldR key ixNames = 1) (hk : v.kind = 34) :
  Spec prog 299 [str key, .agg cs.toArray, .pointer (some ⟨b2, 0, none⟩)] I [(x, blk (a :: b :: r) 136)] fun w J M => w = .bool true ∧ M = [(x, blk (a :: str v.text :: r) 136)] := by
 have hrel0 := hrel
 obtain ⟨wk, wn, rfl, hwk, hwn⟩ := hrel
 obtain ⟨A3, z3, rfl⟩ := hwk.isSl
 obtain ⟨A4, z4, rfl⟩ := hwn.isSl
 refine Spec.enter 51 [(0, _), (1, _), (2, _)] func299 rfl ntmps299 (by simp) rfl ?_
 intro C hCf hR hCI
 refine Run.seq ?_
 refine Run.region ?_
 refine Ops.box rfl dc rfl rfl (fun b4 => ?_)
 refine Ops.pure T rfl dc rfl ?_
 refine Ops.nil ?_
 repeat refine Run.seq ?_
 refine Run.regionP (D := [some 6, some 7, some 8]) [true] 1 rfl rfl rfl (by simp only [List.drop_succ_cons, List.drop_zero]; rfl) (fun Z hZ => ?_)
 refine q1 dc rfl rfl ?_
 refine QD.nil (hZ _ ?_)
 clear hZ Z
 refine Ops.lit T rfl rfl rfl dc rfl dc dc rfl rfl rfl rfl rfl (fun bq => ?_)
 refine Ops.freezeAt 0 rfl rfl fun J1 l1 hJ1 => ?_
 have hS : Sl tStr J1 (.slice (some ⟨bq, 0, none⟩) 6 6) ixNames := Sl.ofBlock hJ1 (Cells.strs ixNames) rfl (by decide)
 have hB := hB.mono l1
 have hrel := (tJV (f + 1)).mono hrel0 l1
 refine Ops.call ((ixField J1 (hU.mono l1) key _ hS hkl)) rfl dc call175 rfl ?_
 rintro _ J2 l2 rfl
 refine Ops.nil ?_
 rw [hf]
 have hB := hB.mono l2
 have hrel := (tJV (f + 1)).mono hrel l2
 repeat (first | refine Run.seq ?_ | refine Run.block ?_)
 refine Run.regionO (D := [some 10, some 9]) [true, true] rfl rfl rfl (fun Z hZ => ?_)
 refine QD.e (Ev.eqlI rfl rfl) dc rfl ?_
 refine q1 dc rfl rfl ?_
 refine QD.nil (hZ _ ?_)
 clear hZ Z
 repeat (first | refine Run.seq ?_ | refine Run.cond_f rfl ?_)
 refine Run.regionO (D := [some 17, some 16]) [true, true] rfl rfl rfl (fun Z hZ => ?_)
 refine QD.e (Ev.eqlI rfl rfl) dc rfl ?_
 refine q1 dc rfl rfl ?_
 refine QD.nil (hZ _ ?_)
 clear hZ Z
 repeat (first | refine Run.seq ?_ | refine Run.cond_t rfl ?_)
 refine Run.regionT (D := [some 18, some 19, some 20, some 21, some 22, some 5]) (fun _ => True) [true, true, true, true] (bl 6 15) 2 (by kernel_rfl) (by kernel_rfl) (by kernel_rfl) rfl (fun Z hZ => ?_)
 refine QD.yv dc rfl (Yv.loadN 0 T rfl rfl rfl rfl rfl rfl) ?_
 refine QD.yv dc rfl (Yv.loadI T hB rfl rfl) ?_
 iterate 2 refine q1 dc rfl rfl ?_
 refine QD.nil (hZ _ ?_)
 clear hZ Z
 refine RAny.on 4 (bl 6 31) rfl (by kernel_rfl) rfl dc (Eff.callM (M := [_]) (N := [_]) (v1_takeMedia f _ _ v hrel hk x 1 _ _ (by simp)) (List.Perm.swap _ _ _) call300 rfl fun w J' M' l' hw => ⟨fun _ _ => trivial, ?_⟩)
 obtain ⟨rfl, rfl⟩ := hw
 refine RAny.tk 5 (bl 6 63) rfl (by kernel_rfl) dc (fun _ _ => trivial) (Yld.eval T rfl rfl) ?_
 refine RAny.done _ (by kernel_rfl) ?_
 skip
 refine Run.dropL (L' := [(x, _)]) (List.Sublist.cons_cons _ (List.nil_sublist _)) ?_
 refine Run.ret1 (by rw [hCf]; exact func299) results299 rfl (hR _ _ _ ?_)
 exact ⟨rfl, rfl⟩
def zIx : List Value := [.int .i64 0, str [], .slice none 0 0, .map none, .pointer none, str []]
def awT : Bs := [123, 34, 115, 99, 104, 101, 109, 97, 86, 101, 114, 115, 105, 111, 110, 34, 58, 50, 44, 34, 109, 101, 100, 105, 97, 84, 121, 112, 101, 34, 58, 34, 120, 34, 125]
def awV : JV := .mk 123 false [] [.mk 48 false [50] [] [], .mk 34 true [120] [] []] [[115, 99, 104, 101, 109, 97, 86, 101, 114, 115, 105, 111, 110], [109, 101, 100, 105, 97, 84, 121, 112, 101]]
theorem aw_read : rdV 10000 awT = some (awV, []) := by kernel_rfl
theorem aw_int : Lib.parseIntB 64 [50] = .ok 2 := by kernel_rfl
def awIx : List Value := [.int .i64 2, str [120], .slice none 0 0, .map none, .pointer none, str []]
theorem ix_takeAw (I : Imm) (hU : UT I) (cs : List Value) (hrel : (tJV (10000 + 1)).rel I cs awV) (x : Nat) :
  Spec prog 295 [.pointer (some ⟨x, 0, none⟩), .agg cs.toArray] I [(x, blk zIx 136)] fun w J M => w = .bool true ∧ M = [(x, blk awIx 136)] := by
 have hrel0 := hrel
 obtain ⟨wk, wn, rfl, hwk, hwn⟩ := hrel
 obtain ⟨A3, z3, rfl⟩ := hwk.isSl
 obtain ⟨A4, z4, rfl⟩ := hwn.isSl
 refine Spec.enter 8 [(0, _), (1, _)] func295 rfl ntmps295 (by simp) rfl ?_
 intro C hCf hR hCI
 refine Run.seq ?_
 refine Run.region ?_
 refine Ops.box rfl dc rfl rfl (fun b2 => ?_)
 refine Ops.box rfl dc rfl rfl (fun b3 => ?_)
 refine Ops.pure T rfl dc rfl ?_
 refine Ops.nil ?_
 refine Run.freezeAt 1 rfl rfl fun J1 l1 hJ1 => ?_
 have hB : At J1 b2 0 [.pointer (some ⟨x, 0, none⟩)] := At.block hJ1
 refine Run.seq ?_
 refine Run.regionP (D := [some 5, some 6, some 7, some 4]) [true, true] 2 rfl rfl rfl (by simp only [List.drop_succ_cons, List.drop_zero]; rfl) (fun Z hZ => ?_)
 refine QD.yv dc rfl (Yv.loadN 0 T rfl rfl rfl rfl rfl rfl) ?_
 refine q1 dc rfl rfl ?_
 refine QD.nil (hZ _ ?_)
 clear hZ Z
 have hM := Value_Members 10000 J1 _ awV ((tJV (10000 + 1)).mono hrel0 l1) rfl rfl (by decide) 299 [.pointer (some ⟨b2, 0, none⟩)] (fun i J M => M = [(x, blk (if i = 0 then zIx else if i = 1 then [.int .i64 2, str [], .slice none 0 0, .map none, .pointer none, str []] else awIx) 136)]) _ rfl call299 (fun _ _ _ _ h _ => h)
  (fun i key y J M kc hle hkey hkid hr hSt => by
   subst hSt
   match i, hkey, hkid with
   | 0, hkey, hkid =>
    obtain rfl : [115, 99, 104, 101, 109, 97, 86, 101, 114, 115, 105, 111, 110] = key := Option.some.inj hkey
    obtain rfl : JV.mk 48 false [50] [] [] = y := Option.some.inj hkid
    exact ix_take0 9999 J (hU.mono (l1.trans hle)) kc _ hr _ (by decide) b2 x _ _ rfl (hB.mono hle) (by decide) rfl (by decide) 2 aw_int
   | 1, hkey, hkid =>
    obtain rfl : [109, 101, 100, 105, 97, 84, 121, 112, 101] = key := Option.some.inj hkey
    obtain rfl : JV.mk 34 true [120] [] [] = y := Option.some.inj hkid
    exact ix_take1 9999 J (hU.mono (l1.trans hle)) kc _ hr _ (by decide) b2 x _ _ _ rfl (hB.mono hle) (by decide) rfl
   | n + 2, hkey, hkid => exact absurd hkey (by simp [awV, JV.keys]))
 refine Ops.callP (N := [_]) (hM) (.refl _) rfl dc call173 rfl ?_
 rintro w J2 M2 l2 ⟨rfl, rfl⟩
 refine Ops.pure T rfl dc rfl ?_
 refine Ops.nil ?_
 skip
 refine Run.dropL (L' := [(x, _)]) (List.sublist_cons_self _ _) ?_
 refine Run.ret1 (by rw [hCf]; exact func295) results295 rfl (hR _ _ _ ?_)
 exact ⟨rfl, rfl⟩
theorem meth_ixTake : ∀ u w, (method (prog.types.size + Made.depth) 128 u "ZzTake").run prog w = .ok (295, u) w := by intro u w; kernel_rfl
theorem v1_ParseIndexAw (I : Imm) (hU : UT I) (r : Nat) (pr : Int) (a0 : Addr) (hE : At I 2 0 [eofV a0]) :
  Spec prog 59 [.iface 90 (.pointer (some ⟨r, 0, none⟩))] I [(r, rdO awT 0 pr)] fun w J M => ∃ x, w = .tuple #[.pointer (some ⟨x, 0, none⟩), .nilIface] ∧ M = [(x, blk awIx 136)] := by
 refine Spec.enter 13 [(0, _)] func59 rfl ntmps59 (by simp) rfl ?_
 intro C hCf hR hCI
 refine Run.seq ?_
 refine Run.regionO (D := [some 2, some 3]) [true, true] rfl rfl rfl (fun Z hZ => ?_)
 iterate 2 refine q1 dc rfl rfl ?_
 refine QD.nil (hZ _ ?_)
 clear hZ Z
 refine Run.seq ?_
 refine Run.region ?_
 refine Ops.buildL bd136 rfl dc rfl rfl ?_
 refine Ops.alloc rfl dc (T.zeroOk rfl) rfl (fun x => ?_)
 refine Ops.store 0 rfl rfl rfl rfl rfl (T.sizeOk rfl) rfl (Nat.le_of_ble_eq_true rfl) rfl rfl ?_
 refine Ops.nil ?_
 repeat refine Run.seq ?_
 refine Run.regionP (D := [some 7, some 8, some 9, some 5]) [true, true] 2 rfl rfl rfl (by simp only [List.drop_succ_cons, List.drop_zero]; rfl) (fun Z hZ => ?_)
 iterate 2 refine q1 dc rfl rfl ?_
 refine QD.nil (hZ _ ?_)
 clear hZ Z
 refine Ops.callP (M := [(r, rdO awT 0 pr), (x, _)]) (N := []) (zz_Decode (R := fun J M => M = [(x, blk awIx 136)]) I hU awT dc r x pr a0 hE _ 128 295 awV [] aw_read meth_ixTake call295 (fun J cs hle hrel => ix_takeAw J (hU.mono hle) cs hrel x)) (List.Perm.swap _ _ _) rfl dc call81 rfl ?_
 rintro y J2 M2 l2 ⟨rfl, rfl⟩
 refine Ops.pure T rfl dc rfl ?_
 refine Ops.nil ?_
 refine Run.seq ?_
 refine Run.regionO (D := [some 10, some 11]) [true, true] rfl rfl rfl (fun Z hZ => ?_)
 refine q1 dc rfl rfl ?_
 refine QD.e (Ev.neqNil T rfl rfl rfl rfl rfl) dc rfl ?_
 refine QD.nil (hZ _ ?_)
 clear hZ Z
 repeat (first | refine Run.seq ?_ | refine Run.skip ?_ | refine Run.cond_f rfl ?_)
 refine Run.regionO (D := [some 2, some 3]) [true, true] rfl rfl rfl (fun Z hZ => ?_)
 iterate 2 refine q1 dc rfl rfl ?_
 refine QD.nil (hZ _ ?_)
 clear hZ Z
 skip
 refine Run.ret2 (by rw [hCf]; exact func59) results59 rfl rfl (hR _ _ _ ?_)
 exact ⟨x, rfl, rfl⟩
theorem impl_ManifestParseAw (I : Imm) (hU : UT I) (a0 : Addr) (hE : At I 2 0 [eofV a0]) :
  Pure prog 23 [str awT, .bool true] I fun w J => w = .tuple #[.agg ([.bool true, .int .i64 2, str [120]] ++ zDs ++ [.slice none 0 0, .slice none 0 0, .slice none 0 0, str []]).toArray, .bool true] := by
 refine Spec.enter 39 [(0, _), (1, _)] func23 rfl ntmps23 (by simp) rfl ?_
 intro C hCf hR hCI
 refine Run.seq ?_
 refine Run.region ?_
 refine Ops.alloc rfl dc (T.zeroOk rfl) rfl (fun b4 => ?_)
 refine Ops.pure T rfl dc rfl ?_
 refine Ops.nil ?_
 repeat refine Run.seq ?_
 refine Run.regionO (D := [some 10]) [true] rfl rfl rfl (fun Z hZ => ?_)
 refine q1 dc rfl rfl ?_
 refine QD.nil (hZ _ ?_)
 clear hZ Z
 repeat (first | refine Run.seq ?_ | refine Run.cond_t rfl ?_)
 refine Run.regionP (D := [some 12, some 13, some 14, some 15, some 11, some 16, some 17, some 6, some 7]) [true] 1 rfl rfl rfl (by simp only [List.drop_succ_cons, List.drop_zero]; rfl) (fun Z hZ => ?_)
 refine q1 dc rfl rfl ?_
 refine QD.nil (hZ _ ?_)
 clear hZ Z
 refine Ops.callN ((strings_NewReader I awT)) rfl dc call40 rfl ?_
 rintro _ J1 M1 l1 ⟨r, rfl, rfl⟩
 refine Ops.pure T rfl dc rfl ?_
 refine Ops.callP (N := [(b4, _)]) (v1_ParseIndexAw J1 (hU.mono l1) r _ a0 (hE.mono l1)) (perm_of_count fun x => by simp only [List.count_append, List.count_cons, List.count_nil, Nat.add_zero, Nat.zero_add] <;> ac_rfl) rfl dc call59 rfl ?_
 rintro y J2 M2 l2 ⟨x, rfl, rfl⟩
 iterate 5 refine Ops.pure T rfl dc rfl ?_
 refine Ops.nil ?_
 repeat refine Run.seq ?_
 refine Run.regionO (D := [some 18, some 19]) [true, true] rfl rfl rfl (fun Z hZ => ?_)
 refine q1 dc rfl rfl ?_
 refine QD.e (Ev.neqNil T rfl rfl rfl rfl rfl) dc rfl ?_
 refine QD.nil (hZ _ ?_)
 clear hZ Z
 repeat (first | refine Run.seq ?_ | refine Run.skip ?_ | refine Run.cond_f rfl ?_)
 refine Run.regionP (D := [some 21, some 22, some 23, some 24, none, some 5]) [true, true, true] 3 rfl rfl rfl (by simp only [List.drop_succ_cons, List.drop_zero]; rfl) (fun Z hZ => ?_)
 iterate 2 refine q1 dc rfl rfl ?_
 refine QD.yv dc rfl (Yv.loadN 1 T rfl rfl rfl rfl rfl rfl) ?_
 refine QD.nil (hZ _ ?_)
 clear hZ Z
 refine Ops.call ((impl_indexOfBare J2 2 [120] [])) rfl dc call60 rfl ?_
 rintro _ J3 l3 rfl
 refine Ops.store 0 rfl rfl rfl rfl rfl (T.sizeOk rfl) rfl (Nat.le_of_ble_eq_true rfl) rfl rfl ?_
 refine Ops.pure T rfl dc rfl ?_
 refine Ops.nil ?_
 skip
 refine Run.retCT T 0 (by rw [hCf]; exact func23) results23 rfl rfl rfl rfl rfl rfl rfl (hR _ _ _ ?_)
 exact ⟨rfl, rfl⟩
theorem manifestAwake (I : Imm) (hU : UT I) (a0 : Addr) (hE : At I 2 0 [eofV a0]) : Pure prog 20 [] I fun w J => w = .bool true := by
 refine Spec.enter 18 [] func20 rfl ntmps20 (by simp) rfl ?_
 intro C hCf hR hCI
 refine Run.seq ?_
 refine Run.regionO (D := [some 0]) [true] rfl rfl rfl (fun Z hZ => ?_)
 refine q1 dc rfl rfl ?_
 refine QD.nil (hZ _ ?_)
 clear hZ Z
 refine Run.seq ?_
 refine Run.region ?_
 refine Ops.call ((impl_ManifestParseAw I hU a0 hE)) rfl dc call23 rfl ?_
 rintro _ J1 l1 rfl
 iterate 3 refine Ops.pure T rfl dc rfl ?_
 refine Ops.alloc rfl dc (T.zeroOk rfl) rfl (fun b1 => ?_)
 refine Ops.store 0 rfl rfl rfl rfl rfl (T.sizeOk rfl) rfl (Nat.le_of_ble_eq_true rfl) rfl rfl ?_
 refine Ops.pure T rfl dc rfl ?_
 refine Ops.nil ?_
 refine Run.seq ?_
 refine Run.regionO (D := [some 7, some 8, some 9, some 10, some 11, some 12, some 13, some 14, some 15, some 16, some 17, some 0]) [true, true, true, true, true, true, true, true, true, true, true, true] rfl rfl rfl (fun Z hZ => ?_)
 iterate 3 refine q1 dc rfl rfl ?_
 refine QD.yv dc rfl (Yv.load 0 T rfl rfl rfl rfl) ?_
 refine QD.e (Ev.eqlI rfl rfl) dc rfl ?_
 iterate 3 refine q1 dc rfl rfl ?_
 refine QD.yv dc rfl (Yv.load 0 T rfl rfl rfl rfl) ?_
 refine QD.e (Ev.eqlS rfl rfl) dc rfl ?_
 iterate 2 refine q1 dc rfl rfl ?_
 refine QD.nil (hZ _ ?_)
 clear hZ Z
 skip
 refine Run.fin (Run.ret1 (by rw [hCf]; exact func20) results20 rfl (hR _ _ _ ?_))
 exact ⟨rfl, rfl⟩
end Go.V
namespace Go.V
open Go.Proofs.Tryz
open Go.RowKit
set_option maxRecDepth 10000
attribute [local irreducible] Run Ops QD
def lbK (s : Bs) : Nat → Nat
 | 0 => 0
 | k + 1 => lastB s k
theorem lastB_hit {s : Bs} {n : Nat} (h : s.getD n 0 = 125) : lastB s n = n := by
 cases n with
 | zero => unfold lastB; split <;> rfl
 | succ n => unfold lastB; rw [if_pos h]
theorem lastB_miss {s : Bs} {n : Nat} (h : s.getD n 0 ≠ 125) : lastB s n = lbK s n := by
 cases n with
 | zero => unfold lastB; split <;> rfl
 | succ n => unfold lastB; rw [if_neg h]; rfl
theorem laws_lastBrace (I : Imm) (s : Bs) (hs : s.length ≤ 34359738368) : Pure prog 22 [str s] I fun w J => w = .int .i64 ((lastB s (s.length - 1) : Nat) : Int) := by
 refine Spec.enter 16 [(0, _)] func22 rfl ntmps22 (by simp) rfl ?_
 intro C hCf hR hCI
 refine Run.seq ?_
 refine Run.regionO (D := [some 2]) [true] rfl rfl rfl (fun Z hZ => ?_)
 refine q1 dc rfl rfl ?_
 refine QD.nil (hZ _ ?_)
 clear hZ Z
 repeat refine Run.seq ?_
 refine Run.regionO (D := [some 4, some 5, some 6, some 3]) [true, true, true, true] rfl rfl rfl (fun Z hZ => ?_)
 refine q1 dc rfl rfl ?_
 refine QD.e (Ev.lenS T rfl rfl) dc rfl ?_
 refine QD.e (Ev.subK (r := (s.length : Int) - 1) rfl rfl (wI (by omega) (by omega))) dc rfl ?_
 refine q1 dc rfl rfl ?_
 refine QD.nil (hZ _ ?_)
 clear hZ Z
 refine Run.block ?_
 refine Run.keep [0, 2, 3] [_, _, _] rfl ?_
 refine Run.rounds (fun m env L J => ∃ (k : Nat) (i : Int), m = k ∧ i = (k : Int) - 1 ∧ k ≤ s.length ∧ lastB s (s.length - 1) = lbK s k ∧ env = [(0, str s), (2, .int .i64 0), (3, .int .i64 i)] ∧ L = [] ∧ I = J) s.length ⟨s.length, _, rfl, rfl, Nat.le_refl _, ?_, rfl, rfl, rfl⟩ ?_
 ·cases hl : s.length with
  | zero => rw [List.eq_nil_of_length_eq_zero hl]; rfl
  | succ n => rfl
 rintro m env L J ⟨k, i, rfl, hi, hk, hb, rfl, rfl, rfl⟩ ih
 repeat refine Run.seq ?_
 cases m with
 | zero =>
  obtain rfl : i = -1 := by omega
  refine Run.regionO (D := [some 7, some 8]) [true, true] rfl rfl rfl (fun Z hZ => ?_)
  refine q1 dc rfl rfl ?_
  refine qf (Ev.geq rfl rfl) (by omega) dc rfl ?_
  refine QD.nil (hZ _ ?_)
  clear hZ Z
  repeat (first | refine Run.seq ?_ | refine Run.exit rfl ?_ | refine Run.cond_f rfl ?_)
  refine Run.regionO (D := [some 2]) [true] rfl rfl rfl (fun Z hZ => ?_)
  refine q1 dc rfl rfl ?_
  refine QD.nil (hZ _ ?_)
  clear hZ Z
  skip
  refine Run.fin (Run.ret1 (by rw [hCf]; exact func22) results22 rfl (hR _ _ _ ?_))
  exact ⟨rfl, by rw [hb]; rfl⟩
 | succ n =>
  obtain rfl : i = (n : Int) := by omega
  obtain ⟨ch, hch⟩ : ∃ ch : Nat, ch = (s.getD n 0).toNat := ⟨_, rfl⟩
  refine Run.regionO (D := [some 7, some 8]) [true, true] rfl rfl rfl (fun Z hZ => ?_)
  refine q1 dc rfl rfl ?_
  refine qt (Ev.geq rfl rfl) (by omega) dc rfl ?_
  refine QD.nil (hZ _ ?_)
  clear hZ Z
  repeat (first | refine Run.seq ?_ | refine Run.skip ?_ | refine Run.block ?_ | refine Run.cond_t rfl ?_)
  by_cases h : s.getD n 0 = 125
  ·rw [h] at hch
   refine Run.regionO (D := [some 11, some 12, some 13, some 14]) [true, true, true, true] rfl rfl rfl (fun Z hZ => ?_)
   iterate 2 refine q1 dc rfl rfl ?_
   refine QD.e ((Ev.indexT (s := s) T rfl rfl rfl (by omega) (by omega)).as (show _ = Value.int .u8 125 from by show Value.int .u8 (((s.getD _ 0).toNat : Nat) : Int) = _; rw [Int.toNat_natCast, h]; rfl)) dc rfl ?_
   refine QD.e ((Ev.eqlI rfl rfl).as (show _ = Value.bool true from rfl)) dc rfl ?_
   refine QD.nil (hZ _ ?_)
   clear hZ Z
   repeat (first | refine Run.seq ?_ | refine Run.cond_t rfl ?_)
   refine Run.regionO (D := [some 15, some 2]) [true, true] rfl rfl rfl (fun Z hZ => ?_)
   iterate 2 refine q1 dc rfl rfl ?_
   refine QD.nil (hZ _ ?_)
   clear hZ Z
   skip
   refine Run.fin (Run.ret1 (by rw [hCf]; exact func22) results22 rfl (hR _ _ _ ?_))
   exact ⟨rfl, by rw [hb]; show Value.int .i64 ((n : Nat) : Int) = .int .i64 ((lastB s n : Nat) : Int); rw [lastB_hit h]⟩
  ·have hne : ch ≠ 125 := fun hh => h (UInt8.toNat_inj.1 (by rw [← hch, hh]; rfl))
   refine Run.regionO (D := [some 11, some 12, some 13, some 14]) [true, true, true, true] rfl rfl rfl (fun Z hZ => ?_)
   iterate 2 refine q1 dc rfl rfl ?_
   refine QD.e ((Ev.indexT (s := s) T rfl rfl rfl (by omega) (by omega)).as (show _ = Value.int .u8 ((ch : Nat) : Int) from by show Value.int .u8 (((s.getD _ 0).toNat : Nat) : Int) = _; rw [Int.toNat_natCast, ← hch])) dc rfl ?_
   refine qf (Ev.eqlI rfl rfl) (by omega) dc rfl ?_
   refine QD.nil (hZ _ ?_)
   clear hZ Z
   repeat (first | refine Run.skip ?_ | refine Run.inBlock ?_ | refine Run.cond_f rfl ?_)
   refine Run.regionO (D := [some 9, some 10, some 3]) [true, true, true] rfl rfl rfl (fun Z hZ => ?_)
   refine q1 dc rfl rfl ?_
   refine QD.e (Ev.subK (r := (n : Int) - 1) rfl rfl (wI (by omega) (by omega))) dc rfl ?_
   refine q1 dc rfl rfl ?_
   refine QD.nil (hZ _ ?_)
   clear hZ Z
   skip
   refine Run.keep [0, 2, 3] [_, _, _] rfl ?_
   exact ih n _ _ _ (by omega) ⟨n, _, rfl, rfl, by omega, by rw [hb]; exact lastB_miss h, rfl, rfl, rfl⟩
theorem v1_ParseIndexNo (I : Imm) (hU : UT I) (s : Bs) (hs : s.length ≤ 34359738368) (hv : rdV 10000 s = none) (r : Nat) (pr : Int) (a0 : Addr) (hE : At I 2 0 [eofV a0]) :
  Spec prog 59 [.iface 90 (.pointer (some ⟨r, 0, none⟩))] I [(r, rdO s 0 pr)] fun w J M => ∃ t p, w = .tuple #[.pointer none, .iface t p] ∧ M = [] := by
 refine Spec.enter 13 [(0, _)] func59 rfl ntmps59 (by simp) rfl ?_
 intro C hCf hR hCI
 refine Run.seq ?_
 refine Run.regionO (D := [some 2, some 3]) [true, true] rfl rfl rfl (fun Z hZ => ?_)
 iterate 2 refine q1 dc rfl rfl ?_
 refine QD.nil (hZ _ ?_)
 clear hZ Z
 refine Run.seq ?_
 refine Run.region ?_
 refine Ops.buildL bd136 rfl dc rfl rfl ?_
 refine Ops.alloc rfl dc (T.zeroOk rfl) rfl (fun x => ?_)
 refine Ops.store 0 rfl rfl rfl rfl rfl (T.sizeOk rfl) rfl (Nat.le_of_ble_eq_true rfl) rfl rfl ?_
 refine Ops.nil ?_
 repeat refine Run.seq ?_
 refine Run.regionP (D := [some 7, some 8, some 9, some 5]) [true, true] 2 rfl rfl rfl (by simp only [List.drop_succ_cons, List.drop_zero]; rfl) (fun Z hZ => ?_)
 iterate 2 refine q1 dc rfl rfl ?_
 refine QD.nil (hZ _ ?_)
 clear hZ Z
 refine Ops.callP (M := [(r, rdO s 0 pr), (x, _)]) (N := []) (zz_DecodeNo I hU s (by omega) r x pr a0 hE _ 128 hv) (List.Perm.swap _ _ _) rfl dc call81 rfl ?_
 rintro y J2 M2 l2 ⟨t', p', rfl, rfl⟩
 refine Ops.pure T rfl dc rfl ?_
 refine Ops.nil ?_
 refine Run.seq ?_
 refine Run.regionO (D := [some 10, some 11]) [true, true] rfl rfl rfl (fun Z hZ => ?_)
 refine q1 dc rfl rfl ?_
 refine QD.e (Ev.neqNil T rfl rfl rfl rfl rfl) dc rfl ?_
 refine QD.nil (hZ _ ?_)
 clear hZ Z
 repeat (first | refine Run.seq ?_ | refine Run.cond_t rfl ?_)
 refine Run.regionO (D := [some 12, some 2, some 3]) [true, true, true] rfl rfl rfl (fun Z hZ => ?_)
 iterate 3 refine q1 dc rfl rfl ?_
 refine QD.nil (hZ _ ?_)
 clear hZ Z
 skip
 refine Run.dropL (L' := []) (List.nil_sublist _) ?_
 refine Run.ret2 (by rw [hCf]; exact func59) results59 rfl rfl (hR _ _ _ ?_)
 exact ⟨t', p', rfl, rfl⟩
theorem v1_ParseManifestNo (I : Imm) (hU : UT I) (s : Bs) (hs : s.length ≤ 34359738368) (hv : rdV 10000 s = none) (r : Nat) (pr : Int) (a0 : Addr) (hE : At I 2 0 [eofV a0]) :
  Spec prog 61 [.iface 90 (.pointer (some ⟨r, 0, none⟩))] I [(r, rdO s 0 pr)] fun w J M => ∃ t p, w = .tuple #[.pointer none, .iface t p] ∧ M = [] := by
 refine Spec.enter 13 [(0, _)] func61 rfl ntmps61 (by simp) rfl ?_
 intro C hCf hR hCI
 refine Run.seq ?_
 refine Run.regionO (D := [some 2, some 3]) [true, true] rfl rfl rfl (fun Z hZ => ?_)
 iterate 2 refine q1 dc rfl rfl ?_
 refine QD.nil (hZ _ ?_)
 clear hZ Z
 refine Run.seq ?_
 refine Run.region ?_
 refine Ops.buildL bd146 rfl dc rfl rfl ?_
 refine Ops.alloc rfl dc (T.zeroOk rfl) rfl (fun x => ?_)
 refine Ops.store 0 rfl rfl rfl rfl rfl (T.sizeOk rfl) rfl (Nat.le_of_ble_eq_true rfl) rfl rfl ?_
 refine Ops.nil ?_
 repeat refine Run.seq ?_
 refine Run.regionP (D := [some 7, some 8, some 9, some 5]) [true, true] 2 rfl rfl rfl (by simp only [List.drop_succ_cons, List.drop_zero]; rfl) (fun Z hZ => ?_)
 iterate 2 refine q1 dc rfl rfl ?_
 refine QD.nil (hZ _ ?_)
 clear hZ Z
 refine Ops.callP (M := [(r, rdO s 0 pr), (x, _)]) (N := []) (zz_DecodeNo I hU s (by omega) r x pr a0 hE _ 137 hv) (List.Perm.swap _ _ _) rfl dc call81 rfl ?_
 rintro y J2 M2 l2 ⟨t', p', rfl, rfl⟩
 refine Ops.pure T rfl dc rfl ?_
 refine Ops.nil ?_
 refine Run.seq ?_
 refine Run.regionO (D := [some 10, some 11]) [true, true] rfl rfl rfl (fun Z hZ => ?_)
 refine q1 dc rfl rfl ?_
 refine QD.e (Ev.neqNil T rfl rfl rfl rfl rfl) dc rfl ?_
 refine QD.nil (hZ _ ?_)
 clear hZ Z
 repeat (first | refine Run.seq ?_ | refine Run.cond_t rfl ?_)
 refine Run.regionO (D := [some 12, some 2, some 3]) [true, true, true] rfl rfl rfl (fun Z hZ => ?_)
 iterate 3 refine q1 dc rfl rfl ?_
 refine QD.nil (hZ _ ?_)
 clear hZ Z
 skip
 refine Run.dropL (L' := []) (List.nil_sublist _) ?_
 refine Run.ret2 (by rw [hCf]; exact func61) results61 rfl rfl (hR _ _ _ ?_)
 exact ⟨t', p', rfl, rfl⟩
theorem impl_ManifestParseNo (I : Imm) (hU : UT I) (s : Bs) (hs : s.length ≤ 34359738368) (hv : rdV 10000 s = none) (b : Bool) (a0 : Addr) (hE : At I 2 0 [eofV a0]) :
  Pure prog 23 [str s, .bool b] I fun w J => w = .tuple #[.agg ([.bool false, .int .i64 0, str []] ++ zDs ++ [.slice none 0 0, .slice none 0 0, .slice none 0 0, str []]).toArray, .bool false] := by
 refine Spec.enter 39 [(0, _), (1, _)] func23 rfl ntmps23 (by simp) rfl ?_
 intro C hCf hR hCI
 refine Run.seq ?_
 refine Run.region ?_
 refine Ops.alloc rfl dc (T.zeroOk rfl) rfl (fun b4 => ?_)
 refine Ops.pure T rfl dc rfl ?_
 refine Ops.nil ?_
 repeat refine Run.seq ?_
 refine Run.regionO (D := [some 10]) [true] rfl rfl rfl (fun Z hZ => ?_)
 refine q1 dc rfl rfl ?_
 refine QD.nil (hZ _ ?_)
 clear hZ Z
 cases b with
 | true =>
  repeat (first | refine Run.seq ?_ | refine Run.cond_t rfl ?_)
  refine Run.regionP (D := [some 12, some 13, some 14, some 15, some 11, some 16, some 17, some 6, some 7]) [true] 1 rfl rfl rfl (by simp only [List.drop_succ_cons, List.drop_zero]; rfl) (fun Z hZ => ?_)
  refine q1 dc rfl rfl ?_
  refine QD.nil (hZ _ ?_)
  clear hZ Z
  refine Ops.callN ((strings_NewReader I s)) rfl dc call40 rfl ?_
  rintro _ J1 M1 l1 ⟨r, rfl, rfl⟩
  refine Ops.pure T rfl dc rfl ?_
  refine Ops.callP (N := [(b4, _)]) (v1_ParseIndexNo J1 (hU.mono l1) s hs hv r _ a0 (hE.mono l1)) (perm_of_count fun x => by simp only [List.count_append, List.count_cons, List.count_nil, Nat.add_zero, Nat.zero_add] <;> ac_rfl) rfl dc call59 rfl ?_
  rintro y J2 M2 l2 ⟨t', p', rfl, rfl⟩
  iterate 5 refine Ops.pure T rfl dc rfl ?_
  refine Ops.nil ?_
  repeat refine Run.seq ?_
  refine Run.regionO (D := [some 18, some 19]) [true, true] rfl rfl rfl (fun Z hZ => ?_)
  refine q1 dc rfl rfl ?_
  refine QD.e (Ev.neqNil T rfl rfl rfl rfl rfl) dc rfl ?_
  refine QD.nil (hZ _ ?_)
  clear hZ Z
  repeat (first | refine Run.seq ?_ | refine Run.cond_t rfl ?_)
  refine Run.region ?_
  refine Ops.buildL bd50 rfl dc rfl rfl ?_
  refine Ops.store 0 rfl rfl rfl rfl rfl (T.sizeOk rfl) rfl (Nat.le_of_ble_eq_true rfl) rfl rfl ?_
  refine Ops.pure T rfl dc rfl ?_
  refine Ops.nil ?_
  skip
  refine Run.retCT T 0 (by rw [hCf]; exact func23) results23 rfl rfl rfl rfl rfl rfl rfl (hR _ _ _ ?_)
  exact ⟨rfl, rfl⟩
 | false =>
  repeat (first | refine Run.seq ?_ | refine Run.skip ?_ | refine Run.cond_f rfl ?_)
  refine Run.regionP (D := [some 26, some 27, some 28, some 29, some 25, some 30, some 31, some 8, some 9]) [true] 1 rfl rfl rfl (by simp only [List.drop_succ_cons, List.drop_zero]; rfl) (fun Z hZ => ?_)
  refine q1 dc rfl rfl ?_
  refine QD.nil (hZ _ ?_)
  clear hZ Z
  refine Ops.callN ((strings_NewReader I s)) rfl dc call40 rfl ?_
  rintro _ J1 M1 l1 ⟨r, rfl, rfl⟩
  refine Ops.pure T rfl dc rfl ?_
  refine Ops.callP (N := [(b4, _)]) (v1_ParseManifestNo J1 (hU.mono l1) s hs hv r _ a0 (hE.mono l1)) (perm_of_count fun x => by simp only [List.count_append, List.count_cons, List.count_nil, Nat.add_zero, Nat.zero_add] <;> ac_rfl) rfl dc call61 rfl ?_
  rintro y J2 M2 l2 ⟨t', p', rfl, rfl⟩
  iterate 5 refine Ops.pure T rfl dc rfl ?_
  refine Ops.nil ?_
  repeat refine Run.seq ?_
  refine Run.regionO (D := [some 32, some 33]) [true, true] rfl rfl rfl (fun Z hZ => ?_)
  refine q1 dc rfl rfl ?_
  refine QD.e (Ev.neqNil T rfl rfl rfl rfl rfl) dc rfl ?_
  refine QD.nil (hZ _ ?_)
  clear hZ Z
  repeat (first | refine Run.seq ?_ | refine Run.cond_t rfl ?_)
  refine Run.region ?_
  refine Ops.buildL bd50 rfl dc rfl rfl ?_
  refine Ops.store 0 rfl rfl rfl rfl rfl (T.sizeOk rfl) rfl (Nat.le_of_ble_eq_true rfl) rfl rfl ?_
  refine Ops.pure T rfl dc rfl ?_
  refine Ops.nil ?_
  skip
  refine Run.retCT T 0 (by rw [hCf]; exact func23) results23 rfl rfl rfl rfl rfl rfl rfl (hR _ _ _ ?_)
  exact ⟨rfl, rfl⟩
end Go.V
namespace Go.V
open Go.Proofs.Tryz
open Go.RowKit Go.ChangeShapes Go.Proofs
set_option maxRecDepth 100000
theorem at_cell {W : World} {b off : Nat} {v : Value} (h : W.cell? ⟨b, off, none⟩ = some v) : At (whole W) b off [v] :=
 (at_whole (a := ⟨b, off, none⟩) (by simp) (fun j u hj => by
  cases j with
  | zero => simp at hj; subst hj; simpa [Addr.add] using h
  | succ j => simp at hj)).2
theorem u8extra : U8Extra prog ren196 := ⟨by kernel_rfl, by kernel_rfl, by kernel_rfl, by kernel_rfl, by kernel_rfl, by kernel_rfl, by kernel_rfl⟩
theorem UT.ofLaid {W : World} {l : List (String × DataW Unit)} (h : laidMetH prog l W) (hp : (l.all fun x => x.2.handleName?.isNone) = true)
  (h1 : ("unicode/utf8.first", Lib.firstData) ∈ l) (h2 : ("unicode/utf8.acceptRanges", Lib.acceptData) ∈ l) : UT (whole W) := by
 rw [MakeChecks.laidMetH_plain _ _ _ hp] at h
 have hT : Lib.Utf8Tabs 0 1 W := utf8Tabs_of_readsT (ρ := ren196) (U8Types.of196 lays196) u8extra (Lib.laidMet.reads h h1) (Lib.laidMet.reads h h2)
 exact ⟨fun c hc => at_cell (hT.1 c hc), fun i hi => ⟨at_cell (hT.2 i hi).1, at_cell (hT.2 i hi).2⟩⟩
end Go.V
