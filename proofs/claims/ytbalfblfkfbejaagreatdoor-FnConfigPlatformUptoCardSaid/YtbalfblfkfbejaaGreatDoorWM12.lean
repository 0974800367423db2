import Derived.Test.YtbalfblfkfbejaaGreatDoorWM11
import Derived.Test.YtbalfblfkfbejaaGreatDoorWM4
import Derived.Test.YtbalfblfkfbejaaGreatDoorWM6
import Derived.Test.YtbalfblfkfbejaaGreatDoorWM2
namespace Go.V
open Go.Proofs.Tryz
open Go.RowKit
set_option linter.unusedVariables false
set_option linter.unusedSimpArgs false
set_option maxRecDepth 10000
attribute [local irreducible] Run Ops QD
def rdO (s : List UInt8) (i : Nat) (pr : Int) : Obj := blk [str s, .int .i64 i, .int .i64 pr] 178
theorem strings_NewReader (I : Imm) (s : List UInt8) : Spec prog 40 [str s] I [] fun w J M => ∃ r, w = .pointer (some ⟨r, 0, none⟩) ∧ M = [(r, rdO s 0 (-1))] := by
  refine Spec.enter 6 [(0, _)] func40 rfl ntmps40 (by simp) rfl ?_
  intro C hCf hR hCI
  repeat (first | refine Run.seq ?_)
  refine Run.regionO (D := [some 2]) [true] rfl rfl rfl (fun Z hZ => ?_)
  refine QD.ev T (by decide) rfl rfl ?_
  refine QD.nil (hZ _ ?_)
  clear hZ Z
  repeat (first | refine Run.seq ?_)
  refine Run.regionP (D := [some 3, some 4, some 5, some 2]) [true, true] 2 rfl rfl rfl (by simp only [List.drop_succ_cons, List.drop_zero]; rfl) (fun Z hZ => ?_)
  refine QD.ev T (by decide) rfl rfl ?_
  refine QD.e (Ev.buildS bd178 rfl rfl) (by decide) rfl ?_
  refine QD.nil (hZ _ ?_)
  clear hZ Z
  refine Ops.box rfl (by decide) rfl rfl (fun r => ?_)
  refine Ops.pure T rfl (by decide) rfl ?_
  refine Ops.nil ?_
  skip
  refine Run.ret1 (by rw [hCf]; exact func40) results40 rfl (hR _ _ _ ?_)
  exact ⟨r, rfl, rfl⟩
def rdAns (eof : Value) (s : List UInt8) (i m : Nat) : Value := if s.length ≤ i then .tuple #[.int .i64 0, eof] else .tuple #[.int .i64 (min (s.length - i) m : Nat), .nilIface]
def rdNext (s : List UInt8) (i m : Nat) (pr : Int) : Obj := if s.length ≤ i then rdO s i pr else rdO s (i + min (s.length - i) m) (-1)
def rdBytes (s : List UInt8) (i : Nat) (xs : List UInt8) : List UInt8 := if s.length ≤ i then xs else (s.drop i).take xs.length ++ xs.drop (s.length - i)
set_option maxHeartbeats 1000000 in
theorem strings_Read (I : Imm) (s xs : List UInt8) (r b i cap : Nat) (pr : Int) (pre post : List Value) (et : TypeId) (ev : Value) (hE : At I 2 0 [.iface et ev]) (hs : s.length ≤ 1099511627776) (hi : i ≤ s.length) :
    Spec prog 290 [.pointer (some ⟨r, 0, none⟩), .slice (some ⟨b, pre.length, none⟩) xs.length cap] I [(r, rdO s i pr), (b, bobj pre xs post 5)] fun w J M =>
      w = rdAns (.iface et ev) s i xs.length ∧ M = [(r, rdNext s i xs.length pr), (b, bobj pre (rdBytes s i xs) post 5)] := by
  refine Spec.enter 39 [(0, _), (1, _)] func290 rfl ntmps290 (by simp) rfl ?_
  intro C hCf hR hCI
  repeat (first | refine Run.seq ?_)
  refine Run.regionO (D := [some 4, some 5]) [true, true] rfl rfl rfl (fun Z hZ => ?_)
  refine QD.ev T (by decide) rfl rfl ?_
  refine QD.ev T (by decide) rfl rfl ?_
  refine QD.nil (hZ _ ?_)
  clear hZ Z
  repeat (first | refine Run.seq ?_)
  refine Run.regionQ (D := [some 6, some 7, some 8, some 9, some 10, some 11, some 12, some 13, some 14, some 15]) [true, true, true, true, true, true, true, true, true, true] (bl 10 1023) (by kernel_rfl) (by kernel_rfl) (by kernel_rfl) (by kernel_rfl) rfl (fun Z hZ => ?_)
  refine QD.ev T (by decide) rfl rfl ?_
  refine QD.ev T (by decide) rfl rfl ?_
  refine QD.ev T (by decide) rfl rfl ?_
  first | refine QD.yv (by decide) rfl (Yv.load 0 T rfl rfl rfl rfl) ?_ | refine QD.yv (by decide) rfl (Yv.load 1 T rfl rfl rfl rfl) ?_ | refine QD.yv (by decide) rfl (Yv.load 2 T rfl rfl rfl rfl) ?_
  refine QD.ev T (by decide) rfl rfl ?_
  refine QD.ev T (by decide) rfl rfl ?_
  refine QD.ev T (by decide) rfl rfl ?_
  first | refine QD.yv (by decide) rfl (Yv.load 0 T rfl rfl rfl rfl) ?_ | refine QD.yv (by decide) rfl (Yv.load 1 T rfl rfl rfl rfl) ?_ | refine QD.yv (by decide) rfl (Yv.load 2 T rfl rfl rfl rfl) ?_
  refine QD.e (Ev.lenS T rfl rfl) (by decide) rfl ?_
  refine QD.e (Ev.geq rfl rfl) (by decide) rfl ?_
  refine QD.nil (hZ _ ?_)
  clear hZ Z
  skip
  refine Run.cond rfl rfl (fun h1 => ?_) (fun h1 => ?_)
  all_goals (try rw [h1])
  all_goals (try simp only [decide_eq_true_eq, decide_eq_false_iff_not, Bool.not_eq_true', Bool.not_eq_false', Bool.and_eq_true, Bool.or_eq_true, Bool.and_eq_false_imp, Bool.or_eq_false_iff] at h1)
  · have h1' : s.length ≤ i := by omega
    repeat (first | refine Run.seq ?_)
    refine Run.regionQ (D := [some 16, some 4, some 5]) [true, true, true] (bl 3 7) (by kernel_rfl) (by kernel_rfl) (by kernel_rfl) (by kernel_rfl) rfl (fun Z hZ => ?_)
    refine QD.yv (by decide) rfl (Yv.loadI T hE rfl rfl) ?_
    refine QD.ev T (by decide) rfl rfl ?_
    refine QD.ev T (by decide) rfl rfl ?_
    refine QD.nil (hZ _ ?_)
    clear hZ Z
    skip
    refine Run.ret2 (by rw [hCf]; exact func290) results290 rfl rfl (hR _ _ _ ?_)
    unfold rdAns rdNext rdBytes
    rw [if_pos h1', if_pos h1', if_pos h1']
    exact ⟨rfl, rfl⟩
  · have h1' : ¬ s.length ≤ i := by omega
    repeat (first | refine Run.seq ?_ | refine Run.skip ?_)
    refine Run.regionP (D := [some 17, some 18, some 19, none]) [true, true, true] 3 rfl rfl rfl (by simp only [List.drop_succ_cons, List.drop_zero]; rfl) (fun Z hZ => ?_)
    refine QD.ev T (by decide) rfl rfl ?_
    refine QD.ev T (by decide) rfl rfl ?_
    refine QD.ev T (by decide) rfl rfl ?_
    refine QD.nil (hZ _ ?_)
    clear hZ Z
    first | refine Ops.store 0 rfl rfl rfl rfl rfl (T.sizeOk rfl) rfl (Nat.le_of_ble_eq_true rfl) rfl rfl ?_ | refine Ops.store 1 rfl rfl rfl rfl rfl (T.sizeOk rfl) rfl (Nat.le_of_ble_eq_true rfl) rfl rfl ?_ | refine Ops.store 2 rfl rfl rfl rfl rfl (T.sizeOk rfl) rfl (Nat.le_of_ble_eq_true rfl) rfl rfl ?_
    refine Ops.nil ?_
    repeat (first | refine Run.seq ?_)
    refine Run.regionT (D := [some 20, some 21, some 22, some 23, some 24, some 25, some 26, some 27, some 28, some 29, some 30, some 4]) (fun _ => True) [true, true, true, true, true, true, true, true, true, true] (bl 12 1023) 2 (by kernel_rfl) (by kernel_rfl) (by kernel_rfl) rfl (fun Z hZ => ?_)
    refine QD.ev T (by decide) rfl rfl ?_
    refine QD.ev T (by decide) rfl rfl ?_
    refine QD.ev T (by decide) rfl rfl ?_
    refine QD.ev T (by decide) rfl rfl ?_
    first | refine QD.yv (by decide) rfl (Yv.load 0 T rfl rfl rfl rfl) ?_ | refine QD.yv (by decide) rfl (Yv.load 1 T rfl rfl rfl rfl) ?_ | refine QD.yv (by decide) rfl (Yv.load 2 T rfl rfl rfl rfl) ?_
    refine QD.ev T (by decide) rfl rfl ?_
    refine QD.ev T (by decide) rfl rfl ?_
    refine QD.ev T (by decide) rfl rfl ?_
    first | refine QD.yv (by decide) rfl (Yv.load 0 T rfl rfl rfl rfl) ?_ | refine QD.yv (by decide) rfl (Yv.load 1 T rfl rfl rfl rfl) ?_ | refine QD.yv (by decide) rfl (Yv.load 2 T rfl rfl rfl rfl) ?_
    refine QD.e (Ev.cutSLo T rfl rfl rfl (by first | omega | (simp only [List.length_cons, List.length_nil] ; omega) | (simp; omega)) (by first | omega | (simp only [List.length_cons, List.length_nil] ; omega) | (simp; omega))) (by decide) rfl ?_
    refine QD.nil (hZ _ ?_)
    clear hZ Z
    rw [Int.toNat_natCast]
    refine RAny.on 10 (bl 12 2047) rfl (by kernel_rfl) rfl (by decide) (Eff.copyAt (N := [(r, _)]) btB rfl rfl (List.Perm.swap _ _ _) ⟨fun _ _ => trivial, ?_⟩)
    refine RAny.tk 11 (bl 12 4095) rfl (by kernel_rfl) (by decide) (fun _ _ => trivial) (Yld.eval T rfl rfl) ?_
    refine RAny.done _ (by kernel_rfl) ?_
    repeat (first | refine Run.seq ?_)
    have hm : (min (s.drop i).length xs.length : Nat) = min (s.length - i) xs.length := by simp
    rw [hm]
    refine Run.regionP (D := [some 31, some 32, some 33, some 34, some 35, some 36, some 37, some 38, none]) [true, true, true, true, true, true, true, true] 8 rfl rfl rfl (by simp only [List.drop_succ_cons, List.drop_zero]; rfl) (fun Z hZ => ?_)
    refine QD.ev T (by decide) rfl rfl ?_
    refine QD.ev T (by decide) rfl rfl ?_
    refine QD.ev T (by decide) rfl rfl ?_
    first | refine QD.yv (by decide) rfl (Yv.load 0 T rfl rfl rfl rfl) ?_ | refine QD.yv (by decide) rfl (Yv.load 1 T rfl rfl rfl rfl) ?_ | refine QD.yv (by decide) rfl (Yv.load 2 T rfl rfl rfl rfl) ?_
    refine QD.ev T (by decide) rfl rfl ?_
    refine QD.e (Ev.addI rfl rfl (wI (by first | omega | (simp only [List.length_cons, List.length_nil] ; omega) | (simp; omega)) (by first | omega | (simp only [List.length_cons, List.length_nil] ; omega) | (simp; omega)))) (by decide) rfl ?_
    refine QD.ev T (by decide) rfl rfl ?_
    refine QD.ev T (by decide) rfl rfl ?_
    refine QD.nil (hZ _ ?_)
    clear hZ Z
    first | refine Ops.store 0 rfl rfl rfl rfl rfl (T.sizeOk rfl) rfl (Nat.le_of_ble_eq_true rfl) rfl rfl ?_ | refine Ops.store 1 rfl rfl rfl rfl rfl (T.sizeOk rfl) rfl (Nat.le_of_ble_eq_true rfl) rfl rfl ?_ | refine Ops.store 2 rfl rfl rfl rfl rfl (T.sizeOk rfl) rfl (Nat.le_of_ble_eq_true rfl) rfl rfl ?_
    refine Ops.nil ?_
    skip
    refine Run.perm (List.Perm.swap _ _ _) ?_
    refine Run.ret2 (by rw [hCf]; exact func290) results290 rfl rfl (hR _ _ _ ?_)
    unfold rdAns rdNext rdBytes
    rw [if_neg h1', if_neg h1', if_neg h1']
    refine ⟨rfl, ?_⟩
    rw [List.length_drop]
    rfl
theorem meth_rd : ∀ u w, (method (prog.types.size + Made.depth) 90 u "Read").run prog w = .ok (290, u) w := by intro u w; kernel_rfl
theorem nil_rd : ∀ a w, (nilAhead (prog.types.size + Made.depth) 90 (.pointer (some a)) "Read").run prog w = .ok (some false) w := by intro a w; kernel_rfl
abbrev eofV (a : Addr) : Value := .iface 279 (.pointer (some a))
theorem bobj_read (s cur xs : List UInt8) (i : Nat) (e : TypeId) (hi : i < s.length) : bobj (wb cur) (rdBytes s i xs) [] e = bobj (wb (cur ++ (s.drop i).take xs.length)) (xs.drop (s.length - i)) [] e := by
  unfold bobj rdBytes
  rw [if_neg (by omega)]
  simp only [wb, List.map_append, List.append_assoc]
theorem bobj_all (cur xs : List UInt8) (e : TypeId) : bobj (wb cur) xs [] e = blk (([] : List Value) ++ wb cur ++ wb xs) e := by
  unfold bobj; simp
theorem Buf.ofBlock (b c : Nat) (e : TypeId) : Buf e (.slice (some ⟨b, 0, none⟩) 0 c) [] [(b, blk (wb (List.replicate c 0)) e)] :=
  .inr ⟨b, [], wb (List.replicate c 0), c, rfl, by simp [wb], Nat.zero_le _, by simp [wb]⟩
theorem bobj_zero (b c : Nat) (e : TypeId) : blk (wb (List.replicate c 0)) e = bobj (wb []) (List.replicate c 0) [] e := by
  unfold bobj; simp [wb]
theorem sl_cur {J : Imm} {b C : Nat} {cur xs : List UInt8} (hJ : J b = some (bobj (wb cur) xs [] 5)) (hC : cur.length ≤ C) (hx : C ≤ cur.length + xs.length) : Sl tU8 J (.slice (some ⟨b, 0, none⟩) cur.length C) cur := by
  rw [bobj_all] at hJ
  exact Buf.sl (M := [(b, blk (([] : List Value) ++ wb cur ++ wb xs) 5)]) (.inr ⟨b, [], wb xs, C, rfl, rfl, hC, by simpa [wb] using hx⟩) (fun b' o h => by
    obtain ⟨rfl, rfl⟩ := Prod.mk.inj (List.mem_singleton.1 h); exact hJ)
theorem Rd.ofSl {J : Imm} {b off c : Nat} {s : List UInt8} (h : Sl tU8 J (.slice (some ⟨b, off, none⟩) s.length c) s) : Rd J (.slice (some ⟨b, off, none⟩) s.length c) s b off c := by
  by_cases hs : s = []
  · subst hs
    exact ⟨rfl, Nat.zero_le _, fun i hi => absurd hi (Nat.not_lt_zero _)⟩
  · obtain ⟨db, off', c', h'⟩ := Rd.of h hs
    have e := h'.eq
    injection e with e1 _ e3
    injection e1 with e1
    injection e1 with e1 e2 _
    subst e1; subst e2; subst e3
    exact h'
set_option maxHeartbeats 4000000 in
theorem io_ReadAll (I : Imm) (s : List UInt8) (r : Nat) (pr : Int) (a0 : Addr) (hE : At I 2 0 [eofV a0]) (hs : s.length ≤ 1099511627776) :
    Spec prog 119 [.iface 90 (.pointer (some ⟨r, 0, none⟩))] I [(r, rdO s 0 pr)] fun w J M => ∃ v db off c, w = .tuple #[v, .nilIface] ∧ Rd J v s db off c ∧ M = [] := by
  refine Spec.enter 91 [(0, _)] func119 rfl ntmps119 (by simp) rfl ?_
  intro C hCf hR hCI
  repeat (first | refine Run.seq ?_)
  refine Run.regionO (D := [some 2, some 3]) [true, true] rfl rfl rfl (fun Z hZ => ?_)
  refine QD.ev T (by decide) rfl rfl ?_
  refine QD.ev T (by decide) rfl rfl ?_
  refine QD.nil (hZ _ ?_)
  clear hZ Z
  repeat (first | refine Run.seq ?_)
  refine Run.region ?_
  refine Ops.makeBuf (a := 0) (c := 512) btB rfl (by decide) rfl rfl (by omega) (by omega) fun B hB => ?_
  clear hB
  rw [bobj_zero B]
  obtain ⟨xs, hxs, hxl⟩ : ∃ xs : List UInt8, List.replicate 512 0 = xs ∧ xs.length = 512 := ⟨_, rfl, List.length_replicate⟩
  rw [hxs]
  clear hxs
  refine Ops.pure T rfl (by decide) rfl ?_
  refine Ops.nil ?_
  repeat (first | refine Run.seq ?_)
  refine Run.regionO (D := [some 5]) [true] rfl rfl rfl (fun Z hZ => ?_)
  refine QD.ev T (by decide) rfl rfl ?_
  refine QD.nil (hZ _ ?_)
  clear hZ Z
  repeat (first | refine Run.seq ?_)
  refine Run.region ?_
  refine Ops.makeGr (tSl tU8) el261 rfl (by decide) rfl rfl (by decide) (by decide) fun bc Mc hGc => ?_
  refine Ops.pure T rfl (by decide) rfl ?_
  refine Ops.nil ?_
  repeat (first | refine Run.seq ?_)
  refine Run.regionO (D := [some 7]) [true] rfl rfl rfl (fun Z hZ => ?_)
  refine QD.ev T (by decide) rfl rfl ?_
  refine QD.nil (hZ _ ?_)
  clear hZ Z
  repeat (first | refine Run.block ?_)
  refine Run.keep [0, 4, 5, 6, 7] [_, _, _, _, _] rfl ?_
  refine Run.perm (L' := (B, bobj (wb []) xs [] 5) :: (r, rdO s 0 pr) :: Mc) (List.perm_append_comm (l₁ := Mc) (l₂ := [_, _])) ?_
  refine Run.rounds (fun m env L J => ∃ (i : Nat) (B : Nat) (cur xs : List UInt8) (pr : Int) (nx : Nat) (cl : List (List UInt8)) (vc : Value) (Mc : Own), m = s.length - i ∧ i ≤ s.length ∧ s.take i = cl.flatten ++ cur ∧ (cur.length + xs.length) / 16 ≤ xs.length ∧ 256 ≤ cur.length + xs.length ∧ cur.length + xs.length ≤ 9223372036854775807 ∧
      nx ≤ 2 * cl.flatten.length + 256 ∧ 256 ≤ nx ∧ 2 * nx ≤ 3 * (cur.length + xs.length) ∧ cl.length ≤ cl.flatten.length ∧
      Gr (tSl tU8) J 31 vc cl Mc ∧ env = [(0, .iface 90 (.pointer (some ⟨r, 0, none⟩))), (4, .slice (some ⟨B, 0, none⟩) cur.length (cur.length + xs.length)), (5, .int .i64 (nx : Int)), (6, vc), (7, .int .i64 (cl.flatten.length : Int))] ∧
      L = (B, bobj (wb cur) xs [] 5) :: (r, rdO s i pr) :: Mc ∧ Le I J) s.length ⟨0, B, [], xs, pr, 256, [], _, Mc, rfl, by omega, by simp, by simp [hxl], by simp [hxl], by simp [hxl], by simp, by omega, by simp [hxl], by simp, hGc, by rw [show ([] : List UInt8).length + xs.length = 512 by simp [hxl]]; rfl, rfl, Le.refl _⟩ ?_
  clear hGc hxl
  rintro m env L J ⟨i, B, cur, xs, pr, nx, cl, vc, Mc, rfl, hi, htk, hroom, hC0, hC1, hnx, hnx0, hnxC, hcl, hGc, rfl, rfl, hle⟩ ih
  have hE' := hE.mono hle
  have hxs0 : 0 < xs.length := by omega
  repeat (first | refine Run.seq ?_ | refine Run.block ?_)
  refine Run.regionAny (fun _ => True) (bl 16 0) (by kernel_rfl) (by kernel_rfl) ?_
  refine RAny.tk 0 (bl 16 1) rfl (by kernel_rfl) (by decide) (fun _ _ => trivial) (Yld.eval T rfl rfl) ?_
  refine RAny.tk 1 (bl 16 3) rfl (by kernel_rfl) (by decide) (fun _ _ => trivial) (Yld.eval T rfl rfl) ?_
  refine RAny.tk 2 (bl 16 7) rfl (by kernel_rfl) (by decide) (fun _ _ => trivial) (Yld.eval T rfl rfl) ?_
  refine RAny.tk 3 (bl 16 15) rfl (by kernel_rfl) (by decide) (fun _ _ => trivial) (Yld.eval T rfl rfl) ?_
  refine RAny.tk 4 (bl 16 31) rfl (by kernel_rfl) (by decide) (fun _ _ => trivial) (Yld.eval T rfl rfl) ?_
  refine RAny.tk 5 (bl 16 63) rfl (by kernel_rfl) (by decide) (fun _ _ => trivial) (Yld.ev (Ev.capV T rfl rfl) rfl) ?_
  refine RAny.tk 6 (bl 16 127) rfl (by kernel_rfl) (by decide) (fun _ _ => trivial) (Yld.ev ((Ev.sliceLH (size := 1) T rfl rfl rfl rfl rfl (by omega) (by omega)).as (show _ = Value.slice (some ⟨B, (wb cur).length, none⟩) xs.length xs.length from by rw [if_neg (by omega)]; simp [Addr.add, wb]; intro h; simp [h])) rfl) ?_
  refine RAny.tk 7 (bl 16 255) rfl (by kernel_rfl) (by decide) (fun _ _ => trivial) (Yld.eval T rfl rfl) ?_
  refine RAny.tk 8 (bl 16 511) rfl (by kernel_rfl) (by decide) (fun _ _ => trivial) (Yld.ev (Ev.nilCheckM rfl (nil_rd _)) rfl) ?_
  refine RAny.tk 9 (bl 16 1023) rfl (by kernel_rfl) (by decide) (fun _ _ => trivial) (Yld.eval T rfl rfl) ?_
  refine RAny.on 10 (bl 16 2047) rfl (by kernel_rfl) rfl (by decide) (Eff.invokeM (M := [(r, rdO s i pr), (B, bobj (wb cur) xs [] 5)]) (N := Mc) (strings_Read J s xs r B i xs.length pr (wb cur) [] _ _ hE' hs hi) (List.Perm.swap _ _ _) call290 rfl (meth_rd _) rfl fun y J1 M1 l1 hw => ⟨fun _ _ => trivial, ?_⟩)
  obtain ⟨rfl, rfl⟩ := hw
  unfold rdAns rdNext
  skip
  by_cases hq : s.length ≤ i
  · rw [if_pos hq, if_pos hq]
    have hii : i = s.length := by omega
    subst hii
    have hall : s = cl.flatten ++ cur := by rw [List.take_length] at htk; exact htk
    have hbr : rdBytes s s.length xs = xs := by unfold rdBytes; rw [if_pos (Nat.le_refl _)]
    rw [hbr]
    refine RAny.tk 11 (bl 16 4095) rfl (by kernel_rfl) (by decide) (fun _ _ => trivial) (Yld.eval T rfl rfl) ?_
    refine RAny.tk 12 (bl 16 8191) rfl (by kernel_rfl) (by decide) (fun _ _ => trivial) (Yld.eval T rfl rfl) ?_
    refine RAny.tk 13 (bl 16 16383) rfl (by kernel_rfl) (by decide) (fun _ _ => trivial) (Yld.eval T rfl rfl) ?_
    refine RAny.tk 14 (bl 16 32767) rfl (by kernel_rfl) (by decide) (fun _ _ => trivial) (Yld.eval T rfl rfl) ?_
    refine RAny.tk 15 (bl 16 65535) rfl (by kernel_rfl) (by decide) (fun _ _ => trivial) (Yld.eval T rfl rfl) ?_
    refine RAny.done _ (by kernel_rfl) ?_
    repeat (first | refine Run.seq ?_)
    refine Run.perm (List.Perm.swap _ _ _) ?_
    refine Run.regionO (D := [some 29, some 30, some 31, some 32, some 33, some 34, some 4]) [true, true, true, true, true, true, true] rfl rfl rfl (fun Z hZ => ?_)
    refine QD.ev T (by decide) rfl rfl ?_
    refine QD.ev T (by decide) rfl rfl ?_
    refine QD.ev T (by decide) rfl rfl ?_
    refine QD.ev T (by decide) rfl rfl ?_
    refine QD.e (Ev.addI rfl rfl (wI (by omega) (by omega))) (by decide) rfl ?_
    refine QD.e ((Ev.sliceHi' T rfl rfl rfl rfl (by omega) (by omega)).as (show _ = Value.slice (some ⟨B, 0, none⟩) cur.length (cur.length + xs.length) from by simp)) (by decide) rfl ?_
    refine QD.ev T (by decide) rfl rfl ?_
    refine QD.nil (hZ _ ?_)
    clear hZ Z
    repeat (first | refine Run.seq ?_)
    refine Run.regionO (D := [some 35, some 36]) [true, true] rfl rfl rfl (fun Z hZ => ?_)
    refine QD.ev T (by decide) rfl rfl ?_
    refine QD.e (Ev.neqNil T rfl rfl rfl rfl rfl) (by decide) rfl ?_
    refine QD.nil (hZ _ ?_)
    clear hZ Z
    repeat (first | refine Run.seq ?_ | refine Run.cond_t rfl ?_)
    refine Run.region ?_
    refine Ops.pure T rfl (by decide) rfl ?_
    refine Ops.loadI rfl (by decide) rfl (hE'.mono l1) (T.aggOk rfl) ?_
    refine Ops.eqlSame underlying87 underlying279 (show _ = some t279 by kernel_rfl) rfl (show _ = some t353 by kernel_rfl) rfl (by decide) rfl rfl ?_
    refine Ops.nil ?_
    repeat (first | refine Run.cond_t rfl ?_)
    refine Run.regionO (D := [some 9]) [true] rfl rfl rfl (fun Z hZ => ?_)
    refine QD.ev T (by decide) rfl rfl ?_
    refine QD.nil (hZ _ ?_)
    clear hZ Z
    repeat (first | refine Run.seq ?_)
    have hGc1 := hGc.mono l1
    obtain ⟨Ac, cc, rfl⟩ := hGc1.isSl
    refine Run.freezeAt 0 rfl rfl fun J2 l2 hB => ?_
    have hcur := sl_cur hB (by omega) (Nat.le_refl _)
    refine Run.keepGr (hGc1.mono l2) (N := [(r, _)]) (List.perm_append_comm (l₁ := [_]) (l₂ := Mc)) fun J3 l3 hSl => ?_
    refine Run.dropL (L' := []) (List.nil_sublist _) ?_
    have hcur := hcur.mono l3
    have hsl : s.length = cl.flatten.length + cur.length := by have := congrArg List.length hall; rwa [List.length_append] at this
    by_cases hcl0 : cl = []
    · subst hcl0
      obtain rfl : s = cur := by simpa using hall
      refine Run.regionO (D := [some 40, some 41, some 42]) [true, true, true] rfl rfl rfl (fun Z hZ => ?_)
      refine QD.ev T (by decide) rfl rfl ?_
      refine QD.ev T (by decide) rfl rfl ?_
      refine QD.e (Ev.eqlI rfl rfl) (by decide) rfl ?_
      refine QD.nil (hZ _ ?_)
      clear hZ Z
      repeat (first | refine Run.seq ?_ | refine Run.cond_t rfl ?_)
      refine Run.regionO (D := [some 43, some 44, some 2, some 3]) [true, true, true, true] rfl rfl rfl (fun Z hZ => ?_)
      refine QD.ev T (by decide) rfl rfl ?_
      refine QD.ev T (by decide) rfl rfl ?_
      refine QD.ev T (by decide) rfl rfl ?_
      refine QD.ev T (by decide) rfl rfl ?_
      refine QD.nil (hZ _ ?_)
      clear hZ Z
      skip
      refine Run.ret2 (by rw [hCf]; exact func119) results119 rfl rfl (hR _ _ _ ?_)
      exact ⟨_, _, _, _, rfl, Rd.ofSl hcur, rfl⟩
    · have hcln : 0 < cl.length := List.length_pos_iff.2 hcl0
      refine Run.regionO (D := [some 40, some 41, some 42]) [true, true, true] rfl rfl rfl (fun Z hZ => ?_)
      refine QD.ev T (by decide) rfl rfl ?_
      refine QD.ev T (by decide) rfl rfl ?_
      refine qf (Ev.eqlI rfl rfl) (by omega) dc rfl ?_
      refine QD.nil (hZ _ ?_)
      clear hZ Z
      repeat (first | refine Run.seq ?_ | refine Run.skip ?_ | refine Run.cond_f rfl ?_)
      refine Run.regionO (D := [some 45, some 46, some 47, some 48, some 7]) [true, true, true, true, true] rfl rfl rfl (fun Z hZ => ?_)
      refine QD.ev T (by decide) rfl rfl ?_
      refine QD.ev T (by decide) rfl rfl ?_
      refine QD.ev T (by decide) rfl rfl ?_
      refine QD.e (Ev.addK (r := ((s.length : Nat) : Int)) rfl rfl (by rw [wI (by omega) (by omega)]; omega)) (by decide) rfl ?_
      refine QD.ev T (by decide) rfl rfl ?_
      refine QD.nil (hZ _ ?_)
      clear hZ Z
      repeat (first | refine Run.seq ?_)
      refine Run.region ?_
      refine Ops.pure T rfl (by decide) rfl ?_
      refine Ops.appMake (q := s.length) btB underlying3 rfl (by decide) rfl rfl (by omega) (by omega) fun b2 c2 hc2 hc3 => ?_
      refine Ops.ev ((Ev.sliceHi' T rfl rfl rfl rfl (by omega) (by omega)).as (show _ = Value.slice (some ⟨b2, 0, none⟩) 0 c2 from rfl)) rfl (by decide) ?_
      refine Ops.pure T rfl (by decide) rfl ?_
      refine Ops.nil ?_
      repeat (first | refine Run.seq ?_)
      have hB2 := Buf.ofBlock b2 c2 5
      refine Run.regionO (D := [some 52, some 53, some 54]) [true, true, true] rfl rfl rfl (fun Z hZ => ?_)
      refine QD.ev T (by decide) rfl rfl ?_
      refine QD.ev T (by decide) rfl rfl ?_
      refine QD.ev T (by decide) rfl rfl ?_
      refine QD.nil (hZ _ ?_)
      clear hZ Z
      repeat (first | refine Run.block ?_)
      refine Run.keep [4, 9, 10, 52, 53, 54] [_, _, _, _, _, _] rfl ?_
      refine Run.rounds (fun m env L J => ∃ (j : Nat) (fv : Value) (Mf : Own), m = cl.length - j ∧ j ≤ cl.length ∧ Buf 5 fv (cl.take j).flatten Mf ∧
        env = [(4, .slice (some ⟨B, 0, none⟩) cur.length (cur.length + xs.length)), (9, .nilIface), (10, fv), (52, .slice Ac cl.length cc), (53, .int .i64 (cl.length : Int)), (54, .int .i64 (j : Int))] ∧ L = Mf ∧ J3 = J) cl.length ⟨0, _, _, by omega, by omega, by simpa using hB2, rfl, rfl, rfl⟩ ?_
      clear hB2
      rintro m env L J ⟨j, fv, Mf, rfl, hj, hBf, rfl, rfl, rfl⟩ ih2
      have hle2 : (cl.take j).flatten.length ≤ cl.flatten.length := by
        have := congrArg (fun l => (List.flatten l).length) (List.take_append_drop j cl)
        simp only [List.flatten_append, List.length_append] at this; omega
      by_cases hlt : j < cl.length
      · skip
        repeat (first | refine Run.seq ?_)
        refine Run.regionO (D := [some 55]) [true] rfl rfl rfl (fun Z hZ => ?_)
        refine qt (Ev.lss rfl rfl) (by omega) dc rfl ?_
        refine QD.nil (hZ _ ?_)
        clear hZ Z
        repeat (first | refine Run.seq ?_ | refine Run.skip ?_ | refine Run.block ?_ | refine Run.cond_t rfl ?_)
        refine Run.region ?_
        refine Ops.indexSl (j := (j : Int)) hSl rfl (by decide) rfl rfl (T.undOk rfl) (T.sizeOk rfl) (by omega) (by omega) fun bb off q cs hq1 hr1 hA => ?_
        obtain ⟨vq, rfl, hq8⟩ := hr1
        rw [Int.toNat_natCast] at hq1
        obtain ⟨Aq, cq, rfl⟩ := hq8.isSl
        refine Ops.loadI rfl (by decide) rfl hA (T.aggOk rfl) ?_
        refine Ops.pure T rfl (by decide) rfl ?_
        refine Ops.nil ?_
        skip
        have hle3 : (cl.take j).flatten.length + q.length ≤ cl.flatten.length := by
          obtain ⟨hj', rfl⟩ := List.getElem?_eq_some_iff.1 hq1
          have := congrArg (fun l => (List.flatten l).length) (List.take_append_drop (j + 1) cl)
          rw [List.take_succ_eq_append_getElem hj'] at this
          simp only [List.flatten_append, List.length_append, List.flatten_singleton, List.flatten_cons, List.flatten_nil, List.append_nil] at this; omega
        refine Run.region ?_
        refine Ops.pure T rfl (by decide) rfl ?_
        refine Ops.pure T rfl (by decide) rfl ?_
        refine Ops.appSlB (N := []) btB hBf hq8 rfl (by decide) rfl rfl rfl (by omega) fun v' M' hB' => ?_
        refine Ops.pure T rfl (by decide) rfl ?_
        refine Ops.nil ?_
        repeat (first | refine Run.inBlock ?_)
        refine Run.regionO (D := [some 61, some 54]) [true, true] rfl rfl rfl (fun Z hZ => ?_)
        refine QD.e (Ev.addK (r := ((j + 1 : Nat) : Int)) rfl rfl (by rw [wI (by omega) (by omega)]; omega)) (by decide) rfl ?_
        refine QD.ev T (by decide) rfl rfl ?_
        refine QD.nil (hZ _ ?_)
        clear hZ Z
        skip
        refine Run.keep [4, 9, 10, 52, 53, 54] [_, _, _, _, _, _] rfl ?_
        refine ih2 (cl.length - (j + 1)) _ _ _ (by omega) ⟨j + 1, v', M', rfl, by omega, ?_, rfl, rfl, rfl⟩
        obtain ⟨hj', rfl⟩ := List.getElem?_eq_some_iff.1 hq1
        rw [List.take_succ_eq_append_getElem hj', List.flatten_append, List.flatten_singleton]
        exact hB'
      · obtain rfl : j = cl.length := by omega
        rw [List.take_length] at hBf
        repeat (first | refine Run.seq ?_)
        refine Run.regionO (D := [some 55]) [true] rfl rfl rfl (fun Z hZ => ?_)
        refine qf (Ev.lss rfl rfl) (by omega) dc rfl ?_
        refine QD.nil (hZ _ ?_)
        clear hZ Z
        repeat (first | refine Run.seq ?_ | refine Run.exit rfl ?_ | refine Run.cond_f rfl ?_)
        refine Run.region ?_
        refine Ops.pure T rfl (by decide) rfl ?_
        refine Ops.pure T rfl (by decide) rfl ?_
        refine Ops.appSlB (N := []) btB hBf hcur rfl (by decide) rfl rfl rfl (by omega) fun v' M' hB' => ?_
        refine Ops.pure T rfl (by decide) rfl ?_
        refine Ops.nil ?_
        repeat (first | refine Run.seq ?_)
        refine Run.regionO (D := [some 65, some 66, some 2, some 3]) [true, true, true, true] rfl rfl rfl (fun Z hZ => ?_)
        refine QD.ev T (by decide) rfl rfl ?_
        refine QD.ev T (by decide) rfl rfl ?_
        refine QD.ev T (by decide) rfl rfl ?_
        refine QD.ev T (by decide) rfl rfl ?_
        refine QD.nil (hZ _ ?_)
        clear hZ Z
        skip
        rw [← hall] at hB'
        refine Run.keepB (M := M') (N := []) hB' (by simp) fun J5 l5 hv => ?_
        refine Run.ret2 (by rw [hCf]; exact func119) results119 rfl rfl (hR _ _ _ ?_)
        have hne : s ≠ [] := fun e => by rw [e] at hsl; simp only [List.length_nil] at hsl; omega
        obtain ⟨db, off, c, hrd⟩ := Rd.of hv hne
        exact ⟨_, db, off, c, rfl, hrd, rfl⟩
  · skip
    skip
    rw [if_neg hq, if_neg hq, bobj_read s cur xs i _ (by omega)]
    have hq2 : min (s.length - i) xs.length = min xs.length (s.drop i).length := by rw [List.length_drop]; omega
    have htake : (s.drop i).take xs.length = (s.drop i).take (min (s.length - i) xs.length) := List.take_eq_take_iff.2 (by rw [List.length_drop]; omega)
    have hdrl : (xs.drop (s.length - i)).length = xs.length - min (s.length - i) xs.length := by rw [List.length_drop]; omega
    rw [htake]
    have hcl' : ((s.drop i).take (min (s.length - i) xs.length)).length = min (s.length - i) xs.length := by rw [List.length_take, List.length_drop]; omega
    have hqs : min (s.length - i) xs.length ≤ s.length - i ∧ min (s.length - i) xs.length ≤ xs.length ∧ 0 < min (s.length - i) xs.length := by omega
    clear htake hq2
    have htk2 : ∀ q, s.take (i + q) = s.take i ++ (s.drop i).take q := fun q => List.take_add
    generalize min (s.length - i) xs.length = q at *
    have htk' : s.take (i + q) = cl.flatten ++ (cur ++ (s.drop i).take q) := by rw [htk2, htk, List.append_assoc]
    obtain ⟨hq0, hq1, hq2⟩ := hqs
    have hcul : (cur ++ (s.drop i).take q).length = cur.length + q := by rw [List.length_append, hcl']
    generalize cur ++ (s.drop i).take q = cu at *
    generalize xs.drop (s.length - i) = xr at *
    clear htk htk2 hcl'
    have hCC : cur.length + xs.length = cu.length + xr.length := by omega
    have hsum : cl.flatten.length + cu.length ≤ s.length := by
      have := congrArg List.length htk'
      rw [List.length_take, List.length_append] at this; omega
    refine RAny.tk 11 (bl 16 4095) rfl (by kernel_rfl) (by decide) (fun _ _ => trivial) (Yld.eval T rfl rfl) ?_
    refine RAny.tk 12 (bl 16 8191) rfl (by kernel_rfl) (by decide) (fun _ _ => trivial) (Yld.eval T rfl rfl) ?_
    refine RAny.tk 13 (bl 16 16383) rfl (by kernel_rfl) (by decide) (fun _ _ => trivial) (Yld.eval T rfl rfl) ?_
    refine RAny.tk 14 (bl 16 32767) rfl (by kernel_rfl) (by decide) (fun _ _ => trivial) (Yld.eval T rfl rfl) ?_
    refine RAny.tk 15 (bl 16 65535) rfl (by kernel_rfl) (by decide) (fun _ _ => trivial) (Yld.eval T rfl rfl) ?_
    refine RAny.done _ (by kernel_rfl) ?_
    repeat (first | refine Run.seq ?_)
    refine Run.perm (List.Perm.swap _ _ _) ?_
    refine Run.regionO (D := [some 29, some 30, some 31, some 32, some 33, some 34, some 4]) [true, true, true, true, true, true, true] rfl rfl rfl (fun Z hZ => ?_)
    refine QD.ev T (by decide) rfl rfl ?_
    refine QD.ev T (by decide) rfl rfl ?_
    refine QD.ev T (by decide) rfl rfl ?_
    refine QD.ev T (by decide) rfl rfl ?_
    refine QD.e (Ev.addK (r := ((cu.length : Nat) : Int)) rfl rfl (by rw [wI (by omega) (by omega)]; omega)) (by decide) rfl ?_
    refine QD.e ((Ev.sliceHi' T rfl rfl rfl rfl (by omega) (by omega)).as (show _ = Value.slice (some ⟨B, 0, none⟩) cu.length (cu.length + xr.length) from by rw [Int.toNat_natCast, hCC])) (by decide) rfl ?_
    refine QD.ev T (by decide) rfl rfl ?_
    refine QD.nil (hZ _ ?_)
    clear hZ Z
    repeat (first | refine Run.seq ?_)
    refine Run.regionO (D := [some 35, some 36]) [true, true] rfl rfl rfl (fun Z hZ => ?_)
    refine QD.ev T (by decide) rfl rfl ?_
    refine QD.e (Ev.neqNil T rfl rfl rfl rfl rfl) (by decide) rfl ?_
    refine QD.nil (hZ _ ?_)
    clear hZ Z
    repeat (first | refine Run.seq ?_ | refine Run.skip ?_ | refine Run.cond_f rfl ?_)
    have hGc1 := hGc.mono l1
    by_cases hfull : xr.length < (cu.length + xr.length) / 16
    · skip
      refine Run.regionO (D := [some 67, some 68, some 69, some 70, some 71, some 72, some 73, some 74, some 75]) [true, true, true, true, true, true, true, true, true] rfl rfl rfl (fun Z hZ => ?_)
      refine QD.ev T (by decide) rfl rfl ?_
      refine QD.e (Ev.capV T rfl rfl) (by decide) rfl ?_
      refine QD.ev T (by decide) rfl rfl ?_
      refine QD.ev T (by decide) rfl rfl ?_
      refine QD.e (Ev.subK (r := ((xr.length : Nat) : Int)) rfl rfl (by rw [wI (by omega) (by omega)]; omega)) (by decide) rfl ?_
      refine QD.ev T (by decide) rfl rfl ?_
      refine QD.e (Ev.capV T rfl rfl) (by decide) rfl ?_
      refine QD.e (Ev.quoI rfl rfl (by decide) ((congrArg IntKind.i64.wrap (Int.tdiv_eq_ediv_of_nonneg (by first | omega | (simp only [List.length_cons, List.length_nil] ; omega) | (simp; omega)))).trans (wI (by first | omega | (simp only [List.length_cons, List.length_nil] ; omega) | (simp; omega)) (by first | omega | (simp only [List.length_cons, List.length_nil] ; omega) | (simp; omega))))) (by decide) rfl ?_
      refine qt (Ev.lss rfl rfl) (by omega) dc rfl ?_
      refine QD.nil (hZ _ ?_)
      clear hZ Z
      repeat (first | refine Run.seq ?_ | refine Run.cond_t rfl ?_)
      obtain ⟨Ac, cc, rfl⟩ := hGc1.isSl
      refine Run.freezeAt 0 rfl rfl fun J2 l2 hB => ?_
      have hcur := sl_cur hB (by omega) (Nat.le_refl _)
      have hGc2 := hGc1.mono l2
      clear hB
      refine Run.region ?_
      refine Ops.pure T rfl (by decide) rfl ?_
      refine Ops.pure T rfl (by decide) rfl ?_
      refine Ops.lit T rfl rfl rfl (by decide) rfl (by decide) (by decide) rfl rfl rfl rfl rfl (fun bq => ?_)
      refine Ops.appOne (N := [_]) el261 hGc2 ⟨_, rfl, hcur⟩ rfl (by decide) rfl rfl rfl rfl (by omega) (by omega) fun vc3 Mc3 hGc3 => ?_
      refine Ops.pure T rfl (by decide) rfl ?_
      refine Ops.nil ?_
      repeat (first | refine Run.seq ?_)
      refine Run.regionO (D := [some 80, some 81, some 82, some 83, some 7]) [true, true, true, true, true] rfl rfl rfl (fun Z hZ => ?_)
      refine QD.ev T (by decide) rfl rfl ?_
      refine QD.ev T (by decide) rfl rfl ?_
      refine QD.ev T (by decide) rfl rfl ?_
      refine QD.e (Ev.addK (r := (((cl ++ [cu]).flatten.length : Nat) : Int)) rfl rfl (by rw [wI (by omega) (by omega)]; simp)) (by decide) rfl ?_
      refine QD.ev T (by decide) rfl rfl ?_
      refine QD.nil (hZ _ ?_)
      clear hZ Z
      repeat (first | refine Run.seq ?_)
      refine Run.region ?_
      refine Ops.pure T rfl (by decide) rfl ?_
      refine Ops.appMake (q := nx) btB underlying3 rfl (by decide) rfl rfl (by omega) (by omega) fun b2 c2 hc2 hc3 => ?_
      refine Ops.ev ((Ev.sliceHi' T rfl rfl rfl rfl (by omega) (by omega)).as (show _ = Value.slice (some ⟨b2, 0, none⟩) 0 c2 from rfl)) rfl (by decide) ?_
      refine Ops.pure T rfl (by decide) rfl ?_
      refine Ops.nil ?_
      skip
      refine Run.regionO (D := [some 87, some 88, some 89, some 90, some 5]) [true, true, true, true, true] rfl rfl rfl (fun Z hZ => ?_)
      refine QD.ev T (by decide) rfl rfl ?_
      refine QD.ev T (by decide) rfl rfl ?_
      refine QD.e ((Ev.quoI rfl rfl (by decide) ((congrArg IntKind.i64.wrap (Int.tdiv_eq_ediv_of_nonneg (by omega))).trans (wI (by omega) (by omega)))).as (show _ = Value.int .i64 ((nx / 2 : Nat) : Int) from congrArg (Value.int .i64) (by omega))) (by decide) rfl ?_
      refine QD.e (Ev.addK (r := ((nx + nx / 2 : Nat) : Int)) rfl rfl (by rw [wI (by omega) (by omega)]; omega)) (by decide) rfl ?_
      refine QD.ev T (by decide) rfl rfl ?_
      refine QD.nil (hZ _ ?_)
      clear hZ Z
      repeat (first | refine Run.inBlock ?_)
      refine Run.keep [0, 4, 5, 6, 7] [_, _, _, _, _] rfl ?_
      rw [bobj_zero b2]
      have hrl : (List.replicate c2 (0 : UInt8)).length = c2 := List.length_replicate
      have hfl : (cl ++ [cu]).flatten.length = cl.flatten.length + cu.length := by simp
      generalize List.replicate c2 (0 : UInt8) = zs at *
      refine ih (s.length - (i + q)) _ _ _ (by omega) ⟨i + q, b2, [], zs, -1, nx + nx / 2, cl ++ [cu], vc3, Mc3, rfl, by omega, by rw [htk']; simp, by simp only [List.length_nil]; omega, by simp only [List.length_nil]; omega, by simp only [List.length_nil]; omega, by omega, by omega, by simp only [List.length_nil]; omega, by rw [hfl, List.length_append, List.length_singleton]; omega, hGc3, ?_, rfl, (hle.trans l1).trans l2⟩
      rw [List.length_nil, Nat.zero_add, hrl]
      rfl
    · skip
      refine Run.regionO (D := [some 67, some 68, some 69, some 70, some 71, some 72, some 73, some 74, some 75]) [true, true, true, true, true, true, true, true, true] rfl rfl rfl (fun Z hZ => ?_)
      refine QD.ev T (by decide) rfl rfl ?_
      refine QD.e (Ev.capV T rfl rfl) (by decide) rfl ?_
      refine QD.ev T (by decide) rfl rfl ?_
      refine QD.ev T (by decide) rfl rfl ?_
      refine QD.e (Ev.subK (r := ((xr.length : Nat) : Int)) rfl rfl (by rw [wI (by omega) (by omega)]; omega)) (by decide) rfl ?_
      refine QD.ev T (by decide) rfl rfl ?_
      refine QD.e (Ev.capV T rfl rfl) (by decide) rfl ?_
      refine QD.e (Ev.quoI rfl rfl (by decide) ((congrArg IntKind.i64.wrap (Int.tdiv_eq_ediv_of_nonneg (by first | omega | (simp only [List.length_cons, List.length_nil] ; omega) | (simp; omega)))).trans (wI (by first | omega | (simp only [List.length_cons, List.length_nil] ; omega) | (simp; omega)) (by first | omega | (simp only [List.length_cons, List.length_nil] ; omega) | (simp; omega))))) (by decide) rfl ?_
      refine qf (Ev.lss rfl rfl) (by omega) dc rfl ?_
      refine QD.nil (hZ _ ?_)
      clear hZ Z
      repeat (first | refine Run.skip ?_ | refine Run.inBlock ?_ | refine Run.cond_f rfl ?_)
      refine Run.keep [0, 4, 5, 6, 7] [_, _, _, _, _] rfl ?_
      exact ih (s.length - (i + q)) _ _ _ (by omega) ⟨i + q, B, cu, xr, -1, nx, cl, vc, Mc, rfl, by omega, htk', by omega, by omega, by omega, hnx, hnx0, by omega, hcl, hGc1, rfl, rfl, hle.trans l1⟩
end Go.V
namespace Go.V
open Go.Proofs.Tryz
open Go.RowKit
set_option linter.unusedVariables false
set_option linter.unusedSimpArgs false
set_option maxRecDepth 10000
attribute [local irreducible] Run Ops QD
set_option maxHeartbeats 1000000 in
theorem zz_Decode {R : Imm → Own → Prop} (I : Imm) (hU : UT I) (s : Bs) (hs : s.length ≤ 137438953472) (r x : Nat) (pr : Int) (a0 : Addr) (hE : At I 2 0 [eofV a0]) (o : Obj) (tt : TypeId) (F : FuncId) (v : JV) (t : Bs) (hv : rdV 10000 s = some (v, t))
    (hmeth : ∀ u w, (method (prog.types.size + Made.depth) tt u "ZzTake").run prog w = .ok (F, u) w) (hcall : ∀ args w, (callFunc F args).run prog w = .ok (.enter F args) w)
    (htake : ∀ J cs, Le I J → (tJV (10000 + 1)).rel J cs v → Spec prog F [.pointer (some ⟨x, 0, none⟩), .agg cs.toArray] J [(x, o)] fun w J' M => w = .bool true ∧ R J' M) :
    Spec prog 81 [.iface 90 (.pointer (some ⟨r, 0, none⟩)), .iface tt (.pointer (some ⟨x, 0, none⟩))] I [(r, rdO s 0 pr), (x, o)] fun w J M => w = .nilIface ∧ R J M := by
  refine Spec.enter 60 [(0, _), (1, _)] func81 rfl ntmps81 (by simp) rfl ?_
  intro C hCf hR hCI
  repeat (first | refine Run.seq ?_)
  refine Run.regionO (D := [some 4]) [true] rfl rfl rfl (fun Z hZ => ?_)
  refine QD.ev T (by decide) rfl rfl ?_
  refine QD.nil (hZ _ ?_)
  clear hZ Z
  repeat (first | refine Run.seq ?_)
  refine Run.regionP (D := [some 11, some 12, some 10, some 13, some 14, some 5, some 6]) [true] 1 rfl rfl rfl (by simp only [List.drop_succ_cons, List.drop_zero]; rfl) (fun Z hZ => ?_)
  refine QD.ev T (by decide) rfl rfl ?_
  refine QD.nil (hZ _ ?_)
  clear hZ Z
  refine Ops.callP (M := [(r, rdO s 0 pr)]) (N := [(x, o)]) (io_ReadAll I s r pr a0 hE (by omega)) (List.Perm.swap _ _ _) rfl (by decide) call119 rfl ?_
  rintro y J1 M1 l1 ⟨w, db, off, c, rfl, hR0, rfl⟩
  have hV : ∀ r, _ := fun r => reader_value 10000 s J1 s w db off c r 0 (hU.mono l1) hR0 (Sfx.refl s) hs rfl
  obtain rfl := hR0.eq
  rw [hv] at hV
  have h0 : posR s s = 0 := by unfold posR; omega
  rw [h0] at hV
  refine Ops.pure T rfl (by decide) rfl ?_
  refine Ops.pure T rfl (by decide) rfl ?_
  refine Ops.pure T rfl (by decide) rfl ?_
  refine Ops.pure T rfl (by decide) rfl ?_
  refine Ops.pure T rfl (by decide) rfl ?_
  refine Ops.nil ?_
  repeat (first | refine Run.seq ?_)
  refine Run.region ?_
  refine Ops.pure T rfl (by decide) rfl ?_
  refine Ops.buildL bd227 rfl (by decide) rfl rfl ?_
  refine Ops.box rfl (by decide) rfl rfl (fun rb => ?_)
  refine Ops.pure T rfl (by decide) rfl ?_
  refine Ops.nil ?_
  repeat (first | refine Run.seq ?_)
  refine Run.regionP (D := [some 19, some 20, some 18, some 21, some 22, some 8, none, some 9]) [true] 1 rfl rfl rfl (by simp only [List.drop_succ_cons, List.drop_zero]; rfl) (fun Z hZ => ?_)
  refine QD.ev T (by decide) rfl rfl ?_
  refine QD.nil (hZ _ ?_)
  clear hZ Z
  refine Ops.callP (N := [(x, o)]) (hV rb) (List.Perm.swap _ _ _) rfl (by decide) call120 rfl ?_
  rintro y J2 M2 l2 ⟨cs, rfl, hrel, rfl⟩
  have hrel0 := hrel
  obtain ⟨wk, wn, rfl, hwk, hwn⟩ := hrel
  obtain ⟨A3, z3, rfl⟩ := hwk.isSl
  obtain ⟨A4, z4, rfl⟩ := hwn.isSl
  refine Ops.pure T rfl (by decide) rfl ?_
  refine Ops.pure T rfl (by decide) rfl ?_
  refine Ops.pure T rfl (by decide) rfl ?_
  refine Ops.alloc rfl (by decide) (T.zeroOk rfl) rfl (fun b8 => ?_)
  first | refine Ops.store 0 rfl rfl rfl rfl rfl (T.sizeOk rfl) rfl (Nat.le_of_ble_eq_true rfl) rfl rfl ?_ | refine Ops.store 1 rfl rfl rfl rfl rfl (T.sizeOk rfl) rfl (Nat.le_of_ble_eq_true rfl) rfl rfl ?_ | refine Ops.store 2 rfl rfl rfl rfl rfl (T.sizeOk rfl) rfl (Nat.le_of_ble_eq_true rfl) rfl rfl ?_
  refine Ops.pure T rfl (by decide) rfl ?_
  refine Ops.nil ?_
  repeat (first | refine Run.seq ?_)
  refine Run.regionO (D := [some 23, some 24]) [true, true] rfl rfl rfl (fun Z hZ => ?_)
  refine QD.ev T (by decide) rfl rfl ?_
  refine QD.ev T (by decide) rfl rfl ?_
  refine QD.nil (hZ _ ?_)
  clear hZ Z
  repeat (first | refine Run.seq ?_ | refine Run.skip ?_ | refine Run.cond_f rfl ?_)
  refine Run.regionP (D := [some 55, some 56, some 57, some 58]) [true, true] 2 rfl rfl rfl (by simp only [List.drop_succ_cons, List.drop_zero]; rfl) (fun Z hZ => ?_)
  refine QD.ev T (by decide) rfl rfl ?_
  first | refine QD.yv (by decide) rfl (Yv.loadN 0 T rfl rfl rfl rfl rfl rfl) ?_ | refine QD.yv (by decide) rfl (Yv.loadN 1 T rfl rfl rfl rfl rfl rfl) ?_ | refine QD.yv (by decide) rfl (Yv.loadN 2 T rfl rfl rfl rfl rfl rfl) ?_
  refine QD.nil (hZ _ ?_)
  clear hZ Z
  refine Ops.eff rfl (dOk (by decide)) (Eff.invokeM (M := [(x, o)]) (N := [(b8, _), (rb, _)]) (htake J2 _ (l1.trans l2) hrel0) (List.Perm.swap _ _ _) hcall rfl (hmeth _) rfl fun y J3 M' l3 hw => ?_)
  obtain ⟨rfl, hR3⟩ := hw
  refine Ops.pure T rfl (by decide) rfl ?_
  refine Ops.nil ?_
  repeat (first | refine Run.seq ?_ | refine Run.skip ?_ | refine Run.cond_f rfl ?_)
  refine Run.regionO (D := [some 4]) [true] rfl rfl rfl (fun Z hZ => ?_)
  refine QD.ev T (by decide) rfl rfl ?_
  refine QD.nil (hZ _ ?_)
  clear hZ Z
  skip
  refine Run.dropL (L' := M') (List.sublist_append_left _ _) ?_
  refine Run.ret1 (by rw [hCf]; exact func81) results81 rfl (hR _ _ _ ?_)
  exact ⟨rfl, hR3⟩
end Go.V
namespace Go.V
open Go.Proofs.Tryz
open Go.RowKit
set_option linter.unusedVariables false
set_option linter.unusedSimpArgs false
set_option maxRecDepth 10000
attribute [local irreducible] Run Ops QD
theorem zz_KeysNil (I : Imm) : Pure prog 128 [.map none] I fun w J => w = .slice none 0 0 := by
  refine Spec.enter 57 [(0, _)] func128 rfl ntmps128 (by simp) rfl ?_
  intro C hCf hR hCI
  repeat (first | refine Run.seq ?_)
  refine Run.regionO (D := [some 2]) [true] rfl rfl rfl (fun Z hZ => ?_)
  refine QD.ev T (by decide) rfl rfl ?_
  refine QD.nil (hZ _ ?_)
  clear hZ Z
  repeat (first | refine Run.seq ?_)
  refine Run.regionO (D := [some 3]) [true] rfl rfl rfl (fun Z hZ => ?_)
  refine QD.ev T (by decide) rfl rfl ?_
  refine QD.nil (hZ _ ?_)
  clear hZ Z
  repeat (first | refine Run.seq ?_)
  refine Run.region ?_
  refine Ops.pure T rfl (by decide) rfl ?_
  refine Ops.rangeNil T rfl (by decide) rfl rfl fun r => ?_
  refine Ops.nil ?_
  repeat (first | refine Run.block ?_)
  refine Run.loop ?_
  repeat (first | refine Run.seq ?_)
  refine Run.region ?_
  refine Ops.nextNil 0 rfl (by decide) rfl rfl ?_
  refine Ops.pure T rfl (by decide) rfl ?_
  refine Ops.nil ?_
  repeat (first | refine Run.seq ?_ | refine Run.exit rfl ?_ | refine Run.cond_f rfl ?_)
  refine Run.regionO (D := [some 5]) [true] rfl rfl rfl (fun Z hZ => ?_)
  refine QD.ev T (by decide) rfl rfl ?_
  refine QD.nil (hZ _ ?_)
  clear hZ Z
  repeat (first | refine Run.block ?_)
  refine Run.loop ?_
  repeat (first | refine Run.seq ?_)
  refine Run.regionO (D := [some 17, some 18, some 19, some 20]) [true, true, true, true] rfl rfl rfl (fun Z hZ => ?_)
  refine QD.ev T (by decide) rfl rfl ?_
  refine QD.ev T (by decide) rfl rfl ?_
  refine QD.ev T (by decide) rfl rfl ?_
  refine QD.e (Ev.lss rfl rfl) (by decide) rfl ?_
  refine QD.nil (hZ _ ?_)
  clear hZ Z
  repeat (first | refine Run.seq ?_ | refine Run.exit rfl ?_ | refine Run.cond_f rfl ?_)
  refine Run.regionO (D := [some 56, some 2]) [true, true] rfl rfl rfl (fun Z hZ => ?_)
  refine QD.ev T (by decide) rfl rfl ?_
  refine QD.ev T (by decide) rfl rfl ?_
  refine QD.nil (hZ _ ?_)
  clear hZ Z
  skip
  refine Run.fin (Run.ret1 (by rw [hCf]; exact func128) results128 rfl (hR _ _ _ ?_))
  exact ⟨rfl, rfl⟩
theorem impl_pairsOfNil (I : Imm) : Pure prog 99 [.map none] I fun w J => w = .slice none 0 0 := by
  refine Spec.enter 25 [(0, _)] func99 rfl ntmps99 (by simp) rfl ?_
  intro C hCf hR hCI
  repeat (first | refine Run.seq ?_)
  refine Run.regionO (D := [some 2]) [true] rfl rfl rfl (fun Z hZ => ?_)
  refine QD.ev T (by decide) rfl rfl ?_
  refine QD.nil (hZ _ ?_)
  clear hZ Z
  repeat (first | refine Run.seq ?_)
  refine Run.regionO (D := [some 5, some 6]) [true, true] rfl rfl rfl (fun Z hZ => ?_)
  refine QD.ev T (by decide) rfl rfl ?_
  refine QD.e (Ev.neqNil T rfl rfl rfl rfl rfl) (by decide) rfl ?_
  refine QD.nil (hZ _ ?_)
  clear hZ Z
  repeat (first | refine Run.seq ?_ | refine Run.skip ?_ | refine Run.cond_f rfl ?_)
  refine Run.regionP (D := [some 8, some 9, some 10, some 11]) [true] 1 rfl rfl rfl (by simp only [List.drop_succ_cons, List.drop_zero]; rfl) (fun Z hZ => ?_)
  refine QD.ev T (by decide) rfl rfl ?_
  refine QD.nil (hZ _ ?_)
  clear hZ Z
  refine Ops.call ((zz_KeysNil I)) rfl (by decide) call128 rfl ?_
  rintro _ J l rfl
  refine Ops.pure T rfl (by decide) rfl ?_
  refine Ops.pure T rfl (by decide) rfl ?_
  refine Ops.nil ?_
  repeat (first | refine Run.block ?_)
  refine Run.loop ?_
  repeat (first | refine Run.seq ?_)
  refine Run.regionO (D := [some 12]) [true] rfl rfl rfl (fun Z hZ => ?_)
  refine QD.e (Ev.lss rfl rfl) (by decide) rfl ?_
  refine QD.nil (hZ _ ?_)
  clear hZ Z
  repeat (first | refine Run.seq ?_ | refine Run.exit rfl ?_ | refine Run.cond_f rfl ?_)
  refine Run.regionO (D := [some 24, some 2]) [true, true] rfl rfl rfl (fun Z hZ => ?_)
  refine QD.ev T (by decide) rfl rfl ?_
  refine QD.ev T (by decide) rfl rfl ?_
  refine QD.nil (hZ _ ?_)
  clear hZ Z
  skip
  refine Run.fin (Run.ret1 (by rw [hCf]; exact func99) results99 rfl (hR _ _ _ ?_))
  exact ⟨rfl, rfl⟩
end Go.V
namespace Go.V
open Go.Proofs.Tryz
open Go.RowKit
set_option linter.unusedVariables false
set_option linter.unusedSimpArgs false
set_option maxRecDepth 10000
attribute [local irreducible] Run Ops
theorem zz_KeysNilS (I : Imm) : Pure prog 144 [.map none] I fun w J => w = .slice none 0 0 := by
  refine Spec.enter 57 [(0, _)] func144 rfl ntmps144 (by simp) rfl ?_
  intro C hCf hR hCI
  repeat (first | refine Run.seq ?_ | refine Run.region ?_ | refine Ops.nil ?_ | refine Ops.pure T rfl (by decide) rfl ?_)
  refine Ops.rangeNil T rfl (by decide) rfl rfl fun r => ?_
  repeat (first | refine Ops.nil ?_ | refine Run.block ?_)
  refine Run.loop ?_
  repeat (first | refine Run.seq ?_ | refine Run.region ?_)
  refine Ops.nextNil 0 rfl (by decide) rfl rfl ?_
  repeat (first | refine Run.seq ?_ | refine Run.region ?_ | refine Ops.nil ?_ | refine Run.block ?_ | refine Run.exit rfl ?_ | refine Run.cond_f rfl ?_ | refine Ops.pure T rfl (by decide) rfl ?_)
  refine Run.loop ?_
  repeat (first | refine Run.seq ?_ | refine Run.region ?_ | refine Ops.nil ?_ | refine Run.exit rfl ?_ | refine Run.cond_f rfl ?_ | refine Ops.lss rfl (by decide) rfl rfl ?_ | refine Ops.pure T rfl (by decide) rfl ?_)
  refine Run.fin (Run.ret1 (by rw [hCf]; exact func144) results144 rfl (hR _ _ _ ?_))
  exact ⟨rfl, rfl⟩
theorem impl_keysOfNil (I : Imm) : Pure prog 123 [.map none] I fun w J => ∃ A n c, w = .slice A n c := by
  refine Spec.enter 10 [(0, _)] func123 rfl ntmps123 (by simp) rfl ?_
  intro C hCf hR hCI
  repeat (first | refine Run.seq ?_ | refine Run.region ?_ | refine Ops.nil ?_ | refine Run.skip ?_ | refine Run.cond_f rfl ?_ | refine Ops.neqNil T rfl (by decide) rfl rfl rfl rfl rfl ?_ | refine Ops.pure T rfl (by decide) rfl ?_)
  refine Ops.call ((zz_KeysNilS I)) rfl (by decide) call144 rfl ?_
  rintro _ J l rfl
  skip
  refine Ops.appSl (N := []) el24 (Gr.nil tStr J _) (Sl.nil tStr J) (fun _ h => h.one_str) rfl (by decide) rfl rfl rfl (by simp) (by simp) ?_
  rintro v' M' hG
  obtain ⟨A, c, e⟩ := hG.isSl
  subst e
  refine Ops.dropL (L' := []) (List.nil_sublist _) ?_
  repeat (first | refine Ops.nil ?_ | refine Ops.pure T rfl (by decide) rfl ?_)
  refine Run.fin (Run.ret1 (by rw [hCf]; exact func123) results123 rfl (hR _ _ _ ?_))
  exact ⟨rfl, _, _, _, rfl⟩
theorem zz_TimeUnix0 (I : Imm) : Pure prog 122 [.agg #[.int .i64 0, .int .i64 0, .int .i64 0]] I fun w J => w = .int .i64 (-62135596800) := by
  refine Spec.enter 6 [(0, _)] func122 rfl ntmps122 (by simp) rfl ?_
  intro C hCf hR hCI
  repeat (first | refine Run.seq ?_ | refine Run.region ?_)
  refine Ops.box rfl (by decide) rfl rfl (fun b => ?_)
  repeat (first | refine Run.seq ?_ | refine Run.region ?_ | refine Ops.nil ?_ | refine Ops.sub rfl (by decide) rfl rfl (wI (by first | omega | (simp only [List.length_cons, List.length_nil] ; omega) | (simp; omega)) (by first | omega | (simp only [List.length_cons, List.length_nil] ; omega) | (simp; omega))) ?_ | refine Ops.pure T rfl (by decide) rfl ?_ | refine Ops.load 0 rfl (by decide) rfl rfl (T.aggOk rfl) rfl ?_)
  refine Run.fin (Run.ret1 (by rw [hCf]; exact func122) results122 rfl (hR _ _ _ ?_))
  exact ⟨rfl, rfl⟩
theorem impl_timeOf0 (I : Imm) : Pure prog 82 [.agg #[.int .i64 0, .int .i64 0, .int .i64 0]] I fun w J => w = .int .i64 (-62135596800) := by
  refine Spec.enter 6 [(0, _)] func82 rfl ntmps82 (by simp) rfl ?_
  intro C hCf hR hCI
  repeat (first | refine Run.seq ?_ | refine Run.region ?_)
  refine Ops.box rfl (by decide) rfl rfl (fun b => ?_)
  repeat (first | refine Run.seq ?_ | refine Run.region ?_ | refine Ops.nil ?_ | refine Ops.pure T rfl (by decide) rfl ?_ | refine Ops.loadN 0 rfl (by decide) rfl rfl (T.aggOk rfl) (T.sizeOk rfl) rfl rfl ?_)
  refine Ops.call ((zz_TimeUnix0 I)) rfl (by decide) call122 rfl ?_
  rintro _ J l rfl
  repeat (first | refine Ops.nil ?_ | refine Ops.pure T rfl (by decide) rfl ?_)
  refine Run.fin (Run.ret1 (by rw [hCf]; exact func82) results82 rfl (hR _ _ _ ?_))
  exact ⟨rfl, rfl⟩
abbrev nilS : Value := .slice none 0 0
def zCo : List Value := [.bool false, .bool false, .bool false, nilS, .pointer none, str [], nilS, nilS, str [], str [], .map none, nilS, .bool false, .bool false, .bool false, str [], .map none, str [], .map none, .bool false, .bool false, str [], str [], nilS]
def zSt : St := ⟨false, false, false, false, false, false, false, false, [], [], [], [], [], [], [], [], [], [], [], [], [], [], [], []⟩
def zSV : SV := ⟨⟨none, 0, 0⟩, ⟨none, 0, 0⟩, ⟨none, 0, 0⟩, ⟨none, 0, 0⟩, ⟨none, 0, 0⟩, ⟨none, 0, 0⟩, ⟨none, 0, 0⟩, ⟨none, 0, 0⟩, ⟨none, 0, 0⟩⟩
set_option maxHeartbeats 4000000 in
theorem impl_settingsOf0 (I : Imm) : Pure prog 83 [.agg zCo.toArray] I fun w J => ∃ v, w = .agg (zSt.cs v).toArray := by
  refine Spec.enter 83 [(0, _)] func83 rfl ntmps83 (by simp) rfl ?_
  intro C hCf hR hCI
  repeat (first | refine Run.seq ?_ | refine Run.region ?_)
  refine Ops.box rfl (by decide) rfl rfl (fun b => ?_)
  refine Ops.alloc rfl (by decide) (T.zeroOk rfl) rfl (fun b2 => ?_)
  repeat (first | refine Run.seq ?_ | refine Ops.nil ?_)
  refine Run.piece (fun env' L' I' => ∃ (b3 : Nat) (v : SV), env' = [(1, .pointer (some ⟨b, 0, none⟩)), (2, .pointer (some ⟨b2, 0, none⟩)), (3, .pointer (some ⟨b3, 0, none⟩))] ∧ L' = [(b3, blk (zSt.cs v) 28), (b2, blk (zSt.cs zSV) 28), (b, blk zCo 105)] ∧ Le I I') ?_ ?_
  · intro k' fin
    refine Run.regionAny (Holds I [(b2, blk (zSt.cs zSV) 28), (b, blk zCo 105)]) (bl 52 0) (by kernel_rfl) (by kernel_rfl) ?_
    refine RAny.tk 0 (bl 52 1) rfl (by kernel_rfl) (by decide) (fun W h => h.holds (Le.refl _) (by first | exact mp rfl | exact mq rfl)) (Yld.eval T rfl rfl) ?_
    first | refine RAny.tk 1 (bl 52 3) rfl (by kernel_rfl) (by decide) (fun W h => h.holds (Le.refl _) (by first | exact mp rfl | exact mq rfl)) (Yld.load 0 T rfl rfl rfl rfl rfl) ?_ | refine RAny.tk 1 (bl 52 3) rfl (by kernel_rfl) (by decide) (fun W h => h.holds (Le.refl _) (by first | exact mp rfl | exact mq rfl)) (Yld.load 1 T rfl rfl rfl rfl rfl) ?_ | refine RAny.tk 1 (bl 52 3) rfl (by kernel_rfl) (by decide) (fun W h => h.holds (Le.refl _) (by first | exact mp rfl | exact mq rfl)) (Yld.load 2 T rfl rfl rfl rfl rfl) ?_
    refine RAny.tk 2 (bl 52 7) rfl (by kernel_rfl) (by decide) (fun W h => h.holds (Le.refl _) (by first | exact mp rfl | exact mq rfl)) (Yld.eval T rfl rfl) ?_
    first | refine RAny.tk 3 (bl 52 15) rfl (by kernel_rfl) (by decide) (fun W h => h.holds (Le.refl _) (by first | exact mp rfl | exact mq rfl)) (Yld.load 0 T rfl rfl rfl rfl rfl) ?_ | refine RAny.tk 3 (bl 52 15) rfl (by kernel_rfl) (by decide) (fun W h => h.holds (Le.refl _) (by first | exact mp rfl | exact mq rfl)) (Yld.load 1 T rfl rfl rfl rfl rfl) ?_ | refine RAny.tk 3 (bl 52 15) rfl (by kernel_rfl) (by decide) (fun W h => h.holds (Le.refl _) (by first | exact mp rfl | exact mq rfl)) (Yld.load 2 T rfl rfl rfl rfl rfl) ?_
    refine RAny.tk 4 (bl 52 31) rfl (by kernel_rfl) (by decide) (fun W h => h.holds (Le.refl _) (by first | exact mp rfl | exact mq rfl)) (Yld.eval T rfl rfl) ?_
    first | refine RAny.tk 5 (bl 52 63) rfl (by kernel_rfl) (by decide) (fun W h => h.holds (Le.refl _) (by first | exact mp rfl | exact mq rfl)) (Yld.load 0 T rfl rfl rfl rfl rfl) ?_ | refine RAny.tk 5 (bl 52 63) rfl (by kernel_rfl) (by decide) (fun W h => h.holds (Le.refl _) (by first | exact mp rfl | exact mq rfl)) (Yld.load 1 T rfl rfl rfl rfl rfl) ?_ | refine RAny.tk 5 (bl 52 63) rfl (by kernel_rfl) (by decide) (fun W h => h.holds (Le.refl _) (by first | exact mp rfl | exact mq rfl)) (Yld.load 2 T rfl rfl rfl rfl rfl) ?_
    refine RAny.tk 6 (bl 52 127) rfl (by kernel_rfl) (by decide) (fun W h => h.holds (Le.refl _) (by first | exact mp rfl | exact mq rfl)) (Yld.eval T rfl rfl) ?_
    first | refine RAny.tk 7 (bl 52 255) rfl (by kernel_rfl) (by decide) (fun W h => h.holds (Le.refl _) (by first | exact mp rfl | exact mq rfl)) (Yld.load 0 T rfl rfl rfl rfl rfl) ?_ | refine RAny.tk 7 (bl 52 255) rfl (by kernel_rfl) (by decide) (fun W h => h.holds (Le.refl _) (by first | exact mp rfl | exact mq rfl)) (Yld.load 1 T rfl rfl rfl rfl rfl) ?_ | refine RAny.tk 7 (bl 52 255) rfl (by kernel_rfl) (by decide) (fun W h => h.holds (Le.refl _) (by first | exact mp rfl | exact mq rfl)) (Yld.load 2 T rfl rfl rfl rfl rfl) ?_
    refine RAny.tk 8 (bl 52 511) rfl (by kernel_rfl) (by decide) (fun W h => h.holds (Le.refl _) (by first | exact mp rfl | exact mq rfl)) (Yld.eval T rfl rfl) ?_
    first | refine RAny.tk 9 (bl 52 1023) rfl (by kernel_rfl) (by decide) (fun W h => h.holds (Le.refl _) (by first | exact mp rfl | exact mq rfl)) (Yld.load 0 T rfl rfl rfl rfl rfl) ?_ | refine RAny.tk 9 (bl 52 1023) rfl (by kernel_rfl) (by decide) (fun W h => h.holds (Le.refl _) (by first | exact mp rfl | exact mq rfl)) (Yld.load 1 T rfl rfl rfl rfl rfl) ?_ | refine RAny.tk 9 (bl 52 1023) rfl (by kernel_rfl) (by decide) (fun W h => h.holds (Le.refl _) (by first | exact mp rfl | exact mq rfl)) (Yld.load 2 T rfl rfl rfl rfl rfl) ?_
    refine RAny.tk 10 (bl 52 2047) rfl (by kernel_rfl) (by decide) (fun W h => h.holds (Le.refl _) (by first | exact mp rfl | exact mq rfl)) (Yld.eval T rfl rfl) ?_
    first | refine RAny.tk 11 (bl 52 4095) rfl (by kernel_rfl) (by decide) (fun W h => h.holds (Le.refl _) (by first | exact mp rfl | exact mq rfl)) (Yld.load 0 T rfl rfl rfl rfl rfl) ?_ | refine RAny.tk 11 (bl 52 4095) rfl (by kernel_rfl) (by decide) (fun W h => h.holds (Le.refl _) (by first | exact mp rfl | exact mq rfl)) (Yld.load 1 T rfl rfl rfl rfl rfl) ?_ | refine RAny.tk 11 (bl 52 4095) rfl (by kernel_rfl) (by decide) (fun W h => h.holds (Le.refl _) (by first | exact mp rfl | exact mq rfl)) (Yld.load 2 T rfl rfl rfl rfl rfl) ?_
    refine RAny.tk 12 (bl 52 8191) rfl (by kernel_rfl) (by decide) (fun W h => h.holds (Le.refl _) (by first | exact mp rfl | exact mq rfl)) (Yld.eval T rfl rfl) ?_
    first | refine RAny.tk 13 (bl 52 16383) rfl (by kernel_rfl) (by decide) (fun W h => h.holds (Le.refl _) (by first | exact mp rfl | exact mq rfl)) (Yld.load 0 T rfl rfl rfl rfl rfl) ?_ | refine RAny.tk 13 (bl 52 16383) rfl (by kernel_rfl) (by decide) (fun W h => h.holds (Le.refl _) (by first | exact mp rfl | exact mq rfl)) (Yld.load 1 T rfl rfl rfl rfl rfl) ?_ | refine RAny.tk 13 (bl 52 16383) rfl (by kernel_rfl) (by decide) (fun W h => h.holds (Le.refl _) (by first | exact mp rfl | exact mq rfl)) (Yld.load 2 T rfl rfl rfl rfl rfl) ?_
    refine RAny.tk 14 (bl 52 32767) rfl (by kernel_rfl) (by decide) (fun W h => h.holds (Le.refl _) (by first | exact mp rfl | exact mq rfl)) (Yld.eval T rfl rfl) ?_
    first | refine RAny.tk 15 (bl 52 65535) rfl (by kernel_rfl) (by decide) (fun W h => h.holds (Le.refl _) (by first | exact mp rfl | exact mq rfl)) (Yld.load 0 T rfl rfl rfl rfl rfl) ?_ | refine RAny.tk 15 (bl 52 65535) rfl (by kernel_rfl) (by decide) (fun W h => h.holds (Le.refl _) (by first | exact mp rfl | exact mq rfl)) (Yld.load 1 T rfl rfl rfl rfl rfl) ?_ | refine RAny.tk 15 (bl 52 65535) rfl (by kernel_rfl) (by decide) (fun W h => h.holds (Le.refl _) (by first | exact mp rfl | exact mq rfl)) (Yld.load 2 T rfl rfl rfl rfl rfl) ?_
    refine RAny.tk 16 (bl 52 131071) rfl (by kernel_rfl) (by decide) (fun W h => h.holds (Le.refl _) (by first | exact mp rfl | exact mq rfl)) (Yld.eval T rfl rfl) ?_
    first | refine RAny.tk 17 (bl 52 262143) rfl (by kernel_rfl) (by decide) (fun W h => h.holds (Le.refl _) (by first | exact mp rfl | exact mq rfl)) (Yld.load 0 T rfl rfl rfl rfl rfl) ?_ | refine RAny.tk 17 (bl 52 262143) rfl (by kernel_rfl) (by decide) (fun W h => h.holds (Le.refl _) (by first | exact mp rfl | exact mq rfl)) (Yld.load 1 T rfl rfl rfl rfl rfl) ?_ | refine RAny.tk 17 (bl 52 262143) rfl (by kernel_rfl) (by decide) (fun W h => h.holds (Le.refl _) (by first | exact mp rfl | exact mq rfl)) (Yld.load 2 T rfl rfl rfl rfl rfl) ?_
    refine RAny.tk 18 (bl 52 524287) rfl (by kernel_rfl) (by decide) (fun W h => h.holds (Le.refl _) (by first | exact mp rfl | exact mq rfl)) (Yld.eval T rfl rfl) ?_
    first | refine RAny.tk 19 (bl 52 1048575) rfl (by kernel_rfl) (by decide) (fun W h => h.holds (Le.refl _) (by first | exact mp rfl | exact mq rfl)) (Yld.load 0 T rfl rfl rfl rfl rfl) ?_ | refine RAny.tk 19 (bl 52 1048575) rfl (by kernel_rfl) (by decide) (fun W h => h.holds (Le.refl _) (by first | exact mp rfl | exact mq rfl)) (Yld.load 1 T rfl rfl rfl rfl rfl) ?_ | refine RAny.tk 19 (bl 52 1048575) rfl (by kernel_rfl) (by decide) (fun W h => h.holds (Le.refl _) (by first | exact mp rfl | exact mq rfl)) (Yld.load 2 T rfl rfl rfl rfl rfl) ?_
    refine RAny.tk 20 (bl 52 2097151) rfl (by kernel_rfl) (by decide) (fun W h => h.holds (Le.refl _) (by first | exact mp rfl | exact mq rfl)) (Yld.eval T rfl rfl) ?_
    first | refine RAny.tk 21 (bl 52 4194303) rfl (by kernel_rfl) (by decide) (fun W h => h.holds (Le.refl _) (by first | exact mp rfl | exact mq rfl)) (Yld.load 0 T rfl rfl rfl rfl rfl) ?_ | refine RAny.tk 21 (bl 52 4194303) rfl (by kernel_rfl) (by decide) (fun W h => h.holds (Le.refl _) (by first | exact mp rfl | exact mq rfl)) (Yld.load 1 T rfl rfl rfl rfl rfl) ?_ | refine RAny.tk 21 (bl 52 4194303) rfl (by kernel_rfl) (by decide) (fun W h => h.holds (Le.refl _) (by first | exact mp rfl | exact mq rfl)) (Yld.load 2 T rfl rfl rfl rfl rfl) ?_
    refine RAny.tk 22 (bl 52 8388607) rfl (by kernel_rfl) (by decide) (fun W h => h.holds (Le.refl _) (by first | exact mp rfl | exact mq rfl)) (Yld.eval T rfl rfl) ?_
    first | refine RAny.tk 23 (bl 52 16777215) rfl (by kernel_rfl) (by decide) (fun W h => h.holds (Le.refl _) (by first | exact mp rfl | exact mq rfl)) (Yld.load 0 T rfl rfl rfl rfl rfl) ?_ | refine RAny.tk 23 (bl 52 16777215) rfl (by kernel_rfl) (by decide) (fun W h => h.holds (Le.refl _) (by first | exact mp rfl | exact mq rfl)) (Yld.load 1 T rfl rfl rfl rfl rfl) ?_ | refine RAny.tk 23 (bl 52 16777215) rfl (by kernel_rfl) (by decide) (fun W h => h.holds (Le.refl _) (by first | exact mp rfl | exact mq rfl)) (Yld.load 2 T rfl rfl rfl rfl rfl) ?_
    refine RAny.tk 24 (bl 52 33554431) rfl (by kernel_rfl) (by decide) (fun W h => h.holds (Le.refl _) (by first | exact mp rfl | exact mq rfl)) (Yld.eval T rfl rfl) ?_
    first | refine RAny.tk 25 (bl 52 67108863) rfl (by kernel_rfl) (by decide) (fun W h => h.holds (Le.refl _) (by first | exact mp rfl | exact mq rfl)) (Yld.load 0 T rfl rfl rfl rfl rfl) ?_ | refine RAny.tk 25 (bl 52 67108863) rfl (by kernel_rfl) (by decide) (fun W h => h.holds (Le.refl _) (by first | exact mp rfl | exact mq rfl)) (Yld.load 1 T rfl rfl rfl rfl rfl) ?_ | refine RAny.tk 25 (bl 52 67108863) rfl (by kernel_rfl) (by decide) (fun W h => h.holds (Le.refl _) (by first | exact mp rfl | exact mq rfl)) (Yld.load 2 T rfl rfl rfl rfl rfl) ?_
    refine RAny.tk 26 (bl 52 134217727) rfl (by kernel_rfl) (by decide) (fun W h => h.holds (Le.refl _) (by first | exact mp rfl | exact mq rfl)) (Yld.eval T rfl rfl) ?_
    first | refine RAny.tk 27 (bl 52 268435455) rfl (by kernel_rfl) (by decide) (fun W h => h.holds (Le.refl _) (by first | exact mp rfl | exact mq rfl)) (Yld.load 0 T rfl rfl rfl rfl rfl) ?_ | refine RAny.tk 27 (bl 52 268435455) rfl (by kernel_rfl) (by decide) (fun W h => h.holds (Le.refl _) (by first | exact mp rfl | exact mq rfl)) (Yld.load 1 T rfl rfl rfl rfl rfl) ?_ | refine RAny.tk 27 (bl 52 268435455) rfl (by kernel_rfl) (by decide) (fun W h => h.holds (Le.refl _) (by first | exact mp rfl | exact mq rfl)) (Yld.load 2 T rfl rfl rfl rfl rfl) ?_
    refine RAny.tk 29 (bl 52 805306367) rfl (by kernel_rfl) (by decide) (fun W h => h.holds (Le.refl _) (by first | exact mp rfl | exact mq rfl)) (Yld.eval T rfl rfl) ?_
    first | refine RAny.tk 30 (bl 52 1879048191) rfl (by kernel_rfl) (by decide) (fun W h => h.holds (Le.refl _) (by first | exact mp rfl | exact mq rfl)) (Yld.load 0 T rfl rfl rfl rfl rfl) ?_ | refine RAny.tk 30 (bl 52 1879048191) rfl (by kernel_rfl) (by decide) (fun W h => h.holds (Le.refl _) (by first | exact mp rfl | exact mq rfl)) (Yld.load 1 T rfl rfl rfl rfl rfl) ?_ | refine RAny.tk 30 (bl 52 1879048191) rfl (by kernel_rfl) (by decide) (fun W h => h.holds (Le.refl _) (by first | exact mp rfl | exact mq rfl)) (Yld.load 2 T rfl rfl rfl rfl rfl) ?_
    refine RAny.tk 32 (bl 52 6174015487) rfl (by kernel_rfl) (by decide) (fun W h => h.holds (Le.refl _) (by first | exact mp rfl | exact mq rfl)) (Yld.eval T rfl rfl) ?_
    first | refine RAny.tk 33 (bl 52 14763950079) rfl (by kernel_rfl) (by decide) (fun W h => h.holds (Le.refl _) (by first | exact mp rfl | exact mq rfl)) (Yld.load 0 T rfl rfl rfl rfl rfl) ?_ | refine RAny.tk 33 (bl 52 14763950079) rfl (by kernel_rfl) (by decide) (fun W h => h.holds (Le.refl _) (by first | exact mp rfl | exact mq rfl)) (Yld.load 1 T rfl rfl rfl rfl rfl) ?_ | refine RAny.tk 33 (bl 52 14763950079) rfl (by kernel_rfl) (by decide) (fun W h => h.holds (Le.refl _) (by first | exact mp rfl | exact mq rfl)) (Yld.load 2 T rfl rfl rfl rfl rfl) ?_
    refine RAny.tk 34 (bl 52 31943819263) rfl (by kernel_rfl) (by decide) (fun W h => h.holds (Le.refl _) (by first | exact mp rfl | exact mq rfl)) (Yld.eval T rfl rfl) ?_
    first | refine RAny.tk 35 (bl 52 66303557631) rfl (by kernel_rfl) (by decide) (fun W h => h.holds (Le.refl _) (by first | exact mp rfl | exact mq rfl)) (Yld.load 0 T rfl rfl rfl rfl rfl) ?_ | refine RAny.tk 35 (bl 52 66303557631) rfl (by kernel_rfl) (by decide) (fun W h => h.holds (Le.refl _) (by first | exact mp rfl | exact mq rfl)) (Yld.load 1 T rfl rfl rfl rfl rfl) ?_ | refine RAny.tk 35 (bl 52 66303557631) rfl (by kernel_rfl) (by decide) (fun W h => h.holds (Le.refl _) (by first | exact mp rfl | exact mq rfl)) (Yld.load 2 T rfl rfl rfl rfl rfl) ?_
    refine RAny.tk 36 (bl 52 135023034367) rfl (by kernel_rfl) (by decide) (fun W h => h.holds (Le.refl _) (by first | exact mp rfl | exact mq rfl)) (Yld.eval T rfl rfl) ?_
    first | refine RAny.tk 37 (bl 52 272461987839) rfl (by kernel_rfl) (by decide) (fun W h => h.holds (Le.refl _) (by first | exact mp rfl | exact mq rfl)) (Yld.load 0 T rfl rfl rfl rfl rfl) ?_ | refine RAny.tk 37 (bl 52 272461987839) rfl (by kernel_rfl) (by decide) (fun W h => h.holds (Le.refl _) (by first | exact mp rfl | exact mq rfl)) (Yld.load 1 T rfl rfl rfl rfl rfl) ?_ | refine RAny.tk 37 (bl 52 272461987839) rfl (by kernel_rfl) (by decide) (fun W h => h.holds (Le.refl _) (by first | exact mp rfl | exact mq rfl)) (Yld.load 2 T rfl rfl rfl rfl rfl) ?_
    refine RAny.tk 38 (bl 52 547339894783) rfl (by kernel_rfl) (by decide) (fun W h => h.holds (Le.refl _) (by first | exact mp rfl | exact mq rfl)) (Yld.eval T rfl rfl) ?_
    first | refine RAny.tk 39 (bl 52 1097095708671) rfl (by kernel_rfl) (by decide) (fun W h => h.holds (Le.refl _) (by first | exact mp rfl | exact mq rfl)) (Yld.load 0 T rfl rfl rfl rfl rfl) ?_ | refine RAny.tk 39 (bl 52 1097095708671) rfl (by kernel_rfl) (by decide) (fun W h => h.holds (Le.refl _) (by first | exact mp rfl | exact mq rfl)) (Yld.load 1 T rfl rfl rfl rfl rfl) ?_ | refine RAny.tk 39 (bl 52 1097095708671) rfl (by kernel_rfl) (by decide) (fun W h => h.holds (Le.refl _) (by first | exact mp rfl | exact mq rfl)) (Yld.load 2 T rfl rfl rfl rfl rfl) ?_
    refine RAny.tk 40 (bl 52 2196607336447) rfl (by kernel_rfl) (by decide) (fun W h => h.holds (Le.refl _) (by first | exact mp rfl | exact mq rfl)) (Yld.eval T rfl rfl) ?_
    first | refine RAny.tk 41 (bl 52 4395630591999) rfl (by kernel_rfl) (by decide) (fun W h => h.holds (Le.refl _) (by first | exact mp rfl | exact mq rfl)) (Yld.load 0 T rfl rfl rfl rfl rfl) ?_ | refine RAny.tk 41 (bl 52 4395630591999) rfl (by kernel_rfl) (by decide) (fun W h => h.holds (Le.refl _) (by first | exact mp rfl | exact mq rfl)) (Yld.load 1 T rfl rfl rfl rfl rfl) ?_ | refine RAny.tk 41 (bl 52 4395630591999) rfl (by kernel_rfl) (by decide) (fun W h => h.holds (Le.refl _) (by first | exact mp rfl | exact mq rfl)) (Yld.load 2 T rfl rfl rfl rfl rfl) ?_
    refine RAny.tk 42 (bl 52 8793677103103) rfl (by kernel_rfl) (by decide) (fun W h => h.holds (Le.refl _) (by first | exact mp rfl | exact mq rfl)) (Yld.eval T rfl rfl) ?_
    first | refine RAny.tk 43 (bl 52 17589770125311) rfl (by kernel_rfl) (by decide) (fun W h => h.holds (Le.refl _) (by first | exact mp rfl | exact mq rfl)) (Yld.load 0 T rfl rfl rfl rfl rfl) ?_ | refine RAny.tk 43 (bl 52 17589770125311) rfl (by kernel_rfl) (by decide) (fun W h => h.holds (Le.refl _) (by first | exact mp rfl | exact mq rfl)) (Yld.load 1 T rfl rfl rfl rfl rfl) ?_ | refine RAny.tk 43 (bl 52 17589770125311) rfl (by kernel_rfl) (by decide) (fun W h => h.holds (Le.refl _) (by first | exact mp rfl | exact mq rfl)) (Yld.load 2 T rfl rfl rfl rfl rfl) ?_
    refine RAny.tk 44 (bl 52 35181956169727) rfl (by kernel_rfl) (by decide) (fun W h => h.holds (Le.refl _) (by first | exact mp rfl | exact mq rfl)) (Yld.eval T rfl rfl) ?_
    first | refine RAny.tk 45 (bl 52 70366328258559) rfl (by kernel_rfl) (by decide) (fun W h => h.holds (Le.refl _) (by first | exact mp rfl | exact mq rfl)) (Yld.load 0 T rfl rfl rfl rfl rfl) ?_ | refine RAny.tk 45 (bl 52 70366328258559) rfl (by kernel_rfl) (by decide) (fun W h => h.holds (Le.refl _) (by first | exact mp rfl | exact mq rfl)) (Yld.load 1 T rfl rfl rfl rfl rfl) ?_ | refine RAny.tk 45 (bl 52 70366328258559) rfl (by kernel_rfl) (by decide) (fun W h => h.holds (Le.refl _) (by first | exact mp rfl | exact mq rfl)) (Yld.load 2 T rfl rfl rfl rfl rfl) ?_
    refine RAny.tk 46 (bl 52 140735072436223) rfl (by kernel_rfl) (by decide) (fun W h => h.holds (Le.refl _) (by first | exact mp rfl | exact mq rfl)) (Yld.eval T rfl rfl) ?_
    first | refine RAny.tk 47 (bl 52 281472560791551) rfl (by kernel_rfl) (by decide) (fun W h => h.holds (Le.refl _) (by first | exact mp rfl | exact mq rfl)) (Yld.load 0 T rfl rfl rfl rfl rfl) ?_ | refine RAny.tk 47 (bl 52 281472560791551) rfl (by kernel_rfl) (by decide) (fun W h => h.holds (Le.refl _) (by first | exact mp rfl | exact mq rfl)) (Yld.load 1 T rfl rfl rfl rfl rfl) ?_ | refine RAny.tk 47 (bl 52 281472560791551) rfl (by kernel_rfl) (by decide) (fun W h => h.holds (Le.refl _) (by first | exact mp rfl | exact mq rfl)) (Yld.load 2 T rfl rfl rfl rfl rfl) ?_
    refine RAny.two 28 50 (bl 52 281472829227007) (bl 52 1407372467634175) rfl rfl (by kernel_rfl) rfl rfl (by decide) (by decide) (Eff.call (impl_keysOfNil I) call123 rfl fun x1 J1 l1 hx1 => ⟨fun W h => h.holds l1 (fun _ h => h), ?_⟩) (Eff.alloc (T.zeroOk rfl) rfl fun b3 => ⟨fun W h => h.holds (Le.refl _) (fun _ h => .tail _ h), ?_⟩)
    skip
    · skip
      skip
      have m1 := l1
      obtain ⟨A1, n1, c1, rfl⟩ := hx1
      refine RAny.two 31 50 (bl 52 281474976710655) (bl 52 1407372736069631) rfl rfl (by kernel_rfl) rfl rfl (by decide) (by decide) (Eff.call (impl_keysOfNil J1) call123 rfl fun x2 J2 l2 hx2 => ⟨fun W h => h.holds (m1.trans l2) (fun _ h => h), ?_⟩) (Eff.alloc (T.zeroOk rfl) rfl fun b3 => ⟨fun W h => h.holds m1 (fun _ h => .tail _ h), ?_⟩)
      skip
      · skip
        skip
        have m2 := m1.trans l2
        obtain ⟨A2, n2, c2, rfl⟩ := hx2
        refine RAny.two 48 50 (bl 52 562949953421311) (bl 52 1407374883553279) rfl rfl (by kernel_rfl) rfl rfl (by decide) (by decide) (Eff.call (impl_pairsOfNil J2) call99 rfl fun x3 J3 l3 hx3 => ⟨fun W h => h.holds (m2.trans l3) (fun _ h => h), ?_⟩) (Eff.alloc (T.zeroOk rfl) rfl fun b3 => ⟨fun W h => h.holds m2 (fun _ h => .tail _ h), ?_⟩)
        skip
        · skip
          skip
          have m3 := m2.trans l3
          subst hx3
          skip
          refine RAny.tk 49 (bl 52 1125899906842623) rfl (by kernel_rfl) (by decide) (fun W h => h.holds m3 (by first | exact mp rfl | exact mq rfl)) (Yld.buildL (cs := [.bool false, .bool false, .bool false, .bool false, .bool false, .bool false, .bool false, .bool false, nilS, nilS, nilS, nilS, nilS, .slice A1 n1 c1, .slice A2 n2 c2, str [], str [], str [], str [], str [], str [], str [], nilS, nilS]) bd28 rfl rfl (by kernel_rfl)) ?_
          refine RAny.on 50 (bl 52 2251799813685247) rfl (by kernel_rfl) rfl (by decide) (Eff.alloc (T.zeroOk rfl) rfl fun b3 => ⟨fun W h => h.holds m3 (fun _ h => .tail _ h), ?_⟩)
          refine RAny.os 51 (bl 52 4503599627370495) rfl (by kernel_rfl) rfl (Eff.store 0 rfl rfl rfl rfl (T.sizeOk rfl) rfl (Nat.le_of_ble_eq_true rfl) rfl rfl ⟨fun W h => h.holds m3 (fun _ h => .tail _ h), ?_⟩)
          refine RAny.done _ (by kernel_rfl) ?_
          refine Run.keep [1, 2, 3] [_, _, _] rfl ?_
          exact fin _ _ _ ⟨b3, ⟨⟨_, _, _⟩, ⟨_, _, _⟩, ⟨_, _, _⟩, ⟨_, _, _⟩, ⟨_, _, _⟩, ⟨_, _, _⟩, ⟨_, _, _⟩, ⟨_, _, _⟩, ⟨_, _, _⟩⟩, rfl, rfl, m3⟩
        · skip
          skip
          skip
          refine RAny.on 48 (bl 52 1688849860263935) rfl (by kernel_rfl) rfl (by decide) (Eff.call (impl_pairsOfNil J2) call99 rfl fun x3 J3 l3 hx3 => ⟨fun W h => h.holds (m2.trans l3) (fun _ h => .tail _ h), ?_⟩)
          have m3 := m2.trans l3
          subst hx3
          skip
          refine RAny.tk 49 (bl 52 2251799813685247) rfl (by kernel_rfl) (by decide) (fun W h => h.holds m3 (by first | exact mp rfl | exact mq rfl)) (Yld.buildL (cs := [.bool false, .bool false, .bool false, .bool false, .bool false, .bool false, .bool false, .bool false, nilS, nilS, nilS, nilS, nilS, .slice A1 n1 c1, .slice A2 n2 c2, str [], str [], str [], str [], str [], str [], str [], nilS, nilS]) bd28 rfl rfl (by kernel_rfl)) ?_
          refine RAny.os 51 (bl 52 4503599627370495) rfl (by kernel_rfl) rfl (Eff.store 0 rfl rfl rfl rfl (T.sizeOk rfl) rfl (Nat.le_of_ble_eq_true rfl) rfl rfl ⟨fun W h => h.holds m3 (fun _ h => .tail _ h), ?_⟩)
          refine RAny.done _ (by kernel_rfl) ?_
          refine Run.keep [1, 2, 3] [_, _, _] rfl ?_
          exact fin _ _ _ ⟨b3, ⟨⟨_, _, _⟩, ⟨_, _, _⟩, ⟨_, _, _⟩, ⟨_, _, _⟩, ⟨_, _, _⟩, ⟨_, _, _⟩, ⟨_, _, _⟩, ⟨_, _, _⟩, ⟨_, _, _⟩⟩, rfl, rfl, m3⟩
      · skip
        skip
        skip
        refine RAny.on 31 (bl 52 1407374883553279) rfl (by kernel_rfl) rfl (by decide) (Eff.call (impl_keysOfNil J1) call123 rfl fun x2 J2 l2 hx2 => ⟨fun W h => h.holds (m1.trans l2) (fun _ h => .tail _ h), ?_⟩)
        have m2 := m1.trans l2
        obtain ⟨A2, n2, c2, rfl⟩ := hx2
        refine RAny.on 48 (bl 52 1688849860263935) rfl (by kernel_rfl) rfl (by decide) (Eff.call (impl_pairsOfNil J2) call99 rfl fun x3 J3 l3 hx3 => ⟨fun W h => h.holds (m2.trans l3) (fun _ h => .tail _ h), ?_⟩)
        have m3 := m2.trans l3
        subst hx3
        skip
        refine RAny.tk 49 (bl 52 2251799813685247) rfl (by kernel_rfl) (by decide) (fun W h => h.holds m3 (by first | exact mp rfl | exact mq rfl)) (Yld.buildL (cs := [.bool false, .bool false, .bool false, .bool false, .bool false, .bool false, .bool false, .bool false, nilS, nilS, nilS, nilS, nilS, .slice A1 n1 c1, .slice A2 n2 c2, str [], str [], str [], str [], str [], str [], str [], nilS, nilS]) bd28 rfl rfl (by kernel_rfl)) ?_
        refine RAny.os 51 (bl 52 4503599627370495) rfl (by kernel_rfl) rfl (Eff.store 0 rfl rfl rfl rfl (T.sizeOk rfl) rfl (Nat.le_of_ble_eq_true rfl) rfl rfl ⟨fun W h => h.holds m3 (fun _ h => .tail _ h), ?_⟩)
        refine RAny.done _ (by kernel_rfl) ?_
        refine Run.keep [1, 2, 3] [_, _, _] rfl ?_
        exact fin _ _ _ ⟨b3, ⟨⟨_, _, _⟩, ⟨_, _, _⟩, ⟨_, _, _⟩, ⟨_, _, _⟩, ⟨_, _, _⟩, ⟨_, _, _⟩, ⟨_, _, _⟩, ⟨_, _, _⟩, ⟨_, _, _⟩⟩, rfl, rfl, m3⟩
    · skip
      skip
      skip
      refine RAny.on 28 (bl 52 1407372736069631) rfl (by kernel_rfl) rfl (by decide) (Eff.call (impl_keysOfNil I) call123 rfl fun x1 J1 l1 hx1 => ⟨fun W h => h.holds l1 (fun _ h => .tail _ h), ?_⟩)
      have m1 := l1
      obtain ⟨A1, n1, c1, rfl⟩ := hx1
      refine RAny.on 31 (bl 52 1407374883553279) rfl (by kernel_rfl) rfl (by decide) (Eff.call (impl_keysOfNil J1) call123 rfl fun x2 J2 l2 hx2 => ⟨fun W h => h.holds (m1.trans l2) (fun _ h => .tail _ h), ?_⟩)
      have m2 := m1.trans l2
      obtain ⟨A2, n2, c2, rfl⟩ := hx2
      refine RAny.on 48 (bl 52 1688849860263935) rfl (by kernel_rfl) rfl (by decide) (Eff.call (impl_pairsOfNil J2) call99 rfl fun x3 J3 l3 hx3 => ⟨fun W h => h.holds (m2.trans l3) (fun _ h => .tail _ h), ?_⟩)
      have m3 := m2.trans l3
      subst hx3
      skip
      refine RAny.tk 49 (bl 52 2251799813685247) rfl (by kernel_rfl) (by decide) (fun W h => h.holds m3 (by first | exact mp rfl | exact mq rfl)) (Yld.buildL (cs := [.bool false, .bool false, .bool false, .bool false, .bool false, .bool false, .bool false, .bool false, nilS, nilS, nilS, nilS, nilS, .slice A1 n1 c1, .slice A2 n2 c2, str [], str [], str [], str [], str [], str [], str [], nilS, nilS]) bd28 rfl rfl (by kernel_rfl)) ?_
      refine RAny.os 51 (bl 52 4503599627370495) rfl (by kernel_rfl) rfl (Eff.store 0 rfl rfl rfl rfl (T.sizeOk rfl) rfl (Nat.le_of_ble_eq_true rfl) rfl rfl ⟨fun W h => h.holds m3 (fun _ h => .tail _ h), ?_⟩)
      refine RAny.done _ (by kernel_rfl) ?_
      refine Run.keep [1, 2, 3] [_, _, _] rfl ?_
      exact fin _ _ _ ⟨b3, ⟨⟨_, _, _⟩, ⟨_, _, _⟩, ⟨_, _, _⟩, ⟨_, _, _⟩, ⟨_, _, _⟩, ⟨_, _, _⟩, ⟨_, _, _⟩, ⟨_, _, _⟩, ⟨_, _, _⟩⟩, rfl, rfl, m3⟩
  rintro env L J ⟨b3, v, rfl, rfl, hle⟩
  repeat (first | refine Run.seq ?_ | refine Run.region ?_ | refine Ops.nil ?_ | refine Run.skip ?_ | refine Run.cond_f rfl ?_ | refine Ops.neqNil T rfl (by decide) rfl rfl rfl rfl rfl ?_ | refine Ops.pure T rfl (by decide) rfl ?_ | refine Ops.load 2 rfl (by decide) rfl rfl (T.aggOk rfl) rfl ?_ | refine Ops.loadN 0 rfl (by decide) rfl rfl (T.aggOk rfl) (T.sizeOk rfl) rfl rfl ?_ | refine Ops.store 1 rfl rfl rfl rfl rfl (T.sizeOk rfl) rfl (Nat.le_of_ble_eq_true rfl) rfl rfl ?_)
  refine Run.retC T 1 (by rw [hCf]; exact func83) results83 rfl rfl rfl rfl rfl rfl (hR _ _ _ ?_)
  exact ⟨rfl, v, rfl⟩
def awS : Bs := [108, 105, 110, 117, 120]
def awCells : List Value := [str [], str [], str [], .int .i64 0, .int .i64 0, .int .i64 0, str [], nilS, str awS, str [], nilS] ++ zCo ++ [str [], str [], nilS]
def awC : Cf := ⟨[], [], [], [], awS, [], [], -62135596800, [], [], [], zSt, []⟩
def zCf : Cf := ⟨[], [], [], [], [], [], [], 0, [], [], [], zSt, []⟩
def zCV : CV := ⟨⟨none, 0, 0⟩, ⟨none, 0, 0⟩, zSV, ⟨none, 0, 0⟩⟩
set_option maxHeartbeats 4000000 in
theorem impl_configOfAw (I : Imm) : Pure prog 41 [.agg awCells.toArray] I fun w J => ∃ v, w = .agg (awC.cs v).toArray := by
  refine Spec.enter 77 [(0, _)] func41 rfl ntmps41 (by simp) rfl ?_
  intro C hCf hR hCI
  repeat (first | refine Run.seq ?_ | refine Run.region ?_)
  refine Ops.box rfl (by decide) rfl rfl (fun b => ?_)
  refine Ops.alloc rfl (by decide) (T.zeroOk rfl) rfl (fun b2 => ?_)
  repeat (first | refine Run.seq ?_ | refine Ops.nil ?_)
  refine Run.piece (fun env' L' I' => ∃ (b3 : Nat) (v : SV), env' = [(1, .pointer (some ⟨b, 0, none⟩)), (2, .pointer (some ⟨b2, 0, none⟩)), (3, .pointer (some ⟨b3, 0, none⟩))] ∧ L' = [(b3, blk (awC.cs ⟨⟨none, 0, 0⟩, ⟨none, 0, 0⟩, v, ⟨none, 0, 0⟩⟩) 30), (b2, blk (zCf.cs zCV) 30), (b, blk awCells 107)] ∧ Le I I') ?_ ?_
  · intro k' fin
    refine Run.regionAny (Holds I [(b2, blk (zCf.cs zCV) 30), (b, blk awCells 107)]) (bl 28 0) (by kernel_rfl) (by kernel_rfl) ?_
    refine RAny.tk 0 (bl 28 1) rfl (by kernel_rfl) (by decide) (fun W h => h.holds (Le.refl _) (by first | exact mp rfl | exact mq rfl)) (Yld.eval T rfl rfl) ?_
    first | refine RAny.tk 1 (bl 28 3) rfl (by kernel_rfl) (by decide) (fun W h => h.holds (Le.refl _) (by first | exact mp rfl | exact mq rfl)) (Yld.load 0 T rfl rfl rfl rfl rfl) ?_ | refine RAny.tk 1 (bl 28 3) rfl (by kernel_rfl) (by decide) (fun W h => h.holds (Le.refl _) (by first | exact mp rfl | exact mq rfl)) (Yld.load 1 T rfl rfl rfl rfl rfl) ?_ | refine RAny.tk 1 (bl 28 3) rfl (by kernel_rfl) (by decide) (fun W h => h.holds (Le.refl _) (by first | exact mp rfl | exact mq rfl)) (Yld.load 2 T rfl rfl rfl rfl rfl) ?_
    refine RAny.tk 2 (bl 28 7) rfl (by kernel_rfl) (by decide) (fun W h => h.holds (Le.refl _) (by first | exact mp rfl | exact mq rfl)) (Yld.eval T rfl rfl) ?_
    first | refine RAny.tk 3 (bl 28 15) rfl (by kernel_rfl) (by decide) (fun W h => h.holds (Le.refl _) (by first | exact mp rfl | exact mq rfl)) (Yld.load 0 T rfl rfl rfl rfl rfl) ?_ | refine RAny.tk 3 (bl 28 15) rfl (by kernel_rfl) (by decide) (fun W h => h.holds (Le.refl _) (by first | exact mp rfl | exact mq rfl)) (Yld.load 1 T rfl rfl rfl rfl rfl) ?_ | refine RAny.tk 3 (bl 28 15) rfl (by kernel_rfl) (by decide) (fun W h => h.holds (Le.refl _) (by first | exact mp rfl | exact mq rfl)) (Yld.load 2 T rfl rfl rfl rfl rfl) ?_
    refine RAny.tk 4 (bl 28 31) rfl (by kernel_rfl) (by decide) (fun W h => h.holds (Le.refl _) (by first | exact mp rfl | exact mq rfl)) (Yld.eval T rfl rfl) ?_
    first | refine RAny.tk 5 (bl 28 63) rfl (by kernel_rfl) (by decide) (fun W h => h.holds (Le.refl _) (by first | exact mp rfl | exact mq rfl)) (Yld.load 0 T rfl rfl rfl rfl rfl) ?_ | refine RAny.tk 5 (bl 28 63) rfl (by kernel_rfl) (by decide) (fun W h => h.holds (Le.refl _) (by first | exact mp rfl | exact mq rfl)) (Yld.load 1 T rfl rfl rfl rfl rfl) ?_ | refine RAny.tk 5 (bl 28 63) rfl (by kernel_rfl) (by decide) (fun W h => h.holds (Le.refl _) (by first | exact mp rfl | exact mq rfl)) (Yld.load 2 T rfl rfl rfl rfl rfl) ?_
    refine RAny.tk 6 (bl 28 127) rfl (by kernel_rfl) (by decide) (fun W h => h.holds (Le.refl _) (by first | exact mp rfl | exact mq rfl)) (Yld.eval T rfl rfl) ?_
    first | refine RAny.tk 7 (bl 28 255) rfl (by kernel_rfl) (by decide) (fun W h => h.holds (Le.refl _) (by first | exact mp rfl | exact mq rfl)) (Yld.load 0 T rfl rfl rfl rfl rfl) ?_ | refine RAny.tk 7 (bl 28 255) rfl (by kernel_rfl) (by decide) (fun W h => h.holds (Le.refl _) (by first | exact mp rfl | exact mq rfl)) (Yld.load 1 T rfl rfl rfl rfl rfl) ?_ | refine RAny.tk 7 (bl 28 255) rfl (by kernel_rfl) (by decide) (fun W h => h.holds (Le.refl _) (by first | exact mp rfl | exact mq rfl)) (Yld.load 2 T rfl rfl rfl rfl rfl) ?_
    refine RAny.tk 8 (bl 28 511) rfl (by kernel_rfl) (by decide) (fun W h => h.holds (Le.refl _) (by first | exact mp rfl | exact mq rfl)) (Yld.eval T rfl rfl) ?_
    first | refine RAny.tk 9 (bl 28 1023) rfl (by kernel_rfl) (by decide) (fun W h => h.holds (Le.refl _) (by first | exact mp rfl | exact mq rfl)) (Yld.load 0 T rfl rfl rfl rfl rfl) ?_ | refine RAny.tk 9 (bl 28 1023) rfl (by kernel_rfl) (by decide) (fun W h => h.holds (Le.refl _) (by first | exact mp rfl | exact mq rfl)) (Yld.load 1 T rfl rfl rfl rfl rfl) ?_ | refine RAny.tk 9 (bl 28 1023) rfl (by kernel_rfl) (by decide) (fun W h => h.holds (Le.refl _) (by first | exact mp rfl | exact mq rfl)) (Yld.load 2 T rfl rfl rfl rfl rfl) ?_
    refine RAny.tk 10 (bl 28 2047) rfl (by kernel_rfl) (by decide) (fun W h => h.holds (Le.refl _) (by first | exact mp rfl | exact mq rfl)) (Yld.eval T rfl rfl) ?_
    first | refine RAny.tk 11 (bl 28 4095) rfl (by kernel_rfl) (by decide) (fun W h => h.holds (Le.refl _) (by first | exact mp rfl | exact mq rfl)) (Yld.load 0 T rfl rfl rfl rfl rfl) ?_ | refine RAny.tk 11 (bl 28 4095) rfl (by kernel_rfl) (by decide) (fun W h => h.holds (Le.refl _) (by first | exact mp rfl | exact mq rfl)) (Yld.load 1 T rfl rfl rfl rfl rfl) ?_ | refine RAny.tk 11 (bl 28 4095) rfl (by kernel_rfl) (by decide) (fun W h => h.holds (Le.refl _) (by first | exact mp rfl | exact mq rfl)) (Yld.load 2 T rfl rfl rfl rfl rfl) ?_
    refine RAny.tk 12 (bl 28 8191) rfl (by kernel_rfl) (by decide) (fun W h => h.holds (Le.refl _) (by first | exact mp rfl | exact mq rfl)) (Yld.eval T rfl rfl) ?_
    first | refine RAny.tk 13 (bl 28 16383) rfl (by kernel_rfl) (by decide) (fun W h => h.holds (Le.refl _) (by first | exact mp rfl | exact mq rfl)) (Yld.load 0 T rfl rfl rfl rfl rfl) ?_ | refine RAny.tk 13 (bl 28 16383) rfl (by kernel_rfl) (by decide) (fun W h => h.holds (Le.refl _) (by first | exact mp rfl | exact mq rfl)) (Yld.load 1 T rfl rfl rfl rfl rfl) ?_ | refine RAny.tk 13 (bl 28 16383) rfl (by kernel_rfl) (by decide) (fun W h => h.holds (Le.refl _) (by first | exact mp rfl | exact mq rfl)) (Yld.load 2 T rfl rfl rfl rfl rfl) ?_
    refine RAny.tk 14 (bl 28 32767) rfl (by kernel_rfl) (by decide) (fun W h => h.holds (Le.refl _) (by first | exact mp rfl | exact mq rfl)) (Yld.eval T rfl rfl) ?_
    first | refine RAny.tk 15 (bl 28 65535) rfl (by kernel_rfl) (by decide) (fun W h => h.holds (Le.refl _) (by first | exact mp rfl | exact mq rfl)) (Yld.loadN 0 T rfl rfl rfl rfl rfl rfl rfl) ?_ | refine RAny.tk 15 (bl 28 65535) rfl (by kernel_rfl) (by decide) (fun W h => h.holds (Le.refl _) (by first | exact mp rfl | exact mq rfl)) (Yld.loadN 1 T rfl rfl rfl rfl rfl rfl rfl) ?_ | refine RAny.tk 15 (bl 28 65535) rfl (by kernel_rfl) (by decide) (fun W h => h.holds (Le.refl _) (by first | exact mp rfl | exact mq rfl)) (Yld.loadN 2 T rfl rfl rfl rfl rfl rfl rfl) ?_
    refine RAny.tk 17 (bl 28 196607) rfl (by kernel_rfl) (by decide) (fun W h => h.holds (Le.refl _) (by first | exact mp rfl | exact mq rfl)) (Yld.eval T rfl rfl) ?_
    refine RAny.tk 18 (bl 28 458751) rfl (by kernel_rfl) (by decide) (fun W h => h.holds (Le.refl _) (by first | exact mp rfl | exact mq rfl)) (Yld.eval T rfl rfl) ?_
    first | refine RAny.tk 19 (bl 28 983039) rfl (by kernel_rfl) (by decide) (fun W h => h.holds (Le.refl _) (by first | exact mp rfl | exact mq rfl)) (Yld.load 0 T rfl rfl rfl rfl rfl) ?_ | refine RAny.tk 19 (bl 28 983039) rfl (by kernel_rfl) (by decide) (fun W h => h.holds (Le.refl _) (by first | exact mp rfl | exact mq rfl)) (Yld.load 1 T rfl rfl rfl rfl rfl) ?_ | refine RAny.tk 19 (bl 28 983039) rfl (by kernel_rfl) (by decide) (fun W h => h.holds (Le.refl _) (by first | exact mp rfl | exact mq rfl)) (Yld.load 2 T rfl rfl rfl rfl rfl) ?_
    refine RAny.tk 20 (bl 28 2031615) rfl (by kernel_rfl) (by decide) (fun W h => h.holds (Le.refl _) (by first | exact mp rfl | exact mq rfl)) (Yld.eval T rfl rfl) ?_
    first | refine RAny.tk 21 (bl 28 4128767) rfl (by kernel_rfl) (by decide) (fun W h => h.holds (Le.refl _) (by first | exact mp rfl | exact mq rfl)) (Yld.loadN 0 T rfl rfl rfl rfl rfl rfl rfl) ?_ | refine RAny.tk 21 (bl 28 4128767) rfl (by kernel_rfl) (by decide) (fun W h => h.holds (Le.refl _) (by first | exact mp rfl | exact mq rfl)) (Yld.loadN 1 T rfl rfl rfl rfl rfl rfl rfl) ?_ | refine RAny.tk 21 (bl 28 4128767) rfl (by kernel_rfl) (by decide) (fun W h => h.holds (Le.refl _) (by first | exact mp rfl | exact mq rfl)) (Yld.loadN 2 T rfl rfl rfl rfl rfl rfl rfl) ?_
    refine RAny.tk 23 (bl 28 12517375) rfl (by kernel_rfl) (by decide) (fun W h => h.holds (Le.refl _) (by first | exact mp rfl | exact mq rfl)) (Yld.eval T rfl rfl) ?_
    first | refine RAny.tk 24 (bl 28 29294591) rfl (by kernel_rfl) (by decide) (fun W h => h.holds (Le.refl _) (by first | exact mp rfl | exact mq rfl)) (Yld.load 0 T rfl rfl rfl rfl rfl) ?_ | refine RAny.tk 24 (bl 28 29294591) rfl (by kernel_rfl) (by decide) (fun W h => h.holds (Le.refl _) (by first | exact mp rfl | exact mq rfl)) (Yld.load 1 T rfl rfl rfl rfl rfl) ?_ | refine RAny.tk 24 (bl 28 29294591) rfl (by kernel_rfl) (by decide) (fun W h => h.holds (Le.refl _) (by first | exact mp rfl | exact mq rfl)) (Yld.load 2 T rfl rfl rfl rfl rfl) ?_
    refine RAny.two 16 26 (bl 28 29360127) (bl 28 96403455) rfl rfl (by kernel_rfl) rfl rfl (by decide) (by decide) (Eff.call (impl_timeOf0 I) call82 rfl fun x1 J1 l1 hx1 => ⟨fun W h => h.holds l1 (fun _ h => h), ?_⟩) (Eff.alloc (T.zeroOk rfl) rfl fun b3 => ⟨fun W h => h.holds (Le.refl _) (fun _ h => .tail _ h), ?_⟩)
    skip
    · skip
      skip
      have m1 := l1
      subst hx1
      refine RAny.two 22 26 (bl 28 33554431) (bl 28 96468991) rfl rfl (by kernel_rfl) rfl rfl (by decide) (by decide) (Eff.call (impl_settingsOf0 J1) call83 rfl fun x2 J2 l2 hx2 => ⟨fun W h => h.holds (m1.trans l2) (fun _ h => h), ?_⟩) (Eff.alloc (T.zeroOk rfl) rfl fun b3 => ⟨fun W h => h.holds m1 (fun _ h => .tail _ h), ?_⟩)
      skip
      · skip
        skip
        have m2 := m1.trans l2
        obtain ⟨v, rfl⟩ := hx2
        skip
        refine RAny.tk 25 (bl 28 67108863) rfl (by kernel_rfl) (by decide) (fun W h => h.holds m2 (by first | exact mp rfl | exact mq rfl)) (Yld.buildL (cs := [str [], str [], str [], str [], str awS, str [], str [], .int .i64 (-62135596800), nilS, str [], nilS] ++ zSt.cs v ++ [nilS]) bd30 rfl rfl (by kernel_rfl)) ?_
        refine RAny.on 26 (bl 28 134217727) rfl (by kernel_rfl) rfl (by decide) (Eff.alloc (T.zeroOk rfl) rfl fun b3 => ⟨fun W h => h.holds m2 (fun _ h => .tail _ h), ?_⟩)
        refine RAny.os 27 (bl 28 268435455) rfl (by kernel_rfl) rfl (Eff.store 0 rfl rfl rfl rfl (T.sizeOk rfl) rfl (Nat.le_of_ble_eq_true rfl) rfl rfl ⟨fun W h => h.holds m2 (fun _ h => .tail _ h), ?_⟩)
        refine RAny.done _ (by kernel_rfl) ?_
        refine Run.keep [1, 2, 3] [_, _, _] rfl ?_
        exact fin _ _ _ ⟨b3, v, rfl, rfl, m2⟩
      · skip
        skip
        skip
        refine RAny.on 22 (bl 28 100663295) rfl (by kernel_rfl) rfl (by decide) (Eff.call (impl_settingsOf0 J1) call83 rfl fun x2 J2 l2 hx2 => ⟨fun W h => h.holds (m1.trans l2) (fun _ h => .tail _ h), ?_⟩)
        have m2 := m1.trans l2
        obtain ⟨v, rfl⟩ := hx2
        skip
        refine RAny.tk 25 (bl 28 134217727) rfl (by kernel_rfl) (by decide) (fun W h => h.holds m2 (by first | exact mp rfl | exact mq rfl)) (Yld.buildL (cs := [str [], str [], str [], str [], str awS, str [], str [], .int .i64 (-62135596800), nilS, str [], nilS] ++ zSt.cs v ++ [nilS]) bd30 rfl rfl (by kernel_rfl)) ?_
        refine RAny.os 27 (bl 28 268435455) rfl (by kernel_rfl) rfl (Eff.store 0 rfl rfl rfl rfl (T.sizeOk rfl) rfl (Nat.le_of_ble_eq_true rfl) rfl rfl ⟨fun W h => h.holds m2 (fun _ h => .tail _ h), ?_⟩)
        refine RAny.done _ (by kernel_rfl) ?_
        refine Run.keep [1, 2, 3] [_, _, _] rfl ?_
        exact fin _ _ _ ⟨b3, v, rfl, rfl, m2⟩
    · skip
      skip
      skip
      refine RAny.on 16 (bl 28 96468991) rfl (by kernel_rfl) rfl (by decide) (Eff.call (impl_timeOf0 I) call82 rfl fun x1 J1 l1 hx1 => ⟨fun W h => h.holds l1 (fun _ h => .tail _ h), ?_⟩)
      have m1 := l1
      subst hx1
      refine RAny.on 22 (bl 28 100663295) rfl (by kernel_rfl) rfl (by decide) (Eff.call (impl_settingsOf0 J1) call83 rfl fun x2 J2 l2 hx2 => ⟨fun W h => h.holds (m1.trans l2) (fun _ h => .tail _ h), ?_⟩)
      have m2 := m1.trans l2
      obtain ⟨v, rfl⟩ := hx2
      skip
      refine RAny.tk 25 (bl 28 134217727) rfl (by kernel_rfl) (by decide) (fun W h => h.holds m2 (by first | exact mp rfl | exact mq rfl)) (Yld.buildL (cs := [str [], str [], str [], str [], str awS, str [], str [], .int .i64 (-62135596800), nilS, str [], nilS] ++ zSt.cs v ++ [nilS]) bd30 rfl rfl (by kernel_rfl)) ?_
      refine RAny.os 27 (bl 28 268435455) rfl (by kernel_rfl) rfl (Eff.store 0 rfl rfl rfl rfl (T.sizeOk rfl) rfl (Nat.le_of_ble_eq_true rfl) rfl rfl ⟨fun W h => h.holds m2 (fun _ h => .tail _ h), ?_⟩)
      refine RAny.done _ (by kernel_rfl) ?_
      refine Run.keep [1, 2, 3] [_, _, _] rfl ?_
      exact fin _ _ _ ⟨b3, v, rfl, rfl, m2⟩
  rintro env L J ⟨b3, v, rfl, rfl, hle⟩
  repeat (first | refine Run.seq ?_ | refine Run.region ?_ | refine Ops.nil ?_ | refine Run.skip ?_ | refine Run.block ?_ | refine Run.cond_f rfl ?_ | refine Ops.neqNil T rfl (by decide) rfl rfl rfl rfl rfl ?_ | refine Ops.pure T rfl (by decide) rfl ?_ | refine Ops.load 2 rfl (by decide) rfl rfl (T.aggOk rfl) rfl ?_)
  refine Run.loop ?_
  repeat (first | refine Run.seq ?_ | refine Run.region ?_ | refine Ops.nil ?_ | refine Run.skip ?_ | refine Run.block ?_ | refine Run.exit rfl ?_ | refine Run.cond_f rfl ?_ | refine Ops.lss rfl (by decide) rfl rfl ?_ | refine Ops.neqNil T rfl (by decide) rfl rfl rfl rfl rfl ?_ | refine Ops.pure T rfl (by decide) rfl ?_ | refine Ops.load 2 rfl (by decide) rfl rfl (T.aggOk rfl) rfl ?_)
  refine Run.loop ?_
  repeat (first | refine Run.seq ?_ | refine Run.region ?_ | refine Ops.nil ?_ | refine Run.exit rfl ?_ | refine Run.cond_f rfl ?_ | refine Ops.lss rfl (by decide) rfl rfl ?_ | refine Ops.loadN 0 rfl (by decide) rfl rfl (T.aggOk rfl) (T.sizeOk rfl) rfl rfl ?_ | refine Ops.store 1 rfl rfl rfl rfl rfl (T.sizeOk rfl) rfl (Nat.le_of_ble_eq_true rfl) rfl rfl ?_)
  refine Run.retC T 1 (by rw [hCf]; exact func41) results41 rfl rfl rfl rfl rfl rfl (hR _ _ _ ?_)
  exact ⟨rfl, _, rfl⟩
end Go.V
