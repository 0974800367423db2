import Derived.Test.YtcegjgmmbbojdaaGreatDoorAW
import Derived.Test.YtcegjgmmbbojdaaGreatDoorAM13
import Derived.Test.YtcegjgmmbbojdaaGreatDoorAM8
import Derived.Test.YtcegjgmmbbojdaaGreatDoorAM17
import Derived.Test.YtcegjgmmbbojdaaGreatDoorAM14
import Derived.Test.YtcegjgmmbbojdaaGreatDoorAM15
import Derived.Shelf.Strconv.ParseIntPublic10
import Derived.Test.YtcegjgmmbbojdaaGreatDoorProg
import Derived.KernelRfl
set_option linter.unusedVariables false
set_option linter.unusedSimpArgs false
namespace Go.V
open Go.Proofs.Tryz
open Go.RowKit
set_option maxRecDepth 10000
attribute [local irreducible] Run Ops QD
theorem Value_Str (f : Nat) (I : Imm) (cs : List Value) (v : JV) (hrel : (tJV (f + 1)).rel I cs v) (x off : Nat) (cells : List Value) (tt : TypeId) (ho : off + 1 <= cells.length) :
  Spec prog 104 [.agg cs.toArray, .pointer (some ⟨x, off, none⟩)] I [(x, blk cells tt)] fun w J M => J = I /\ w = .bool (v.kind == 34 || v.kind == 110) /\ M = [(x, blk (if v.kind = 34 then setAt cells off [str v.text] else cells) tt)] := by
 obtain ⟨wk, wn, rfl, hwk, hwn⟩ := hrel
 obtain ⟨A3, z3, rfl⟩ := hwk.isSl
 obtain ⟨A4, z4, rfl⟩ := hwn.isSl
 generalize v.kind = k
 refine Spec.enter 20 [(0, _), (1, _)] func104 rfl ntmps104 (by simp) rfl ?_
 intro C hCf hR hCI
 refine rS ?_
 refine Run.region (Ops.box rfl dc rfl rfl (fun b3 => (oP rfl (Ops.nil ?_))))
 repeat refine rS ?_
 have nn : ∀ (q : UInt8) (m : Int), (q.toNat : Int) = m -> k ≠ q -> decide ((k.toNat : Int) = m) = false := fun q m hm h => decide_eq_false fun e => h (UInt8.toNat_inj.1 (by omega))
 by_cases h1 : k = 34
 ·subst h1
  refine rO (fun Z hZ => (eE rfl (gY (Yv.load 0 T rfl rfl rfl rfl) (fE (Ev.eqlI rfl rfl) (zN hZ ((rT rfl (rP 4 (fun Z hZ => (eE rfl (eE rfl (gY (Yv.load 0 T rfl rfl rfl rfl) (eE rfl (zN hZ ((Ops.store 1 rfl rfl rfl rfl rfl (T.sizeOk rfl) rfl ho rfl rfl (Ops.nil (rS (rO (fun Z hZ => (eE rfl (gY (Yv.load 0 T rfl rfl rfl rfl) (fE (Ev.eqlI rfl rfl) (eE rfl (oF (oF (oF (eE rfl (eE rfl (zN hZ ?_))))))))))))))))))))))))))))))
  skip
  refine Run.dropL (List.sublist_cons_self _ _) ?_
  refine Run.ret1 (by rw [hCf]; exact func104) results104 rfl (hR _ _ _ ?_)
  exact ⟨rfl, rfl, rfl⟩
 ·skip
  refine rO (fun Z hZ => (eE rfl (gY (Yv.load 0 T rfl rfl rfl rfl) (fE ((Ev.eqlI rfl rfl).as (show _ = Value.bool false from congrArg Value.bool (nn 34 34 rfl h1))) (zN hZ ?_)))))
  repeat (first | refine rS ?_ | refine rK ?_ | refine rF rfl ?_)
  have e1 : (k == 34) = false := by simp [h1]
  by_cases h2 : k = 110
  ·subst h2
   refine rO (fun Z hZ => (eE rfl (gY (Yv.load 0 T rfl rfl rfl rfl) (fE (Ev.eqlI rfl rfl) (eE rfl (eE rfl (gY (Yv.load 0 T rfl rfl rfl rfl) (fE (Ev.eqlI rfl rfl) (eE rfl (eE rfl (zN hZ ?_)))))))))))
   skip
   refine Run.dropL (List.sublist_cons_self _ _) ?_
   refine Run.ret1 (by rw [hCf]; exact func104) results104 rfl (hR _ _ _ ?_)
   exact ⟨rfl, rfl, rfl⟩
  ·have e2 : (k == 110) = false := by simp [h2]
   refine rO (fun Z hZ => (eE rfl (gY (Yv.load 0 T rfl rfl rfl rfl) (fE ((Ev.eqlI rfl rfl).as (show _ = Value.bool false from congrArg Value.bool (nn 34 34 rfl h1))) (eE rfl (eE rfl (gY (Yv.load 0 T rfl rfl rfl rfl) (fE ((Ev.eqlI rfl rfl).as (show _ = Value.bool false from congrArg Value.bool (nn 110 110 rfl h2))) (eE rfl (eE rfl (zN hZ ?_)))))))))))
   skip
   refine Run.dropL (List.sublist_cons_self _ _) ?_
   refine Run.ret1 (by rw [hCf]; exact func104) results104 rfl (hR _ _ _ ?_)
   rw [e1, e2, if_neg h1]
   exact ⟨rfl, rfl, rfl⟩
set_option maxHeartbeats 1000000 in
theorem Value_Members (f : Nat) (I : Imm) (cs : List Value) (v : JV) (hrel : (tJV (f + 1)).rel I cs v) (hk : v.kind = 123) (hlen : v.keys.length = v.kids.length) (hmax : v.kids.length <= 1099511627776) (F : FuncId) (ws : List Value) (St : Nat -> Imm -> Own -> Prop) (M0 : Own)
  (h0 : St 0 I M0) (hcall : ∀ args w, (callFunc F args).run prog w = .ok (.enter F args) w) (hmono : ∀ i J J' M, St i J M -> Le J J' -> St i J' M)
  (step : ∀ i key x J M kc, Le I J -> v.keys[i]? = some key -> v.kids[i]? = some x -> (tJV f).rel J kc x -> St i J M -> Spec prog F ([str key, .agg kc.toArray] ++ ws) J M fun w J' M' => w = .bool true /\ St (i + 1) J' M') :
  Spec prog 96 [.agg cs.toArray, .func (.func F) #[] ws.toArray] I M0 fun w J M => w = .bool true /\ St v.kids.length J M := by
 obtain ⟨wk, wn, rfl, hwk, hwn⟩ := hrel
 obtain ⟨A3, z3, rfl⟩ := hwk.isSl
 obtain ⟨A4, z4, rfl⟩ := hwn.isSl
 rw [hk]
 refine Spec.enter 35 [(0, _), (1, _)] func96 rfl ntmps96 (by simp) rfl ?_
 intro C hCf hR hCI
 refine rS ?_
 refine Run.region (Ops.box rfl dc rfl rfl (fun b2 => (oP rfl (Ops.nil ?_))))
 repeat refine rS ?_
 refine rO (fun Z hZ => (eE rfl (gY (Yv.load 0 T rfl rfl rfl rfl) (fE (Ev.neqI rfl rfl) (zN hZ ?_)))))
 repeat (first | refine rS ?_ | refine rK ?_ | refine rF rfl ?_)
 refine rO (fun Z hZ => (eE rfl (zN hZ ?_)))
 repeat refine rS ?_
 refine rO (fun Z hZ => (eE rfl (gY (Yv.load 0 T rfl rfl rfl rfl) (eE rfl (eE rfl (zN hZ ((rB (Run.keep [0, 1, 2, 5, 15, 16, 17] [_, _, _, _, _, _, _] rfl ?_)))))))))
 refine Run.rounds (fun m env L J => ∃ (i : Nat) (M : Own), m = v.kids.length - i /\ i <= v.kids.length /\ St i J M /\
  env = [(0, _), (1, .func (.func F) #[] ws.toArray), (2, .pointer (some ⟨b2, 0, none⟩)), (5, .bool true), (15, .slice A3 v.kids.length z3), (16, .int .i64 (v.kids.length : Int)), (17, .int .i64 (i : Int))] /\
  L = (b2, blk [.int .u8 ((123 : UInt8).toNat : Int), .bool v.plain, str v.text, .slice A3 v.kids.length z3, .slice A4 v.keys.length z4] 129) :: M /\ Le I J) v.kids.length ⟨0, M0, by omega, by omega, h0, rfl, rfl, Le.refl _⟩ ?_
 rintro m env L J ⟨i, M, rfl, hi, hSt, rfl, rfl, hle⟩ ih
 by_cases hlt : i < v.kids.length
 ·skip
  refine rS ?_
  refine rO (fun Z hZ => (kT (Ev.lss rfl rfl) (by omega) (zN hZ ?_)))
  repeat (first | refine rS ?_ | refine rK ?_ | refine rB ?_ | refine rT rfl ?_)
  refine Run.region (oP rfl (Ops.indexSl (hwk.mono hle) rfl dc rfl rfl (T.undOk rfl) (fun w => by rw [tJV_size]; exact T.sizeOk rfl w) (by omega) (by omega) ?_))
  rintro bx ox kx kc hkx hkr hkA
  rw [show ((i : Int)).toNat = i by omega] at hkx
  cases f with
  | zero => exact hkr.elim
  | succ f =>
   obtain ⟨xk, xn, rfl, hxk, hxn⟩ := id hkr
   obtain ⟨A5, z5, rfl⟩ := hxk.isSl
   obtain ⟨A6, z6, rfl⟩ := hxn.isSl
   refine Ops.loadIN rfl dc rfl hkA (T.aggOk rfl) (T.sizeOk rfl) rfl (Ops.alloc rfl dc (T.zeroOk rfl) rfl (fun b7 => (oP rfl (Ops.store 0 rfl rfl rfl rfl rfl (T.sizeOk rfl) rfl (lb rfl) rfl rfl (Ops.nil ?_)))))
   skip
   obtain ⟨key, hkey⟩ : ∃ key, v.keys[i]? = some key := ⟨v.keys[i], List.getElem?_eq_getElem (by omega)⟩
   have hst := step i key kx J M _ hle hkey hkx hkr hSt
   obtain ⟨_, _, e4, _, hrow⟩ := hwn
   cases e4
   rcases hrow with h0 | ⟨bk, ok, rfl, hrow⟩
   ·rw [h0] at hkey; simp at hkey
   obtain ⟨kcs, hkr4, hkA4⟩ := hrow i key hkey
   obtain rfl : kcs = [str key] := hkr4
   have hA4 : At J bk (ok + ((i : Int)).toNat * 1) [str key] := by
    have := hkA4.mono hle
    rw [show ((i : Int)).toNat = i by omega]; exact this
   refine Run.regionT (D := [some 22, some 23, some 24, some 25, some 26, some 27, some 28, some 29, some 30, some 31, some 32, some 5]) (fun _ => True) [true, true, true, true, true, true, true] (bl 12 127) 5 (by kernel_rfl) (by kernel_rfl) (by kernel_rfl) rfl (fun Z hZ => (eE rfl (eE rfl (gY (Yv.load 1 T rfl rfl rfl rfl) (eE rfl (fE (Ev.indexS T rfl rfl rfl rfl om om) (gY (Yv.loadI T hA4 rfl rfl) (gY (Yv.loadN 0 T rfl rfl rfl rfl rfl rfl) (zN hZ ((RAny.on 7 (bl 12 255) rfl (by kernel_rfl) rfl dc (Eff.callW (M := M) (N := [(b7, _), (b2, _)]) (args := [str key, .agg _] ++ ws) (fun a W he => run_callV (fs := []) (vs := [str key, .agg _]) hcall he rfl rfl) (List.perm_append_comm (l₁ := [_, _]) (l₂ := M)) hst fun w J' M' l' hw => ⟨fun _ _ => trivial, ?_⟩))))))))))))
   obtain ⟨rfl, hSt'⟩ := hw
   refine RAny.perm (List.perm_append_comm (l₁ := M') (l₂ := [_, _])) (RAny.tk 8 (bl 12 511) rfl (by kernel_rfl) dc (fun _ _ => trivial) (Yld.eval T rfl rfl) (RAny.tk 9 (bl 12 1023) rfl (by kernel_rfl) dc (fun _ _ => trivial) (Yld.eval T rfl rfl) (RAny.tk 10 (bl 12 2047) rfl (by kernel_rfl) dc (fun _ _ => trivial) (Yld.eval T rfl rfl) (RAny.tk 11 (bl 12 4095) rfl (by kernel_rfl) dc (fun _ _ => trivial) (Yld.eval T rfl rfl) (RAny.done _ (by kernel_rfl) (Run.dropL (List.sublist_cons_self _ _) (rI (rO (fun Z hZ => (fE (Ev.addK (r := ((i + 1 : Nat) : Int)) rfl rfl (by rw [wI (by omega) (by omega)]; omega)) (eE rfl (zN hZ ?_))))))))))))
   skip
   refine Run.keep [0, 1, 2, 5, 15, 16, 17] [_, _, _, _, _, _, _] rfl ?_
   exact ih (v.kids.length - (i + 1)) _ _ _ (by omega) ⟨i + 1, M', rfl, by omega, hSt', rfl, rfl, hle.trans l'⟩
 ·have : i = v.kids.length := by omega
  subst this
  refine rS ?_
  refine rO (fun Z hZ => (kF (Ev.lss rfl rfl) (by omega) (zN hZ ?_)))
  repeat (first | refine rS ?_ | refine Run.exit rfl ?_ | refine rF rfl ?_)
  refine rO (fun Z hZ => (eE rfl (eE rfl (zN hZ ?_))))
  skip
  refine Run.dropL (List.sublist_cons_self _ _) ?_
  refine Run.ret1 (by rw [hCf]; exact func96) results96 rfl (hR _ _ _ ?_)
  exact ⟨rfl, hSt⟩
end Go.V
namespace Go.V
open Go.Proofs.Tryz
open Go.RowKit
set_option maxRecDepth 10000
attribute [local irreducible] Run Ops QD
set_option maxHeartbeats 1000000 in
theorem Value_List (f : Nat) (I : Imm) (cs : List Value) (v : JV) (hrel : (tJV (f + 1)).rel I cs v) (hk : v.kind = 91) (hmax : v.kids.length <= 1099511627776) (N F : FuncId) (ns ws : List Value) (St : Nat -> Imm -> Own -> Prop) (M0 : Own)
  (h0 : Spec prog N ([.int .i64 (v.kids.length : Int)] ++ ns) I M0 fun _ J M => St 0 J M) (hcallN : ∀ args w, (callFunc N args).run prog w = .ok (.enter N args) w)
  (hcall : ∀ args w, (callFunc F args).run prog w = .ok (.enter F args) w) (hmono : ∀ i J J' M, St i J M -> Le J J' -> St i J' M)
  (step : ∀ i x J M kc, Le I J -> v.kids[i]? = some x -> (tJV f).rel J kc x -> St i J M -> Spec prog F ([.int .i64 (i : Int), .agg kc.toArray] ++ ws) J M fun w J' M' => w = .bool true /\ St (i + 1) J' M') :
  Spec prog 107 [.agg cs.toArray, .func (.func N) #[] ns.toArray, .func (.func F) #[] ws.toArray] I M0 fun w J M => w = .bool true /\ St v.kids.length J M := by
 obtain ⟨wk, wn, rfl, hwk, hwn⟩ := hrel
 obtain ⟨A3, z3, rfl⟩ := hwk.isSl
 obtain ⟨A4, z4, rfl⟩ := hwn.isSl
 rw [hk]
 refine Spec.enter 40 [(0, _), (1, _), (2, _)] func107 rfl ntmps107 (by simp) rfl ?_
 intro C hCf hR hCI
 refine rS ?_
 refine Run.region (Ops.box rfl dc rfl rfl (fun b3 => (oP rfl (Ops.nil ?_))))
 repeat refine rS ?_
 refine rO (fun Z hZ => (eE rfl (gY (Yv.load 0 T rfl rfl rfl rfl) (zN hZ ?_))))
 repeat (first | refine rS ?_ | refine rB ?_)
 refine rO (fun Z hZ => (fE (Ev.eqlI rfl rfl) (eE rfl (zN hZ ?_))))
 repeat (first | refine rS ?_ | refine rF rfl ?_)
 refine rO (fun Z hZ => (fE (Ev.eqlI rfl rfl) (eE rfl (zN hZ ?_))))
 repeat (first | refine rS ?_ | refine rT rfl ?_)
 refine Run.region (oP rfl (oP rfl (Ops.load 0 rfl dc rfl rfl (T.aggOk rfl) rfl (oP rfl (Ops.callVX (M := M0) (N := [(b3, _)]) (vs := [.int .i64 (v.kids.length : Int)]) h0 (List.perm_append_comm (l₁ := [_]) (l₂ := M0)) rfl dc hcallN rfl rfl fun w J' M' l' hw => (Ops.perm (List.perm_append_comm (l₁ := M') (l₂ := [_])) (Ops.nil (rS (rO (fun Z hZ => (eE rfl (zN hZ ?_))))))))))))
 repeat refine rS ?_
 refine rO (fun Z hZ => (eE rfl (gY (Yv.load 0 T rfl rfl rfl rfl) (eE rfl (eE rfl (zN hZ ((rB (Run.keep [1, 2, 3, 7, 24, 25, 26] [_, _, _, _, _, _, _] rfl ?_)))))))))
 refine Run.rounds (fun m env L J => ∃ (i : Nat) (M : Own), m = v.kids.length - i /\ i <= v.kids.length /\ St i J M /\
  env = [(1, .func (.func N) #[] ns.toArray), (2, .func (.func F) #[] ws.toArray), (3, .pointer (some ⟨b3, 0, none⟩)), (7, .bool true), (24, .slice A3 v.kids.length z3), (25, .int .i64 (v.kids.length : Int)), (26, .int .i64 (i : Int))] /\
  L = (b3, blk [.int .u8 ((91 : UInt8).toNat : Int), .bool v.plain, str v.text, .slice A3 v.kids.length z3, .slice A4 v.keys.length z4] 129) :: M /\ Le I J) v.kids.length ⟨0, M', by omega, by omega, hw, rfl, rfl, l'⟩ ?_
 rintro m env L J ⟨i, M, rfl, hi, hSt, rfl, rfl, hle⟩ ih
 by_cases hlt : i < v.kids.length
 ·skip
  refine rS ?_
  refine rO (fun Z hZ => (kT (Ev.lss rfl rfl) (by omega) (zN hZ ?_)))
  repeat (first | refine rS ?_ | refine rK ?_ | refine rB ?_ | refine rT rfl ?_)
  refine Run.region (oP rfl (Ops.indexSl (hwk.mono hle) rfl dc rfl rfl (T.undOk rfl) (fun w => by rw [tJV_size]; exact T.sizeOk rfl w) (by omega) (by omega) ?_))
  rintro bx ox kx kc hkx hkr hkA
  rw [show ((i : Int)).toNat = i by omega] at hkx
  cases f with
  | zero => exact hkr.elim
  | succ f =>
   obtain ⟨xk, xn, rfl, hxk, hxn⟩ := id hkr
   obtain ⟨A5, z5, rfl⟩ := hxk.isSl
   obtain ⟨A6, z6, rfl⟩ := hxn.isSl
   refine Ops.loadIN rfl dc rfl hkA (T.aggOk rfl) (T.sizeOk rfl) rfl (Ops.alloc rfl dc (T.zeroOk rfl) rfl (fun b9 => (oP rfl (Ops.store 0 rfl rfl rfl rfl rfl (T.sizeOk rfl) rfl (lb rfl) rfl rfl (Ops.nil ?_)))))
   skip
   have hst := step i kx J M _ hle hkx hkr hSt
   refine Run.region (oP rfl (oP rfl (Ops.loadN 0 rfl dc rfl rfl (T.aggOk rfl) (T.sizeOk rfl) rfl rfl (Ops.callVX (M := M) (N := [(b9, _), (b3, _)]) (vs := [.int .i64 (i : Int), .agg _]) hst (List.perm_append_comm (l₁ := [_, _]) (l₂ := M)) rfl dc hcall rfl rfl fun w J' M' l' hw => ?_))))
   obtain ⟨rfl, hSt'⟩ := hw
   refine Ops.perm (List.perm_append_comm (l₁ := M') (l₂ := [_, _])) ?_
   iterate 4 refine oP rfl ?_
   refine Ops.nil (Run.dropL (List.sublist_cons_self _ _) (rI (rO (fun Z hZ => (fE (Ev.addK (r := ((i + 1 : Nat) : Int)) rfl rfl (by rw [wI (by omega) (by omega)]; omega)) (eE rfl (zN hZ ?_)))))))
   skip
   refine Run.keep [1, 2, 3, 7, 24, 25, 26] [_, _, _, _, _, _, _] rfl ?_
   exact ih (v.kids.length - (i + 1)) _ _ _ (by omega) ⟨i + 1, M', rfl, by omega, hSt', rfl, rfl, hle.trans l'⟩
 ·have : i = v.kids.length := by omega
  subst this
  refine rS ?_
  refine rO (fun Z hZ => (kF (Ev.lss rfl rfl) (by omega) (zN hZ ?_)))
  repeat (first | refine rS ?_ | refine Run.exit rfl ?_ | refine rF rfl ?_)
  refine rO (fun Z hZ => (eE rfl (eE rfl (zN hZ ?_))))
  skip
  refine Run.dropL (List.sublist_cons_self _ _) ?_
  refine Run.ret1 (by rw [hCf]; exact func107) results107 rfl (hR _ _ _ ?_)
  exact ⟨rfl, hSt⟩
end Go.V
namespace Go.V
open Go.RowKit
set_option maxRecDepth 10000
theorem madeCells_one (z : Value) (h : z.cells = #[z]) (c : Nat) : madeCells z.cells c = (List.replicate c z).toArray := by
 rw [h]
 apply Array.ext'
 simp [madeCells, Array.toList_range]
 apply List.ext_getElem
 ·simp
 ·intro i h1 h2
  simp [Nat.mod_one]
section
variable {P : Program} {n : Nat} {C : Cx} {k : List Item} {env : Env} {L : Own} {I : Imm} {ops : Array Oper} {i : Nat} {l : List Oper} {ty : TypeId} {ps : String} {af : Array Edge} {g : Option (Nat × Bool)} {d : Nat}
theorem Ops.makeOne {x y : Operand} {ts e : TypeId} {bytes : Nat} {z : Value} {kl kc : IntKind} {a : Nat} (hE : Elem P ts e 1 bytes) (hz : ∃ iE, P.info? e = some iE /\ iE.zero = some z) (h1 : z.cells = #[z]) (hg : want env ops g = some true) (hd : d < n)
  (hx : opnd env x = some (.int kl (a : Int))) (hy : opnd env y = some (.int kc (a : Int))) (hc : bytes * a <= 281474976710656) (h63 : a <= 281474976710656)
  (next : ∀ b, Ops P n C ops (i + 1) l k ((d, .slice (some ⟨b, 0, none⟩) a a) :: env) ((b, blk (List.replicate a z) e) :: L) I) :
  Ops P n C ops i (⟨some d, .makeSlice ts x y, ty, ps, af, g⟩ :: l) k env L I :=
 Ops.valW hg (dOk hd) fun a0 W he hi => by
  obtain ⟨iE, z', hinfo, hzero, hs1, hb1, hzs⟩ := hE.info
  obtain ⟨iE', hinfo', hz'⟩ := hz
  obtain rfl : iE' = iE := Option.some.inj (hinfo'.symm.trans hinfo)
  obtain rfl : z' = z := Option.some.inj (hzero.symm.trans hz')
  have hr := run_make (P := P) W ts e iE' _ hE.under hinfo hzero kl kc (a : Int) (a : Int) (by omega) (by omega) (by rw [hb1]; have : ((bytes * a : Nat) : Int) <= ((281474976710656 : Nat) : Int) := Int.ofNat_le.2 hc; rw [Int.natCast_mul] at this; exact this) (by omega)
  rw [hs1, Nat.mul_one, Int.toNat_natCast, madeCells_one _ h1] at hr
  refine ⟨.slice (some ⟨W.heap.size, 0, none⟩) a a, _, (W.heap.size, blk (List.replicate a z') e) :: L, I, .inl ?_, hi.alloc _, next _⟩
  simp only [execOp, eval_opnd he hx, eval_opnd he hy, Sem.run_bind, hr, Result.andThen_ok]; rfl
end
end Go.V
namespace Go.V
open Go.Proofs.Tryz
open Go.RowKit
set_option maxRecDepth 10000
attribute [local irreducible] Run Ops QD
theorem zz_SizedNil (I : Imm) (n : Nat) (hn : n <= 1099511627776) : Spec prog 134 [.slice none 0 0, .int .i64 (n : Int)] I [] fun w J M => ∃ b, w = .slice (some ⟨b, 0, none⟩) n n /\ M = [(b, blk (List.replicate n (str [])) 9)] := by
 refine Spec.enter 14 [(0, _), (1, _)] func134 rfl ntmps134 (by simp) rfl ?_
 intro C hCf hR hCI
 refine rS ?_
 refine rO (fun Z hZ => (eE rfl (zN hZ ?_)))
 repeat refine rS ?_
 refine rO (fun Z hZ => (eE rfl (kF (Ev.lss rfl rfl) (by omega) (zN hZ ?_))))
 repeat (first | refine rS ?_ | refine rK ?_ | refine rF rfl ?_)
 refine Run.region (oP rfl (Ops.makeOne el24 ⟨t9, by kernel_rfl, rfl⟩ rfl rfl dc rfl rfl (by omega) (by omega) fun b => (oP rfl (Ops.nil (rS (rP 2 (fun Z hZ => (eE rfl (eE rfl (zN hZ ((Ops.eff rfl (dOk dc) (Eff.copyOwn (size := 1) (b := b) (off := 0) (dl := n) (dc := n) (sl := 0) (q := 0) (sv := .slice none 0 0) (news := []) (cs' := List.replicate n (str [])) 0 T rfl rfl rfl rfl (fun W => rfl) (Nat.zero_min _) rfl (fun W hi => rfl) (by simp) rfl (by simp [setAt]; exact .inr rfl) (Ops.nil (rS (rO (fun Z hZ => (eE rfl (eE rfl (zN hZ ?_))))))))))))))))))))
 skip
 refine Run.ret1 (by rw [hCf]; exact func134) results134 rfl (hR _ _ _ ?_)
 exact ⟨b, rfl, rfl⟩
theorem Strs_size (I : Imm) (n : Nat) (hn : n <= 1099511627776) (b3 x off : Nat) (cells : List Value) (tt : TypeId) (hB : At I b3 0 [.pointer (some ⟨x, off, none⟩)]) (hc : cells[off]? = some (.slice none 0 0)) (ho : off + 1 <= cells.length) :
  Spec prog 133 [.int .i64 (n : Int), .pointer (some ⟨b3, 0, none⟩)] I [(x, blk cells tt)] fun _ J M => ∃ b, M = [(x, blk (setAt cells off [.slice (some ⟨b, 0, none⟩) n n]) tt), (b, blk (List.replicate n (str [])) 9)] := by
 refine Spec.enter 10 [(0, _), (1, _)] func133 rfl ntmps133 (by simp) rfl ?_
 intro C hCf hR hCI
 skip
 refine Run.regionAny (Holds I []) (bl 8 0) (by kernel_rfl) (by kernel_rfl) (RAny.tk 0 (bl 8 1) rfl (by kernel_rfl) dc (fun W h => h.holds (Le.refl _) (by first | exact mp rfl | exact mq rfl)) (Yld.loadI T hB rfl rfl rfl) (RAny.tk 1 (bl 8 3) rfl (by kernel_rfl) dc (fun W h => h.holds (Le.refl _) (by first | exact mp rfl | exact mq rfl)) (Yld.loadI T hB rfl rfl rfl) (RAny.tk 2 (bl 8 7) rfl (by kernel_rfl) dc (fun W h => h.holds (Le.refl _) (by first | exact mp rfl | exact mq rfl)) (Yld.eval T rfl rfl) (RAny.tk 4 (bl 8 23) rfl (by kernel_rfl) dc (fun W h => h.holds (Le.refl _) (by first | exact mp rfl | exact mq rfl)) (Yld.eval T rfl rfl) (RAny.on 3 (bl 8 31) rfl (by kernel_rfl) rfl dc (Eff.yv (Yv.load 0 T rfl rfl rfl hc) ⟨fun W h => h.holds (Le.refl _) (fun _ h => by cases h), ?_⟩))))))
 refine RAny.on 5 (bl 8 63) rfl (by kernel_rfl) rfl dc (Eff.callM (M := []) (N := [_]) (zz_SizedNil I n hn) (.refl _) call134 rfl fun w J' M' l' hw => ⟨fun W h => h.holds l' (fun _ h => by cases h), ?_⟩)
 obtain ⟨b, rfl, rfl⟩ := hw
 skip
 refine RAny.tk 6 (bl 8 127) rfl (by kernel_rfl) dc (fun W h => h.holds l' (by first | exact mp rfl | exact mq rfl)) (Yld.eval T rfl rfl) (RAny.os 7 (bl 8 255) rfl (by kernel_rfl) rfl (Eff.store 1 rfl rfl rfl rfl (T.sizeOk rfl) rfl ho rfl rfl ⟨fun W h => h.holds l' (fun _ h => by cases h), (RAny.done _ (by kernel_rfl) (Run.perm (L' := [(x, _), (b, _)]) (List.Perm.swap _ _ _) (Run.end0 (by rw [hCf]; exact func133) results133 (hR _ _ _ ?_))))⟩))
 exact ⟨b, rfl⟩
theorem Strs_one (f : Nat) (I : Imm) (i n : Nat) (hi : i < n) (hn : n <= 1099511627776) (cs : List Value) (v : JV) (hrel : (tJV (f + 1)).rel I cs v) (hk : v.kind = 34) (b3 x off b : Nat) (cells ys : List Value) (tt : TypeId) (hB : At I b3 0 [.pointer (some ⟨x, off, none⟩)]) (hc : cells[off]? = some (.slice (some ⟨b, 0, none⟩) n n)) (hy : ys.length = n) :
  Spec prog 135 [.int .i64 (i : Int), .agg cs.toArray, .pointer (some ⟨b3, 0, none⟩)] I [(x, blk cells tt), (b, blk ys 9)] fun w J M => w = .bool true /\ M = [(x, blk cells tt), (b, blk (setAt ys i [str v.text]) 9)] := by
 have hrel0 := hrel
 obtain ⟨wk, wn, rfl, hwk, hwn⟩ := hrel
 obtain ⟨A3, z3, rfl⟩ := hwk.isSl
 obtain ⟨A4, z4, rfl⟩ := hwn.isSl
 refine Spec.enter 13 [(0, _), (1, _), (2, _)] func135 rfl ntmps135 (by simp) rfl ?_
 intro C hCf hR hCI
 refine rS ?_
 refine Run.region (Ops.box rfl dc rfl rfl (fun b4 => (oP rfl (Ops.nil (rS (Run.regionT (D := [some 6, some 7, some 8, some 9, some 10, some 11, some 12, some 5]) (fun _ => True) [true, true, true, true, true, true] (bl 8 63) 2 (by kernel_rfl) (by kernel_rfl) (by kernel_rfl) rfl (fun Z hZ => (gY (Yv.loadN 0 T rfl rfl rfl rfl rfl rfl) (gY (Yv.loadI T hB rfl rfl) (eE rfl (gY (Yv.load 1 T rfl rfl rfl hc) (eE rfl (fE (Ev.indexS T rfl rfl rfl rfl om om) (zN hZ ((RAny.on 6 (bl 8 127) rfl (by kernel_rfl) rfl dc (Eff.callM (M := [_]) (N := [(b4, _), (x, _)]) (Value_Str f _ _ v hrel0 b (0 + ((i : Int)).toNat * 1) ys 9 (by omega)) (List.perm_append_comm (l₁ := [_, _]) (l₂ := [_])) call104 rfl fun w J' M' l' hw => ⟨fun _ _ => trivial, ?_⟩)))))))))))))))))
 obtain ⟨rfl, rfl, rfl⟩ := hw
 refine RAny.tk 7 (bl 8 255) rfl (by kernel_rfl) dc (fun _ _ => trivial) (Yld.eval T rfl rfl) (RAny.done _ (by kernel_rfl) ?_)
 skip
 refine Run.perm (L' := (b4, _) :: [(x, _), (b, _)]) (List.perm_append_comm (l₁ := [_]) (l₂ := [_, _])) ?_
 refine Run.dropL (List.sublist_cons_self _ _) ?_
 refine Run.ret1 (by rw [hCf]; exact func135) results135 rfl (hR _ _ _ ?_)
 rw [hk, show 0 + ((i : Int)).toNat * 1 = i by omega]
 exact ⟨rfl, rfl⟩
end Go.V
namespace Go.V
open Go.Proofs.Tryz
open Go.RowKit
set_option maxRecDepth 10000
attribute [local irreducible] Run Ops QD
theorem setAt_get {cells : List Value} {off : Nat} (w : Value) (ho : off + 1 <= cells.length) : (setAt cells off [w])[off]? = some w := by
 unfold setAt
 rw [List.append_assoc, List.getElem?_append_right (by rw [List.length_take]; omega), List.length_take, Nat.min_eq_left (by omega), Nat.sub_self]
 rfl
theorem setAt_fill (A : List Value) (z w : Value) (n : Nat) : setAt (A ++ List.replicate (n + 1) z) A.length [w] = (A ++ [w]) ++ List.replicate n z := by
 unfold setAt
 rw [List.take_left' rfl, show A.length + [w].length = A.length + 1 from rfl, <- List.drop_drop, List.drop_left' rfl, List.replicate_succ, List.drop_one, List.tail_cons]
def StS (v : JV) (x off : Nat) (cells : List Value) (tt : TypeId) (i : Nat) (J : Imm) (M : Own) : Prop :=
 ∃ b, M = [(x, blk (setAt cells off [.slice (some ⟨b, 0, none⟩) v.kids.length v.kids.length]) tt), (b, blk ((v.kids.take i).map (fun y => str y.text) ++ List.replicate (v.kids.length - i) (str [])) 9)]
set_option maxHeartbeats 1000000 in
theorem Value_Strs (f : Nat) (I : Imm) (cs : List Value) (v : JV) (hrel : (tJV (f + 1)).rel I cs v) (hk : v.kind = 91) (hmax : v.kids.length <= 1099511627776) (hs : ∀ y ∈ v.kids, y.kind = 34) (x off : Nat) (cells : List Value) (tt : TypeId) (hc : cells[off]? = some (.slice none 0 0)) (ho : off + 1 <= cells.length) :
  Spec prog 120 [.agg cs.toArray, .pointer (some ⟨x, off, none⟩)] I [(x, blk cells tt)] fun w J M => w = .bool true /\ ∃ b, M = [(x, blk (setAt cells off [.slice (some ⟨b, 0, none⟩) v.kids.length v.kids.length]) tt), (b, blk (v.kids.map (fun y => str y.text)) 9)] := by
 have hrel0 := hrel
 obtain ⟨wk, wn, rfl, hwk, hwn⟩ := hrel
 obtain ⟨A3, z3, rfl⟩ := hwk.isSl
 obtain ⟨A4, z4, rfl⟩ := hwn.isSl
 refine Spec.enter 9 [(0, _), (1, _)] func120 rfl ntmps120 (by simp) rfl ?_
 intro C hCf hR hCI
 refine rS ?_
 refine Run.region (Ops.box rfl dc rfl rfl (fun b2 => (Ops.box rfl dc rfl rfl (fun b3 => (oP rfl (Ops.nil (Run.freezeAt 0 rfl rfl fun J1 l1 hJ1 => ?_)))))))
 have hB : At J1 b3 0 [.pointer (some ⟨x, off, none⟩)] := At.block hJ1
 refine rS ?_
 refine rP 3 (fun Z hZ => (gY (Yv.loadN 0 T rfl rfl rfl rfl rfl rfl) (eE rfl (eE rfl (zN hZ ?_)))))
 have hM := Value_List f J1 _ v ((tJV (f + 1)).mono hrel0 l1) hk hmax 133 135 [.pointer (some ⟨b3, 0, none⟩)] [.pointer (some ⟨b3, 0, none⟩)] (StS v x off cells tt) [(x, blk cells tt)]
  ((Strs_size J1 v.kids.length hmax b3 x off cells tt hB hc ho).mono fun w J M _ ⟨b, h⟩ => ⟨b, by simpa using h⟩)
  call133 call135 (fun _ _ _ _ h _ => h)
  (fun i y J M kc hle hy hr hSt => by
   obtain ⟨b, rfl⟩ := hSt
   cases f with
   | zero => exact hr.elim
   | succ g =>
   have hi : i < v.kids.length := (List.getElem?_eq_some_iff.1 hy).1
   have hA : ((v.kids.take i).map fun y : JV => str y.text).length = i := by rw [List.length_map, List.length_take]; omega
   refine (Strs_one g J i v.kids.length hi hmax kc y hr (hs y (List.mem_of_getElem? hy)) b3 x off b _ _ tt (hB.mono hle) (setAt_get _ ho) (by rw [List.length_append, hA, List.length_replicate]; omega)).mono fun w J' M' _ ⟨h1, h2⟩ => ⟨h1, b, ?_⟩
   rw [h2]
   have e : v.kids.length - i = (v.kids.length - (i + 1)) + 1 := by omega
   have h3 := setAt_fill ((v.kids.take i).map fun y : JV => str y.text) (str []) (str y.text) (v.kids.length - (i + 1))
   rw [hA, <- e] at h3
   rw [h3, List.take_add_one, hy]
   simp)
 refine Ops.callP (N := [_]) (hM) (.refl _) rfl dc call107 rfl ?_
 rintro w J2 M2 l2 ⟨rfl, b, rfl⟩
 refine oP rfl (Ops.nil ?_)
 skip
 refine Run.dropL (L' := [(x, _), (b, _)]) (List.sublist_cons_self _ _) ?_
 refine Run.ret1 (by rw [hCf]; exact func120) results120 rfl (hR _ _ _ ?_)
 refine ⟨rfl, b, ?_⟩
 simp
end Go.V
namespace Go.V
open Go.Proofs.Tryz
open Go.RowKit
set_option maxRecDepth 10000
section
variable {P : Program} {n : Nat} {C : Cx} {env : Env} {L : Own} {I : Imm} {ty : TypeId} {ps : String} {af : Array Edge} {g : Option (Nat × Bool)}
theorem Eff.mapSet {K : Value -> Own -> Imm -> Prop} {t kt et : TypeId} {x y z : Operand} {b : Nat} {o : Obj} {m : KV} {key : List UInt8} {v : Value} (j : Nat) (T : Tab P) (hM : Mp o m) (hx : opnd env x = some (.map (some b))) (hy : opnd env y = some (str key)) (hz : opnd env z = some v)
  (hL : L[j]? = some (b, o)) (hu : T.und t = some (.map kt et)) (hk : T.und kt = some .string)
  (next : ∀ o', Mp o' (mset key v m) -> K undef (upL L j o') I) : Eff P n C env L I ⟨none, .mapUpdate t x y z, ty, ps, af, g⟩ K :=
 Eff.valW fun a W he hi => by
  have hW := hi.fits.own b _ (List.mem_of_getElem? hL)
  obtain ⟨o', hM', hr⟩ := run_mapSet (P := P) (key := key) (v := v) hW hM (und_of_run (W := W) (T.undOk hu W)) (und_of_run (W := W) (T.undOk hk W))
  obtain ⟨R, hp1, hp2⟩ := upL_perm L j b _ o' hL
  refine ⟨undef, _, upL L j o', I, .inr ⟨?_, rfl⟩, ((hi.perm hp1).setObj o').perm hp2.symm, next o' hM'⟩
  simp only [execOp, eval_opnd he hx, eval_opnd he hy, eval_opnd he hz, Sem.run_bind, hr, Result.andThen_ok]; rfl
end
attribute [local irreducible] Run Ops QD
theorem StrMap_one (f : Nat) (I : Imm) (key : Bs) (cs : List Value) (v : JV) (hrel : (tJV (f + 1)).rel I cs v) (hk : v.kind = 34) (b3 x off m : Nat) (cells : List Value) (o : Obj) (tt : TypeId) (mp : KV) (hB : At I b3 0 [.pointer (some ⟨x, off, none⟩)]) (hc : cells[off]? = some (.map (some m))) (hM : Mp o mp) :
  Spec prog 112 [str key, .agg cs.toArray, .pointer (some ⟨b3, 0, none⟩)] I [(x, blk cells tt), (m, o)] fun w J M => w = .bool true /\ ∃ o', Mp o' (mset key (str v.text) mp) /\ M = [(x, blk cells tt), (m, o')] := by
 have hrel0 := hrel
 obtain ⟨wk, wn, rfl, hwk, hwn⟩ := hrel
 obtain ⟨A3, z3, rfl⟩ := hwk.isSl
 obtain ⟨A4, z4, rfl⟩ := hwn.isSl
 refine Spec.enter 16 [(0, _), (1, _), (2, _)] func112 rfl ntmps112 (by simp) rfl ?_
 intro C hCf hR hCI
 refine rS ?_
 refine Run.region (Ops.box rfl dc rfl rfl (fun b4 => (oP rfl (Ops.nil (rS (Run.region (Ops.alloc rfl dc (T.zeroOk rfl) rfl (fun b6 => (Ops.store 0 rfl rfl rfl rfl rfl (T.sizeOk rfl) rfl (lb rfl) rfl rfl (Ops.nil (rS (rP 1 (fun Z hZ => (gY (Yv.loadN 1 T rfl rfl rfl rfl rfl rfl) (zN hZ ((Ops.callM (M := [_]) ((Value_Str f I _ v hrel0 b6 0 [str []] 9 (by simp))) (.refl _) rfl dc call104 rfl ?_)))))))))))))))))
 rintro w J M' l ⟨rfl, rfl, rfl⟩
 rw [if_pos hk, hk]
 refine oP rfl (Ops.nil (rS (Run.regionT (D := [some 10, some 11, some 12, some 13, some 14, none]) (fun _ => True) [true, true, true, true, true] (bl 6 31) 1 (by kernel_rfl) (by kernel_rfl) (by kernel_rfl) rfl (fun Z hZ => (gY (Yv.loadI T hB rfl rfl) (eE rfl (gY (Yv.load 2 T rfl rfl rfl hc) (eE rfl (gY (Yv.load 0 T rfl rfl rfl rfl) (zN hZ ((RAny.os 5 (bl 6 63) rfl (by kernel_rfl) rfl (Eff.mapSet 3 T hM rfl rfl rfl rfl rfl rfl fun o' hM' => ⟨fun _ _ => trivial, (RAny.done _ (by kernel_rfl) (rS (rO (fun Z hZ => (eE rfl (eE rfl (zN hZ ?_)))))))⟩)))))))))))))
 skip
 refine Run.dropL (L' := [(x, _), (m, _)]) (List.Sublist.cons _ (List.Sublist.cons _ (List.Sublist.refl _))) ?_
 refine Run.ret1 (by rw [hCf]; exact func112) results112 rfl (hR _ _ _ ?_)
 exact ⟨rfl, o', hM', rfl⟩
end Go.V
namespace Go.V
open Go.Proofs.Tryz
open Go.RowKit
set_option maxRecDepth 10000
attribute [local irreducible] Run Ops QD
def mbs (l : List (Bs × JV)) : KV := l.foldl (fun mp p => mset p.1 (str p.2.text) mp) []
theorem mbs_snoc (l : List (Bs × JV)) (p : Bs × JV) : mbs (l ++ [p]) = mset p.1 (str p.2.text) (mbs l) := by unfold mbs; rw [List.foldl_append]; rfl
def StM (v : JV) (x off : Nat) (cells : List Value) (tt : TypeId) (m : Nat) (i : Nat) (J : Imm) (M : Own) : Prop :=
 ∃ o, Mp o (mbs ((v.keys.zip v.kids).take i)) /\ M = [(x, blk (setAt cells off [.map (some m)]) tt), (m, o)]
set_option maxHeartbeats 1000000 in
theorem Value_StrMap (f : Nat) (I : Imm) (cs : List Value) (v : JV) (hrel : (tJV (f + 1)).rel I cs v) (hk : v.kind = 123) (hlen : v.keys.length = v.kids.length) (hmax : v.kids.length <= 1099511627776) (hs : ∀ y ∈ v.kids, y.kind = 34) (x off : Nat) (cells : List Value) (tt : TypeId) (hc : cells[off]? = some (.map none)) (ho : off + 1 <= cells.length) :
  Spec prog 102 [.agg cs.toArray, .pointer (some ⟨x, off, none⟩)] I [(x, blk cells tt)] fun w J M => w = .bool true /\ ∃ m o, Mp o (mbs (v.keys.zip v.kids)) /\ M = [(x, blk (setAt cells off [.map (some m)]) tt), (m, o)] := by
 have hrel0 := hrel
 obtain ⟨wk, wn, rfl, hwk, hwn⟩ := hrel
 obtain ⟨A3, z3, rfl⟩ := hwk.isSl
 obtain ⟨A4, z4, rfl⟩ := hwn.isSl
 rw [hk] at hrel0 ⊢
 refine Spec.enter 25 [(0, _), (1, _)] func102 rfl ntmps102 (by simp) rfl ?_
 intro C hCf hR hCI
 refine rS ?_
 refine Run.region (Ops.box rfl dc rfl rfl (fun b2 => (Ops.box rfl dc rfl rfl (fun b3 => (oP rfl (Ops.nil (Run.freezeAt 0 rfl rfl fun J1 l1 hJ1 => ?_)))))))
 have hB : At J1 b3 0 [.pointer (some ⟨x, off, none⟩)] := At.block hJ1
 repeat refine rS ?_
 refine rO (fun Z hZ => (eE rfl (gY (Yv.load 0 T rfl rfl rfl rfl) (fE (Ev.eqlI rfl rfl) (zN hZ ?_)))))
 repeat (first | refine rS ?_ | refine rK ?_ | refine rF rfl ?_)
 refine rO (fun Z hZ => (eE rfl (gY (Yv.load 0 T rfl rfl rfl rfl) (fE (Ev.eqlI rfl rfl) (eE rfl (gY (Yv.loadI T hB rfl rfl) (eE rfl (gY (Yv.load 1 T rfl rfl rfl hc) (fE (Ev.eqlNil T rfl rfl rfl rfl rfl) (eE rfl (zN hZ ((rT rfl (Run.region (Ops.loadI rfl dc rfl hB (T.aggOk rfl) (Ops.makeMap rfl dc fun m => (oP rfl (Ops.store 2 rfl rfl rfl rfl rfl (T.sizeOk rfl) rfl ho rfl rfl (Ops.nil (rS (Run.perm (L' := [(b2, _), (x, _), (m, _)]) (List.perm_append_comm (l₁ := [_]) (l₂ := [_, _])) (rP 2 (fun Z hZ => (gY (Yv.loadN 0 T rfl rfl rfl rfl rfl rfl) (eE rfl (zN hZ ?_))))))))))))))))))))))))))
 have hM := Value_Members f J1 _ v ((tJV (f + 1)).mono hrel0 l1) hk hlen hmax 112 [.pointer (some ⟨b3, 0, none⟩)] (StM v x off cells tt m) _ ⟨_, Mp.new, rfl⟩ call112 (fun _ _ _ _ h _ => h)
  (fun i key y J M kc hle hkey hy hr hSt => by
   obtain ⟨o, hMp, rfl⟩ := hSt
   cases f with
   | zero => exact hr.elim
   | succ g =>
   refine (StrMap_one g J key kc y hr (hs y (List.mem_of_getElem? hy)) b3 x off m _ o tt _ (hB.mono hle) (setAt_get _ ho) hMp).mono fun w J' M' _ ⟨h1, o', h2, h3⟩ => ⟨h1, o', ?_, h3⟩
   have hz : (v.keys.zip v.kids)[i]? = some (key, y) := by rw [List.getElem?_zip_eq_some]; exact ⟨hkey, hy⟩
   rw [List.take_add_one, hz]
   show Mp o' (mbs ((v.keys.zip v.kids).take i ++ [(key, y)]))
   rw [mbs_snoc]
   exact h2)
 refine Ops.callP (N := [_]) (hM) (.refl _) rfl dc call96 rfl ?_
 rintro w J2 M2 l2 ⟨rfl, o, hMp, rfl⟩
 refine oP rfl (Ops.nil ?_)
 skip
 refine Run.dropL (L' := [(x, _), (m, _)]) (List.sublist_cons_self _ _) ?_
 refine Run.ret1 (by rw [hCf]; exact func102) results102 rfl (hR _ _ _ ?_)
 refine ⟨rfl, m, o, ?_, rfl⟩
 rw [List.take_of_length_le (by rw [List.length_zip]; omega)] at hMp
 exact hMp
end Go.V
namespace Go.V
open Go.RowKit
set_option maxRecDepth 10000
def tx (d : Bool) (s : Bs) : Bs := if d then s else []
theorem tx_end {d : Bool} {s : Bs} (h : d = false -> s = []) : tx d s = s := by
 cases d with
 | true => rfl
 | false => exact (h rfl).symm
theorem mbs_kvs (l : List (Bs × JV)) : mbs l = kvs (l.map fun p => (p.1, p.2.text)) := by
 unfold mbs kvs
 rw [List.foldl_map]
def slT (J : Imm) (d : Bool) (c : Value) (l : List Bs) : Prop := if d then Sl tStr J c l else c = .slice none 0 0
def slB (J : Imm) (d : Bool) (c : Value) (l : Bs) : Prop := if d then Sl tU8 J c l else c = .slice none 0 0
def mpC (J : Imm) (d : Bool) (c : Value) (l : List K2) : Prop := if d then ∃ m o, c = .map (some m) /\ J m = some o /\ Mp o (kvs l) else c = .map none
theorem slT.mono {J K : Imm} {d : Bool} {c : Value} {l : List Bs} (h : slT J d c l) (hle : Le J K) : slT K d c l := by
 cases d with
 | true => exact Sl.mono h hle
 | false => exact h
theorem slB.mono {J K : Imm} {d : Bool} {c : Value} {l : Bs} (h : slB J d c l) (hle : Le J K) : slB K d c l := by
 cases d with
 | true => exact Sl.mono h hle
 | false => exact h
theorem mpC.mono {J K : Imm} {d : Bool} {c : Value} {l : List K2} (h : mpC J d c l) (hle : Le J K) : mpC K d c l := by
 cases d with
 | true => obtain ⟨m, o, h1, h2, h3⟩ := h; exact ⟨m, o, h1, hle m o h2, h3⟩
 | false => exact h
theorem slT.fin {J : Imm} {d : Bool} {c : Value} {l : List Bs} (h : slT J d c l) (hd : d = false -> l = []) : Sl tStr J c l := by
 cases d with
 | true => exact h
 | false => rw [hd rfl, show c = _ from h]; exact Sl.nil _ _
theorem slB.fin {J : Imm} {d : Bool} {c : Value} {l : Bs} (h : slB J d c l) (hd : d = false -> l = []) : Sl tU8 J c l := by
 cases d with
 | true => exact h
 | false => rw [hd rfl, show c = _ from h]; exact Sl.nil _ _
theorem mpC.fin {J : Imm} {d : Bool} {c : Value} {l : List K2} (h : mpC J d c l) (hd : d = false -> l = []) : MapR J c l := by
 cases d with
 | true => exact .inr h
 | false => exact .inl ⟨h, hd rfl⟩
def pfSt (J : Imm) (x : PfL) (D : Int -> Bool) (pc : List Value) : Prop := ∃ cf cg, pc = [str (tx (D 0) x.1.arch), str (tx (D 1) x.1.os), str (tx (D 2) x.1.ver), cf, str (tx (D 4) x.1.var), cg] /\ slT J (D 3) cf x.2.1 /\ slT J (D 5) cg x.2.2
theorem pfSt.mono {J K : Imm} {x : PfL} {D : Int -> Bool} {pc : List Value} (h : pfSt J x D pc) (hle : Le J K) : pfSt K x D pc := by
 obtain ⟨cf, cg, h1, h2, h3⟩ := h
 exact ⟨cf, cg, h1, h2.mono hle, h3.mono hle⟩
def pfR (J : Imm) (x : PfL) (pc : List Value) : Prop := ∃ cf cg, pc = [str x.1.arch, str x.1.os, str x.1.ver, cf, str x.1.var, cg] /\ Sl tStr J cf x.2.1 /\ Sl tStr J cg x.2.2
theorem pfSt.fin {J : Imm} {x : PfL} {D : Int -> Bool} {pc : List Value} (h : pfSt J x D pc) (hE : plE x D) : pfR J x pc := by
 obtain ⟨cf, cg, rfl, h2, h3⟩ := h
 obtain ⟨e0, e1, e2, e3, e4, e5⟩ := hE
 rw [tx_end e0, tx_end e1, tx_end e2, tx_end e4]
 exact ⟨cf, cg, rfl, h2.fin e3, h3.fin e5⟩
theorem pfR.mono {J K : Imm} {x : PfL} {pc : List Value} (h : pfR J x pc) (hle : Le J K) : pfR K x pc := by
 obtain ⟨cf, cg, h1, h2, h3⟩ := h
 exact ⟨cf, cg, h1, h2.mono hle, h3.mono hle⟩
def plP (J : Imm) (c : Value) (l : List PfL) : Prop := ∃ p r b pc, l = p :: r /\ c = .pointer (some ⟨b, 0, none⟩) /\ At J b 0 pc /\ pfR J p pc
def plC (J : Imm) (d : Bool) (c : Value) (l : List PfL) : Prop := if d then plP J c l else c = .pointer none
theorem plP.mono {J K : Imm} {c : Value} {l : List PfL} (h : plP J c l) (hle : Le J K) : plP K c l := by
 obtain ⟨p, r, b, pc, h1, h2, h3, h4⟩ := h
 exact ⟨p, r, b, pc, h1, h2, h3.mono hle, h4.mono hle⟩
theorem plC.mono {J K : Imm} {d : Bool} {c : Value} {l : List PfL} (h : plC J d c l) (hle : Le J K) : plC K d c l := by
 cases d with
 | true => exact plP.mono h hle
 | false => exact h
def PlR (J : Imm) (c : Value) (l : List PfL) : Prop := (c = .pointer none /\ l = []) \/ plP J c l
theorem PlR.mono {J K : Imm} {c : Value} {l : List PfL} (h : PlR J c l) (hle : Le J K) : PlR K c l := h.imp id fun h => h.mono hle
theorem plC.fin {J : Imm} {d : Bool} {c : Value} {l : List PfL} (h : plC J d c l) (hd : d = false -> l = []) : PlR J c l := by
 cases d with
 | true => exact .inr h
 | false => exact .inl ⟨h, hd rfl⟩
def z9 : List Value := [str [], .int .i64 0, str [], str [], .slice none 0 0, .slice none 0 0, .map none, .pointer none, str []]
def dsSt (J : Imm) (x : Ds) (D : Int -> Bool) (dc : List Value) : Prop := ∃ cd cu cm cp, dc = [str (tx (D 0) x.media), .int .i64 (if D 1 then x.size else 0), str (tx (D 2) x.dig.1), str (tx (D 2) x.dig.2), cd, cu, cm, cp, str (tx (D 7) x.art)] /\
 slB J (D 3) cd x.data /\ slT J (D 4) cu x.urls /\ mpC J (D 5) cm x.anns /\ plC J (D 6) cp x.plats
theorem dsSt.mono {J K : Imm} {x : Ds} {D : Int -> Bool} {pc : List Value} (h : dsSt J x D pc) (hle : Le J K) : dsSt K x D pc := by
 obtain ⟨cd, cu, cm, cp, h1, h2, h3, h4, h5⟩ := h
 exact ⟨cd, cu, cm, cp, h1, h2.mono hle, h3.mono hle, h4.mono hle, h5.mono hle⟩
theorem dsSt.zero (J : Imm) (x : Ds) : dsSt J x (fun _ => false) z9 := ⟨_, _, _, _, rfl, rfl, rfl, rfl, rfl⟩
def dsV (J : Imm) (x : Ds) (dc : List Value) : Prop := ∃ cd cu cm cp, dc = [str x.media, .int .i64 x.size, str x.dig.1, str x.dig.2, cd, cu, cm, cp, str x.art] /\ Sl tU8 J cd x.data /\ Sl tStr J cu x.urls /\ MapR J cm x.anns /\ PlR J cp x.plats
theorem dsV.mono {J K : Imm} {x : Ds} {pc : List Value} (h : dsV J x pc) (hle : Le J K) : dsV K x pc := by
 obtain ⟨cd, cu, cm, cp, h1, h2, h3, h4, h5⟩ := h
 exact ⟨cd, cu, cm, cp, h1, h2.mono hle, h3.mono hle, h4.mono hle, h5.mono hle⟩
theorem dsSt.fin {J : Imm} {x : Ds} {D : Int -> Bool} {dc : List Value} (h : dsSt J x D dc) (hE : dsE x D) : dsV J x dc := by
 obtain ⟨cd, cu, cm, cp, rfl, h2, h3, h4, h5⟩ := h
 obtain ⟨e0, e1, e2, e3, e4, e5, e6, e7⟩ := hE
 have hz : (if D 1 then x.size else 0) = x.size := by
  split
  ·rfl
  ·rename_i h; exact (e1 (by simpa using h)).symm
 rw [tx_end e0, hz, tx_end fun h => by rw [e2 h], tx_end fun h => by rw [e2 h], tx_end e7]
 exact ⟨cd, cu, cm, cp, rfl, h2.fin e3, h3.fin e4, h4.fin e5, h5.fin e6⟩
def tDv : Ty Ds := ⟨9, fun I cs d => dsV I d cs, fun h => by obtain ⟨cd, cu, cm, cp, rfl, _⟩ := h; rfl, fun h hle => dsV.mono h hle⟩
end Go.V
namespace Go.V
open Go.Proofs.Tryz
open Go.RowKit
set_option maxRecDepth 10000
attribute [local irreducible] Run Ops QD
theorem members_take (f : Nat) (I : Imm) (cs : List Value) (v : JV) (hrel : (tJV (f + 1)).rel I cs v) (names : List Bs) (Mb : Bs × JV -> Prop) (E : (Int -> Bool) -> Prop) (hv : obR names Mb E v) (F : FuncId) (ws : List Value) (St : (Int -> Bool) -> Imm -> Own -> Prop) (M0 : Own)
  (h0 : St (fun _ => false) I M0) (hcall : ∀ args w, (callFunc F args).run prog w = .ok (.enter F args) w) (hmono : ∀ D J J' M, St D J M -> Le J J' -> St D J' M)
  (step : ∀ D m J M kc, Le I J -> Mb m -> (tJV f).rel J kc m.2 -> (fieldR m.1 names ≠ -1 -> D (fieldR m.1 names) = false) -> St D J M -> Spec prog F ([str m.1, .agg kc.toArray] ++ ws) J M fun w J' M' => w = .bool true /\ St (upd D (fieldR m.1 names)) J' M') :
  Spec prog 96 [.agg cs.toArray, .func (.func F) #[] ws.toArray] I M0 fun w J M => w = .bool true /\ ∃ D, E D /\ St D J M := by
 obtain ⟨hk, ms, hkeys, hkids, hms, hok, hap, hE⟩ := hv
 refine (Value_Members f I cs v hrel hk (by rw [hkeys, hkids, List.length_map, List.length_map]) (by rw [hkids, List.length_map]; omega) F ws (fun i J M => St (hasF names (ms.take i)) J M) M0 h0 hcall (fun i J J' M h l => hmono _ _ _ _ h l)
  (fun i key y J M kc hle hkey hkid hr hSt => by
   rw [hkeys, List.getElem?_map] at hkey
   rw [hkids, List.getElem?_map] at hkid
   cases hm : ms[i]? with
   | none => rw [hm] at hkey; cases hkey
   | some m =>
    rw [hm] at hkey hkid
    obtain rfl : m.1 = key := Option.some.inj hkey
    obtain rfl : m.2 = y := Option.some.inj hkid
    refine (step _ m J M kc hle (hok m (List.mem_of_getElem? hm)) hr (apart_take hap hm) hSt).mono ?_
    rintro w J' M' _ ⟨rfl, h⟩
    refine ⟨rfl, ?_⟩
    obtain ⟨hi, e⟩ := List.getElem?_eq_some_iff.1 hm
    rw [List.take_succ_eq_append_getElem hi, hasF_snoc, e]
    exact h)).mono ?_
 rintro w J' M' _ ⟨rfl, h⟩
 rw [hkids, List.length_map, List.take_length] at h
 exact ⟨rfl, _, hE, h⟩
end Go.V
namespace Go.V
open Go.Proofs.Tryz
open Go.RowKit
set_option maxRecDepth 10000
attribute [local irreducible] Run Ops
set_option maxHeartbeats 1000000 in
theorem v1_parseAt (I : Imm) (s : Tx) (hg : digGood s = true) (x off : Nat) (cells : List Value) (tt : TypeId) (ho : off + 2 <= cells.length) :
  Spec prog 128 [.pointer (some ⟨x, off, none⟩), str s] I [(x, blk cells tt)] fun w J M => w = .nilIface /\ M = [(x, blk (setAt (setAt cells off [str sha256T']) (off + 1) [str (s.drop 7)]) tt)] := by
 obtain ⟨e, h1, h2⟩ := digGood_split hg
 have hk := ix_dig hg
 have hl : s.length = 71 := by
  simp only [digGood, Bool.and_eq_true, decide_eq_true_eq] at hg
  exact hg.1
 have hp : pOk s = true := pOk_eq s ▸ hg
 have e6 : s.take 6 = sha256T' := by rw [e]; rfl
 have ec : cutT 58 s = (sha256T', s.drop 7, true) := by simp [cutT, hk, e6]
 have hal : allR (s.drop 7) hexT = true /\ (s.drop 7).length = 64 := by
  simp only [pOk, hk, Bool.and_eq_true, decide_eq_true_eq] at hp
  exact ⟨hp.2.1, hp.2.2⟩
 refine Spec.enter 62 [(0, _), (1, _)] func128 rfl ntmps128 (by simp) rfl ?_
 intro C hCf hR hCI
 repeat (first | refine rS ?_ | refine Run.region ?_ | refine Ops.nil ?_ | refine oP rfl ?_)
 refine Ops.call ((v1_zzCut I s 58 (by omega))) rfl dc call142 rfl ?_
 rintro _ J1 l1 rfl
 rw [ec]
 generalize s.drop 7 = bd at *
 have h2' : decide (bd = []) = false := decide_eq_false fun h => by rw [h] at hal; simp at hal
 repeat (first | refine rS ?_ | refine Run.region ?_ | refine Ops.nil ?_ | refine Ops.eqlStr rfl (by decide) rfl rfl ?_ | refine oP rfl ?_)
 rw [h2']
 repeat (first | refine rS ?_ | refine Run.region ?_ | refine rK ?_ | refine rF rfl ?_ | refine oP rfl ?_)
 refine Ops.call ((v1_zzTrimLeft J1 bd hexT (by omega) dc)) rfl dc call143 rfl ?_
 rintro _ J2 l2 ⟨z, rfl, hz⟩
 repeat (first | refine rS ?_ | refine Run.region ?_ | refine Ops.nil ?_ | refine Ops.neq rfl (by decide) rfl rfl ?_ | refine oP rfl ?_ | refine Ops.lenS T rfl (by decide) rfl rfl ?_)
 cases hz0 : decide (z.length = 0) with
 | false => rw [hz0, hal.1] at hz; exact absurd hz (by decide)
 | true =>
 have hz1 : decide ((z.length : Int) = 0) = true := decide_eq_true (by have := of_decide_eq_true hz0; omega)
 rw [hz1]
 repeat (first | refine rS ?_ | refine Run.region ?_ | refine Ops.nil ?_ | refine rK ?_ | refine rB ?_ | refine rI ?_ | refine rT rfl ?_ | refine rF rfl ?_ | refine Ops.eqlStr rfl (by decide) rfl rfl ?_ | refine oP rfl ?_ | refine Ops.lenS T rfl (by decide) rfl rfl ?_)
 refine Ops.ev (Ev.mulI rfl rfl (wI dc dc)) rfl dc ?_
 repeat (first | refine Ops.nil ?_ | refine Ops.neq rfl (by decide) rfl rfl ?_)
 have h7 : decide ((bd.length : Int) = 2 * 32) = true := decide_eq_true (by omega)
 rw [h7]
 repeat (first | refine rS ?_ | refine Run.region ?_ | refine rK ?_ | refine rF rfl ?_ | refine oP rfl ?_)
 refine Ops.store 0 rfl rfl rfl rfl rfl (T.sizeOk rfl) rfl (show off + 0 + 1 <= _ by omega) rfl rfl ?_
 repeat (first | refine rS ?_ | refine Run.region ?_ | refine Ops.nil ?_ | refine oP rfl ?_)
 refine Ops.store 0 rfl rfl rfl rfl rfl (T.sizeOk rfl) rfl (show off + 1 + 1 <= _ by simp [setAt]; omega) rfl rfl ?_
 repeat (first | refine rS ?_ | refine Run.region ?_ | refine Ops.nil ?_ | refine oP rfl ?_)
 refine Run.ret1 (by rw [hCf]; exact func128) results128 rfl (hR _ _ _ ?_)
 exact ⟨rfl, rfl⟩
end Go.V
namespace Go.V
open Go.Proofs.Tryz
open Go.RowKit
set_option maxRecDepth 10000
attribute [local irreducible] Run Ops QD
theorem Hash_take (f : Nat) (I : Imm) (cs : List Value) (v : JV) (hrel : (tJV (f + 1)).rel I cs v) (hk : v.kind = 34) (hg : digGood v.text = true) (x off : Nat) (cells : List Value) (tt : TypeId) (ho : off + 2 <= cells.length) :
  Spec prog 118 [.pointer (some ⟨x, off, none⟩), .agg cs.toArray] I [(x, blk cells tt)] fun w J M => w = .bool true /\ M = [(x, blk (setAt (setAt cells off [str sha256T']) (off + 1) [str (v.text.drop 7)]) tt)] := by
 have hrel0 := hrel
 obtain ⟨wk, wn, rfl, hwk, hwn⟩ := hrel
 obtain ⟨A3, z3, rfl⟩ := hwk.isSl
 obtain ⟨A4, z4, rfl⟩ := hwn.isSl
 refine Spec.enter 14 [(0, _), (1, _)] func118 rfl ntmps118 (by simp) rfl ?_
 intro C hCf hR hCI
 refine rS ?_
 refine Run.region (Ops.box rfl dc rfl rfl (fun b3 => (oP rfl (Ops.nil (rS (Run.region (Ops.alloc rfl dc (T.zeroOk rfl) rfl (fun b5 => (Ops.store 0 rfl rfl rfl rfl rfl (T.sizeOk rfl) rfl (lb rfl) rfl rfl (Ops.nil (rS (rP 1 (fun Z hZ => (gY (Yv.loadN 1 T rfl rfl rfl rfl rfl rfl) (zN hZ ((Ops.callM (M := [_]) ((Value_Str f I _ v hrel0 b5 0 [str []] 9 (by simp))) (.refl _) rfl dc call104 rfl ?_)))))))))))))))))
 rintro w J M' l ⟨rfl, rfl, rfl⟩
 rw [if_pos hk, hk]
 iterate 2 refine oP rfl ?_
 refine Ops.load 0 rfl dc rfl rfl (T.aggOk rfl) rfl (Ops.callP (N := [_, _]) ((v1_parseAt J v.text hg x off cells tt ho)) (.refl _) rfl dc call128 rfl ?_)
 rintro w J2 M2 l2 ⟨rfl, rfl⟩
 refine Ops.ev (Ev.eqlNil T rfl rfl rfl rfl rfl) rfl dc (oP rfl (oP rfl (Ops.nil ?_)))
 skip
 refine Run.dropL (L' := [(x, _)]) (List.Sublist.cons _ (List.sublist_cons_self _ _)) ?_
 refine Run.ret1 (by rw [hCf]; exact func118) results118 rfl (hR _ _ _ ?_)
 exact ⟨rfl, rfl⟩
end Go.V
namespace Go.V
open Go.Proofs.Tryz
open Go.Shelf Go.Proofs
set_option maxRecDepth 100000
def ren174 : Go.Shelf.Ren := ⟨fun | 129 => 158 | 171 => 141 | 174 => 106 | 205 => 140 | 243 => 145 | 245 => 116 | 246 => 150 | 247 => 115 | 279 => 124 | 280 => 125 | 281 => 126 | 282 => 127 | 283 => 153 | 284 => 154 | 285 => 155 | 286 => 156 | 287 => 123 | 316 => 139 | 317 => 157 | 318 => 159 | 319 => 160 | 320 => 161 | 321 => 137 | 322 => 138 | 337 => 162 | 338 => 163 | n => n, fun | 0 => 0 | 2 => 2 | 3 => 3 | 4 => 4 | 5 => 5 | 9 => 9 | 20 => 20 | 21 => 21 | 37 => 32 | 46 => 117 | 51 => 153 | 53 => 141 | 75 => 64 | 80 => 86 | 85 => 190 | 127 => 164 | 143 => 154 | 145 => 228 | 167 => 203 | 168 => 206 | 171 => 241 | 173 => 244 | 175 => 204 | 210 => 217 | 212 => 247 | 213 => 248 | 232 => 252 | 233 => 253 | n => n, fun | 15 => 3 | 16 => 4 | 17 => 5 | 18 => 6 | 19 => 7 | n => n⟩
theorem lays174 : LaysC.n174 prog ren174 := {
 mixed := by kernel_rfl
 f129 := func158.trans (congrArg some (by kernel_rfl))
 f171 := func141.trans (congrArg some (by kernel_rfl))
 f174 := func106.trans (congrArg some (by kernel_rfl))
 f205 := func140.trans (congrArg some (by kernel_rfl))
 f243 := func145.trans (congrArg some (by kernel_rfl))
 f245 := func116.trans (congrArg some (by kernel_rfl))
 f246 := func150.trans (congrArg some (by kernel_rfl))
 f247 := func115.trans (congrArg some (by kernel_rfl))
 f279 := func124.trans (congrArg some (by kernel_rfl))
 f280 := func125.trans (congrArg some (by kernel_rfl))
 f281 := func126.trans (congrArg some (by kernel_rfl))
 f282 := func127.trans (congrArg some (by kernel_rfl))
 f283 := func153.trans (congrArg some (by kernel_rfl))
 f284 := func154.trans (congrArg some (by kernel_rfl))
 f285 := func155.trans (congrArg some (by kernel_rfl))
 f286 := func156.trans (congrArg some (by kernel_rfl))
 f287 := func123.trans (congrArg some (by kernel_rfl))
 f316 := func139.trans (congrArg some (by kernel_rfl))
 f317 := func157.trans (congrArg some (by kernel_rfl))
 f318 := func159.trans (congrArg some (by kernel_rfl))
 f319 := func160.trans (congrArg some (by kernel_rfl))
 f320 := func161.trans (congrArg some (by kernel_rfl))
 f321 := func137.trans (congrArg some (by kernel_rfl))
 f322 := func138.trans (congrArg some (by kernel_rfl))
 f337 := func162.trans (congrArg some (by kernel_rfl))
 f338 := func163.trans (congrArg some (by kernel_rfl))
 t0 := underlying0
 a0 := isAgg0
 z0 := sizeOf0
 v0 := zeroValue0
 t2 := underlying2
 a2 := isAgg2
 z2 := sizeOf2
 v2 := zeroValue2
 t3 := underlying3
 a3 := isAgg3
 z3 := sizeOf3
 v3 := zeroValue3
 t4 := underlying4
 a4 := isAgg4
 z4 := sizeOf4
 v4 := zeroValue4
 t5 := underlying5
 a5 := isAgg5
 z5 := sizeOf5
 v5 := zeroValue5
 t9 := underlying9
 a9 := isAgg9
 z9 := sizeOf9
 v9 := zeroValue9
 t20 := underlying20
 a20 := isAgg20
 z20 := sizeOf20
 v20 := zeroValue20
 t21 := underlying21
 a21 := isAgg21
 z21 := sizeOf21
 v21 := zeroValue21
 t37 := underlying32
 a37 := isAgg32
 z37 := sizeOf32
 v37 := zeroValue32
 t46 := underlying117
 a46 := isAgg117
 z46 := sizeOf117
 v46 := zeroValue117
 t51 := underlying153
 a51 := isAgg153
 z51 := sizeOf153
 v51 := zeroValue153
 t53 := underlying141
 a53 := isAgg141
 z53 := sizeOf141
 v53 := zeroValue141
 t75 := underlying64
 a75 := isAgg64
 z75 := sizeOf64
 v75 := zeroValue64
 t85 := underlying190
 a85 := isAgg190
 z85 := sizeOf190
 v85 := zeroValue190
 t127 := underlying164
 a127 := isAgg164
 z127 := sizeOf164
 v127 := zeroValue164
 t143 := underlying154
 a143 := isAgg154
 z143 := sizeOf154
 v143 := zeroValue154
 t145 := underlying228
 a145 := isAgg228
 z145 := sizeOf228
 v145 := zeroValue228
 t167 := underlying203
 a167 := isAgg203
 z167 := sizeOf203
 v167 := zeroValue203
 t168 := underlying206
 a168 := isAgg206
 z168 := sizeOf206
 v168 := zeroValue206
 t171 := underlying241
 a171 := isAgg241
 z171 := sizeOf241
 v171 := zeroValue241
 t173 := underlying244
 a173 := isAgg244
 z173 := sizeOf244
 v173 := zeroValue244
 t175 := underlying204
 a175 := isAgg204
 z175 := sizeOf204
 v175 := zeroValue204
 t210 := underlying217
 a210 := isAgg217
 z210 := sizeOf217
 v210 := zeroValue217
 t212 := underlying247
 a212 := isAgg247
 z212 := sizeOf247
 v212 := zeroValue247
 t213 := underlying248
 a213 := isAgg248
 z213 := sizeOf248
 t232 := underlying252
 a232 := isAgg252
 z232 := sizeOf252
 v232 := zeroValue252
 t233 := underlying253
 a233 := isAgg253
 z233 := sizeOf253
 v233 := zeroValue253
 g15 := by kernel_rfl
 g16 := by kernel_rfl
 g17 := by kernel_rfl
 g18 := by kernel_rfl
 g19 := by kernel_rfl
 t80 := underlying86
 a80 := isAgg86
 z80 := sizeOf86
 v80 := zeroValue86
 i0 := by kernel_rfl
 i2 := by kernel_rfl
 i3 := by kernel_rfl
 i4 := by kernel_rfl
 i5 := by kernel_rfl
 i9 := by kernel_rfl
 i20 := by kernel_rfl
 i21 := by kernel_rfl
 i37 := by kernel_rfl
 i46 := by kernel_rfl
 i51 := by kernel_rfl
 i53 := by kernel_rfl
 i75 := by kernel_rfl
 i80 := by kernel_rfl
 i85 := by kernel_rfl
 i127 := by kernel_rfl
 i143 := by kernel_rfl
 i145 := by kernel_rfl
 i167 := by kernel_rfl
 i168 := by kernel_rfl
 i171 := by kernel_rfl
 i173 := by kernel_rfl
 i175 := by kernel_rfl
 i210 := by kernel_rfl
 i212 := by kernel_rfl
 i232 := by kernel_rfl
 i233 := by kernel_rfl
 m15 := by kernel_rfl
 m16 := by kernel_rfl
 m17 := by kernel_rfl
 m18 := by kernel_rfl
 m19 := by kernel_rfl
 c0 := by kernel_rfl
 c2 := by kernel_rfl
 c3 := by kernel_rfl
 c4 := by kernel_rfl
 c5 := by kernel_rfl
 c9 := by kernel_rfl
 c20 := by kernel_rfl
 c21 := by kernel_rfl
 c37 := by kernel_rfl
 c46 := by kernel_rfl
 c51 := by kernel_rfl
 c53 := by kernel_rfl
 c75 := by kernel_rfl
 c80 := by kernel_rfl
 c85 := by kernel_rfl
 c127 := by kernel_rfl
 c143 := by kernel_rfl
 c145 := by kernel_rfl
 c167 := by kernel_rfl
 c168 := by kernel_rfl
 c171 := by kernel_rfl
 c173 := by kernel_rfl
 c175 := by kernel_rfl
 c210 := by kernel_rfl
 c212 := by kernel_rfl
 c213 := by kernel_rfl
 c232 := by kernel_rfl
 c233 := by kernel_rfl }
end Go.V
namespace Go.V
open Go.Proofs.Tryz
open Go.RowKit
set_option maxRecDepth 10000
attribute [local irreducible] Run Ops QD
theorem strconv_ParseInt (I : Imm) (s : Bs) (hs : s.length <= 1099511627776) (v : Int) (h : Lib.parseIntB 64 s = .ok v) : Pure prog 106 [str s, .int .i64 10, .int .i64 64] I fun w J => w = .tuple #[.int .i64 v, .nilIface] /\ J = I :=
 Pure.ofBelow fun W hf => by
  have := Proofs.Any.strconv_ParseInt_10_at64_ok lays174 ⟨s.toArray⟩ (by rw [str_size]; omega) v h W
  refine Calls.mono this ?_
  rintro e w' ⟨h1, h2⟩
  refine ⟨h1, ?_⟩
  rcases h2 with rfl | ⟨t, rfl⟩
  ·exact Below.refl _ _
  ·exact Lib.bytesWorld_below _ _ _
theorem Value_Int (f : Nat) (I : Imm) (cs : List Value) (v : JV) (hrel : (tJV (f + 1)).rel I cs v) (hk : v.kind = 48) (hl : v.text.length <= 1099511627776) (z : Int) (hz : Lib.parseIntB 64 v.text = .ok z) (x off : Nat) (cells : List Value) (tt : TypeId) (ho : off + 1 <= cells.length) :
  Spec prog 99 [.agg cs.toArray, .pointer (some ⟨x, off, none⟩)] I [(x, blk cells tt)] fun w J M => w = .bool true /\ M = [(x, blk (setAt cells off [.int .i64 z]) tt)] := by
 obtain ⟨wk, wn, rfl, hwk, hwn⟩ := hrel
 obtain ⟨A3, z3, rfl⟩ := hwk.isSl
 obtain ⟨A4, z4, rfl⟩ := hwn.isSl
 rw [hk]
 refine Spec.enter 26 [(0, _), (1, _)] func99 rfl ntmps99 (by simp) rfl ?_
 intro C hCf hR hCI
 refine rS ?_
 refine Run.region (Ops.box rfl dc rfl rfl (fun b2 => (oP rfl (Ops.nil ?_))))
 repeat refine rS ?_
 refine rO (fun Z hZ => (eE rfl (gY (Yv.load 0 T rfl rfl rfl rfl) (fE (Ev.neqI rfl rfl) (zN hZ ?_)))))
 repeat (first | refine rS ?_ | refine rK ?_ | refine rF rfl ?_)
 refine rP 2 (fun Z hZ => (eE rfl (gY (Yv.load 0 T rfl rfl rfl rfl) (zN hZ ((Ops.call ((strconv_ParseInt I v.text hl z hz)) rfl dc call106 rfl ?_))))))
 rintro _ J l ⟨rfl, rfl⟩
 iterate 5 refine oP rfl ?_
 refine Ops.nil ?_
 repeat refine rS ?_
 refine rO (fun Z hZ => (eE rfl (fE (Ev.eqlNil T rfl rfl rfl rfl rfl) (zN hZ ((rT rfl (rP 3 (fun Z hZ => (eE rfl (eE rfl (eE rfl (zN hZ ((Ops.store 1 rfl rfl rfl rfl rfl (T.sizeOk rfl) rfl ho rfl rfl (Ops.nil (rS (rO (fun Z hZ => (eE rfl (fE (Ev.eqlNil T rfl rfl rfl rfl rfl) (eE rfl (zN hZ ?_))))))))))))))))))))))
 skip
 refine Run.dropL (List.sublist_cons_self _ _) ?_
 refine Run.ret1 (by rw [hCf]; exact func99) results99 rfl (hR _ _ _ ?_)
 exact ⟨rfl, rfl⟩
end Go.V
