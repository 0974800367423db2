import Derived.Test.YtandfbmdopbikaaGreatDoorXM2
import Derived.Test.YtandfbmdopbikaaGreatDoorXM4
import Derived.Test.YtandfbmdopbikaaGreatDoorXM3
import Derived.Shelf.Strings.OnBuilder
import Derived.Test.YtandfbmdopbikaaGreatDoorProg
import Derived.KernelRfl
namespace Go.V
open Go.Proofs.Tryz
open Go.RowKit
set_option linter.unusedVariables false
set_option linter.unusedSimpArgs false
set_option maxRecDepth 10000
attribute [local irreducible] Run Ops QD
theorem btB : Bt prog 52 5 := ⟨el52, t5, by kernel_rfl, rfl⟩
def plB (b : UInt8) : Bool := decide (32 ≤ b.toNat) && decide (b.toNat < 128) && !decide (b = 34) && !decide (b = 92) && !decide (b = 60) && !decide (b = 62) && !decide (b = 38)
def plT (s : Tx) : Prop := ∀ b ∈ s, plB b = true
theorem plB_all : ∀ b : Fin 256, plB (UInt8.ofNat b.val) = true → 32 ≤ b.val ∧ b.val < 128 ∧ b.val ≠ 34 ∧ b.val ≠ 92 ∧ b.val ≠ 60 ∧ b.val ≠ 62 ∧ b.val ≠ 38 := by decide
theorem plB_of {b : UInt8} (h : plB b = true) : 32 ≤ b.toNat ∧ b.toNat < 128 ∧ b.toNat ≠ 34 ∧ b.toNat ≠ 92 ∧ b.toNat ≠ 60 ∧ b.toNat ≠ 62 ∧ b.toNat ≠ 38 := by
  have := plB_all ⟨b.toNat, b.toNat_lt⟩ (by simpa using h)
  exact this
theorem wrapR_all : ∀ k : Fin 128, IntKind.i32.wrap (k.val : Int) = (k.val : Int) := by decide
theorem wrapR {k : Nat} (h : k < 128) : IntKind.i32.wrap (k : Int) = (k : Int) := wrapR_all ⟨k, h⟩
theorem utf8_DecodeStr (I : Imm) (s : Tx) (c : UInt8) (hs : s.length ≤ 1099511627776) (hc : c.toNat < 128) : Pure prog 117 [str (c :: s)] I fun w J => w = .tuple #[.int .i32 (c.toNat : Int), .int .i64 1] := by
  refine Spec.enter 19 [(0, _)] func117 rfl ntmps117 (by simp) rfl ?_
  intro C hCf hR hCI
  repeat (first | refine Run.seq ?_ | refine Run.region ?_ | refine Ops.nil ?_ | refine Ops.lss rfl (by decide) rfl rfl ?_ | refine Ops.neqStr rfl (by decide) rfl rfl ?_ | refine Ops.pure T rfl (by decide) rfl ?_ | refine Ops.indexStr rfl (by decide) (T.undOk rfl) rfl rfl (by first | omega | (simp only [List.length_cons, List.length_nil] ; omega) | (simp; omega)) (by first | omega | (simp only [List.length_cons, List.length_nil] ; omega) | (simp; omega)) ?_)
  rw [decide_eq_false (show ¬ (c :: s = []) by simp)]
  have hd : decide ((((c :: s).getD (Int.toNat 0) 0).toNat : Int) < 128) = true := decide_eq_true (by show (c.toNat : Int) < 128; omega)
  rw [hd]
  repeat (first | refine Run.seq ?_ | refine Run.cond_t rfl ?_)
  refine Run.regionO (D := [some 11, some 12, some 13, some 2, some 3]) [true, true, true, true, true] rfl rfl rfl (fun Z hZ => ?_)
  refine QD.ev T (by decide) rfl rfl ?_
  refine QD.e (Ev.indexT T rfl rfl rfl (by first | omega | (simp only [List.length_cons, List.length_nil] ; omega) | (simp; omega)) (by first | omega | (simp only [List.length_cons, List.length_nil] ; omega) | (simp; omega))) (by decide) rfl ?_
  refine QD.e (Ev.conv (a := (c.toNat : Int)) (r := (c.toNat : Int)) T rfl rfl rfl (wrapR hc)) (by decide) rfl ?_
  refine QD.ev T (by decide) rfl rfl ?_
  refine QD.ev T (by decide) rfl rfl ?_
  refine QD.nil (hZ _ ?_)
  clear hZ Z
  skip
  refine Run.fin (Run.ret2 (by rw [hCf]; exact func117) results117 rfl rfl (hR _ _ _ ?_))
  exact ⟨rfl, rfl⟩
def WrSt (w : Nat) (bad begun : Bool) (xs : Tx) (N : Own) : Prop := ∃ v M, N = (w, blk [.bool bad, v, .bool begun] 118) :: M ∧ Buf 5 v xs M
set_option maxHeartbeats 1000000 in
theorem Writer_Str (I : Imm) (w : Nat) (bad begun : Bool) (xs s : Tx) (N : Own) (hW : WrSt w bad begun xs N) (hs : xs.length + s.length ≤ 1099511627776) (hp : plT s) :
    Spec prog 97 [.pointer (some ⟨w, 0, none⟩), str s] I N fun v J N' => WrSt w bad begun (xs ++ [34] ++ s ++ [34]) N' := by
  obtain ⟨v0, M0, rfl, hB⟩ := hW
  refine Spec.enter 191 [(0, _), (1, _)] func97 rfl ntmps97 (by simp) rfl ?_
  intro C hCf hR hCI
  repeat (first | refine Run.seq ?_)
  refine Run.regionP (D := [some 6, some 7, some 8, some 9, some 10, some 11, some 12, some 13, some 14, none]) [true, true, true, true, true] 5 rfl rfl rfl (by simp only [List.drop_succ_cons, List.drop_zero]; rfl) (fun Z hZ => ?_)
  refine QD.ev T (by decide) rfl rfl ?_
  refine QD.ev T (by decide) rfl rfl ?_
  refine QD.ev T (by decide) rfl rfl ?_
  refine QD.ev T (by decide) rfl rfl ?_
  first | refine QD.yv (by decide) rfl (Yv.load 0 T rfl rfl rfl rfl) ?_ | refine QD.yv (by decide) rfl (Yv.load 1 T rfl rfl rfl rfl) ?_ | refine QD.yv (by decide) rfl (Yv.load 2 T rfl rfl rfl rfl) ?_
  refine QD.nil (hZ _ ?_)
  clear hZ Z
  refine Ops.lit T rfl rfl rfl (by decide) rfl (by decide) (by decide) rfl rfl rfl rfl rfl (fun bq => ?_)
  refine Ops.appLit [34] (N := [_]) btB hB rfl (by decide) rfl rfl rfl rfl rfl (by simp; omega) fun v1 M1 hB1 => ?_
  obtain ⟨A1, c1, rfl⟩ := hB1.isSl
  refine Ops.pure T rfl (by decide) rfl ?_
  refine Ops.pure T rfl (by decide) rfl ?_
  first | refine Ops.store 0 rfl rfl rfl rfl rfl (T.sizeOk rfl) rfl (Nat.le_of_ble_eq_true rfl) rfl rfl ?_ | refine Ops.store 1 rfl rfl rfl rfl rfl (T.sizeOk rfl) rfl (Nat.le_of_ble_eq_true rfl) rfl rfl ?_ | refine Ops.store 2 rfl rfl rfl rfl rfl (T.sizeOk rfl) rfl (Nat.le_of_ble_eq_true rfl) rfl rfl ?_
  refine Ops.nil ?_
  repeat (first | refine Run.seq ?_ | refine Run.block ?_)
  refine Run.keep [0, 1] [_, _] rfl ?_
  refine Run.rounds (fun m env L J => ∃ (u z : Tx) (v2 : Value) (M2 : Own), m = z.length ∧ s = u ++ z ∧ Buf 5 v2 (xs ++ [34] ++ u) M2 ∧
    env = [(0, .pointer (some ⟨w, 0, none⟩)), (1, str z)] ∧ L = (w, blk [.bool bad, v2, .bool begun] 118) :: M2 ∧ Le I J) s.length ⟨[], s, _, M1, rfl, rfl, by simpa using hB1, rfl, rfl, Le.refl _⟩ ?_
  rintro m env L J ⟨u, z, v2, M2, rfl, hsz, hB2, rfl, rfl, hle⟩ ih
  have hul : u.length + z.length = s.length := by rw [hsz]; simp
  cases z with
  | nil =>
    rw [List.append_nil] at hsz
    subst hsz
    repeat (first | refine Run.seq ?_)
    refine Run.regionO (D := [some 15, some 16, some 17]) [true, true, true] rfl rfl rfl (fun Z hZ => ?_)
    refine QD.ev T (by decide) rfl rfl ?_
    refine QD.e (Ev.lenS T rfl rfl) (by decide) rfl ?_
    refine QD.e (Ev.gtr rfl rfl) (by decide) rfl ?_
    refine QD.nil (hZ _ ?_)
    clear hZ Z
    repeat (first | refine Run.exit rfl ?_ | refine Run.cond_f rfl ?_)
    refine Run.regionP (D := [some 182, some 183, some 184, some 185, some 186, some 187, some 188, some 189, some 190, none]) [true, true, true, true, true] 5 rfl rfl rfl (by simp only [List.drop_succ_cons, List.drop_zero]; rfl) (fun Z hZ => ?_)
    refine QD.ev T (by decide) rfl rfl ?_
    refine QD.ev T (by decide) rfl rfl ?_
    refine QD.ev T (by decide) rfl rfl ?_
    refine QD.ev T (by decide) rfl rfl ?_
    first | refine QD.yv (by decide) rfl (Yv.load 0 T rfl rfl rfl rfl) ?_ | refine QD.yv (by decide) rfl (Yv.load 1 T rfl rfl rfl rfl) ?_ | refine QD.yv (by decide) rfl (Yv.load 2 T rfl rfl rfl rfl) ?_
    refine QD.nil (hZ _ ?_)
    clear hZ Z
    refine Ops.lit T rfl rfl rfl (by decide) rfl (by decide) (by decide) rfl rfl rfl rfl rfl (fun bq => ?_)
    refine Ops.appLit [34] (N := [_]) btB hB2 rfl (by decide) rfl rfl rfl rfl rfl (by simp; omega) fun v3 M3 hB3 => ?_
    obtain ⟨A3, c3, rfl⟩ := hB3.isSl
    refine Ops.pure T rfl (by decide) rfl ?_
    refine Ops.pure T rfl (by decide) rfl ?_
    first | refine Ops.store 0 rfl rfl rfl rfl rfl (T.sizeOk rfl) rfl (Nat.le_of_ble_eq_true rfl) rfl rfl ?_ | refine Ops.store 1 rfl rfl rfl rfl rfl (T.sizeOk rfl) rfl (Nat.le_of_ble_eq_true rfl) rfl rfl ?_ | refine Ops.store 2 rfl rfl rfl rfl rfl (T.sizeOk rfl) rfl (Nat.le_of_ble_eq_true rfl) rfl rfl ?_
    refine Ops.nil ?_
    skip
    refine Run.end0 (by rw [hCf]; exact func97) results97 (hR _ _ _ ?_)
    exact ⟨_, M3, rfl, hB3⟩
  | cons c z =>
    have hc := plB_of (hp c (by rw [hsz]; simp))
    repeat (first | refine Run.seq ?_)
    refine Run.regionO (D := [some 15, some 16, some 17]) [true, true, true] rfl rfl rfl (fun Z hZ => ?_)
    refine QD.ev T (by decide) rfl rfl ?_
    refine QD.e (Ev.lenS T rfl rfl) (by decide) rfl ?_
    refine QD.e (Ev.gtr rfl rfl) (by decide) rfl ?_
    refine QD.nil (hZ _ ?_)
    clear hZ Z
    rw [show decide ((0 : Int) < ((c :: z).length : Int)) = true from decide_eq_true (by simp only [List.length_cons]; omega)]
    repeat (first | refine Run.seq ?_ | refine Run.skip ?_ | refine Run.block ?_ | refine Run.cond_t rfl ?_)
    refine Run.regionP (D := [some 19, some 20, some 18, some 21, some 22, some 4, some 5]) [true] 1 rfl rfl rfl (by simp only [List.drop_succ_cons, List.drop_zero]; rfl) (fun Z hZ => ?_)
    refine QD.ev T (by decide) rfl rfl ?_
    refine QD.nil (hZ _ ?_)
    clear hZ Z
    refine Ops.call ((utf8_DecodeStr J z c (by simp at hul; omega) hc.2.1)) rfl (by decide) call117 rfl ?_
    rintro _ J1 l1 rfl
    refine Ops.pure T rfl (by decide) rfl ?_
    refine Ops.pure T rfl (by decide) rfl ?_
    refine Ops.pure T rfl (by decide) rfl ?_
    refine Ops.pure T rfl (by decide) rfl ?_
    refine Ops.pure T rfl (by decide) rfl ?_
    refine Ops.nil ?_
    repeat (first | refine Run.seq ?_ | refine Run.block ?_)
    obtain ⟨p1, p2, p3, p4, p5, p6, p7⟩ := hc
    have e : ∀ n : Int, (c.toNat : Int) ≠ n → decide ((c.toNat : Int) = n) = false := fun n h => decide_eq_false h
    repeat (first | refine Run.region ?_ | refine Ops.eql rfl (by decide) rfl rfl ?_ | refine Ops.pure T rfl (by decide) rfl ?_)
    rw [e 34 (by omega)]
    repeat (first | refine Ops.nil ?_ | refine Ops.eql rfl (by decide) rfl rfl ?_ | refine Ops.pure T rfl (by decide) rfl ?_)
    rw [e 92 (by omega)]
    repeat (first | refine Run.seq ?_ | refine Run.region ?_ | refine Ops.nil ?_ | refine Run.cond_f rfl ?_ | refine Ops.eql rfl (by decide) rfl rfl ?_ | refine Ops.pure T rfl (by decide) rfl ?_)
    rw [e 8 (by omega)]
    repeat (first | refine Run.seq ?_ | refine Run.region ?_ | refine Ops.nil ?_ | refine Run.cond_f rfl ?_ | refine Ops.eql rfl (by decide) rfl rfl ?_ | refine Ops.pure T rfl (by decide) rfl ?_)
    rw [e 12 (by omega)]
    repeat (first | refine Run.seq ?_ | refine Run.region ?_ | refine Ops.nil ?_ | refine Run.cond_f rfl ?_ | refine Ops.eql rfl (by decide) rfl rfl ?_ | refine Ops.pure T rfl (by decide) rfl ?_)
    rw [e 10 (by omega)]
    repeat (first | refine Run.seq ?_ | refine Run.region ?_ | refine Ops.nil ?_ | refine Run.cond_f rfl ?_ | refine Ops.eql rfl (by decide) rfl rfl ?_ | refine Ops.pure T rfl (by decide) rfl ?_)
    rw [e 13 (by omega)]
    repeat (first | refine Run.seq ?_ | refine Run.region ?_ | refine Ops.nil ?_ | refine Run.cond_f rfl ?_ | refine Ops.eql rfl (by decide) rfl rfl ?_ | refine Ops.pure T rfl (by decide) rfl ?_)
    rw [e 9 (by omega)]
    repeat (first | refine Run.seq ?_ | refine Run.region ?_ | refine Run.cond_f rfl ?_ | refine Ops.lss rfl (by decide) rfl rfl ?_ | refine Ops.pure T rfl (by decide) rfl ?_)
    rw [show decide ((c.toNat : Int) < 32) = false from decide_eq_false (by omega)]
    repeat (first | refine Ops.eql rfl (by decide) rfl rfl ?_ | refine Ops.pure T rfl (by decide) rfl ?_)
    rw [e 60 (by omega)]
    repeat (first | refine Ops.eql rfl (by decide) rfl rfl ?_ | refine Ops.pure T rfl (by decide) rfl ?_)
    rw [e 62 (by omega)]
    repeat (first | refine Ops.nil ?_ | refine Ops.eql rfl (by decide) rfl rfl ?_ | refine Ops.pure T rfl (by decide) rfl ?_)
    rw [e 38 (by omega)]
    repeat (first | refine Run.seq ?_ | refine Run.region ?_ | refine Run.cond_f rfl ?_ | refine Ops.eql rfl (by decide) rfl rfl ?_ | refine Ops.pure T rfl (by decide) rfl ?_)
    rw [e 65533 (by omega)]
    repeat (first | refine Run.seq ?_ | refine Run.region ?_ | refine Ops.nil ?_ | refine Run.cond_f rfl ?_ | refine Ops.not rfl (by decide) ?_ | refine Ops.eql rfl (by decide) rfl rfl ?_ | refine Ops.pure T rfl (by decide) rfl ?_)
    rw [e 8232 (by omega)]
    repeat (first | refine Ops.nil ?_ | refine Ops.eql rfl (by decide) rfl rfl ?_ | refine Ops.pure T rfl (by decide) rfl ?_)
    rw [e 8233 (by omega)]
    repeat (first | refine Run.cond_f rfl ?_)
    refine Run.regionAny (fun _ => True) (bl 12 0) (by kernel_rfl) (by kernel_rfl) ?_
    refine RAny.tk 0 (bl 12 1) rfl (by kernel_rfl) (by decide) (fun _ _ => trivial) (Yld.eval T rfl rfl) ?_
    refine RAny.tk 1 (bl 12 3) rfl (by kernel_rfl) (by decide) (fun _ _ => trivial) (Yld.eval T rfl rfl) ?_
    refine RAny.tk 2 (bl 12 7) rfl (by kernel_rfl) (by decide) (fun _ _ => trivial) (Yld.eval T rfl rfl) ?_
    refine RAny.tk 3 (bl 12 15) rfl (by kernel_rfl) (by decide) (fun _ _ => trivial) (Yld.eval T rfl rfl) ?_
    refine RAny.tk 5 (bl 12 47) rfl (by kernel_rfl) (by decide) (fun _ _ => trivial) (Yld.eval T rfl rfl) ?_
    refine RAny.tk 6 (bl 12 111) rfl (by kernel_rfl) (by decide) (fun _ _ => trivial) (Yld.eval T rfl rfl) ?_
    refine RAny.tk 7 (bl 12 239) rfl (by kernel_rfl) (by decide) (fun _ _ => trivial) (Yld.ev (Ev.cutSHi T rfl rfl rfl (by first | omega | (simp only [List.length_cons, List.length_nil] ; omega) | (simp; omega)) (by first | omega | (simp only [List.length_cons, List.length_nil] ; omega) | (simp; omega))) rfl) ?_
    refine RAny.on 4 (bl 12 255) rfl (by kernel_rfl) rfl (by decide) (Eff.yv (Yv.load 0 T rfl rfl rfl rfl) ⟨fun _ _ => trivial, ?_⟩)
    refine RAny.on 8 (bl 12 511) rfl (by kernel_rfl) rfl (by decide) (Eff.appBuf (M := M2) (N := [(w, _)]) (ys := [c]) btB rfl rfl (perm_of_count fun x => by simp only [List.count_append, List.count_cons, List.count_nil, Nat.add_zero, Nat.zero_add] <;> ac_rfl) hB2 (fun W hi => src_str rfl W) (by simp; omega) fun v3 M3 hB3 => ⟨fun _ _ => trivial, ?_⟩)
    refine RAny.perm (L' := (w, _) :: M3) (perm_of_count fun x => by simp only [List.count_append, List.count_cons, List.count_nil, Nat.add_zero, Nat.zero_add] <;> ac_rfl) ?_
    rw [List.append_assoc (xs ++ [34]) u [c]] at hB3
    obtain ⟨A3, c3, rfl⟩ := hB3.isSl
    refine RAny.tk 9 (bl 12 1023) rfl (by kernel_rfl) (by decide) (fun _ _ => trivial) (Yld.eval T rfl rfl) ?_
    refine RAny.tk 10 (bl 12 2047) rfl (by kernel_rfl) (by decide) (fun _ _ => trivial) (Yld.eval T rfl rfl) ?_
    refine RAny.os 11 (bl 12 4095) rfl (by kernel_rfl) rfl (Eff.store 0 rfl rfl rfl rfl (T.sizeOk rfl) rfl (Nat.le_of_ble_eq_true rfl) rfl rfl ⟨fun _ _ => trivial, ?_⟩)
    refine RAny.done _ (by kernel_rfl) ?_
    repeat (first | refine Run.inBlock ?_)
    refine Run.regionO (D := [some 179, some 180, some 181, some 1]) [true, true, true, true] rfl rfl rfl (fun Z hZ => ?_)
    refine QD.ev T (by decide) rfl rfl ?_
    refine QD.ev T (by decide) rfl rfl ?_
    refine QD.e (Ev.cutSLo T rfl rfl rfl (by first | omega | (simp only [List.length_cons, List.length_nil] ; omega) | (simp; omega)) (by first | omega | (simp only [List.length_cons, List.length_nil] ; omega) | (simp; omega))) (by decide) rfl ?_
    refine QD.ev T (by decide) rfl rfl ?_
    refine QD.nil (hZ _ ?_)
    clear hZ Z
    repeat (first | refine Run.inBlock ?_)
    refine Run.keep [0, 1] [_, _] rfl ?_
    exact ih z.length _ _ _ (by simp) ⟨u ++ [c], z, _, M3, rfl, by rw [hsz]; simp, hB3, rfl, rfl, hle.trans l1⟩
theorem Run.keepB {P : Program} {n : Nat} {C : Cx} {k : List Item} {env : Env} {I : Imm} {L M N : Own} {e : TypeId} {v : Value} {xs : Tx} (hG : Buf e v xs M) (hL : L.Perm (M ++ N)) (h : ∀ J, Le I J → Sl tU8 J v xs → Run P n C k env N J) : Run P n C k env L I := by
  rcases id hG with ⟨_, _, rfl⟩ | ⟨b, pre, post, cap, _, rfl, _⟩
  · exact Run.perm hL (h I (Le.refl _) (hG.sl (fun _ _ h => by cases h)))
  · exact Run.perm hL (Run.freeze fun J hle hJ => h J hle (hG.sl (fun b o hm => by cases List.mem_singleton.1 hm; exact hJ)))
theorem zz_Quoted (I : Imm) (s : Tx) (hs : s.length ≤ 1099511627000) (hp : plT s) : Pure prog 61 [str s] I fun v J => Sl tU8 J v ([34] ++ s ++ [34]) := by
  refine Spec.enter 13 [(0, _)] func61 rfl ntmps61 (by simp) rfl ?_
  intro C hCf hR hCI
  repeat (first | refine Run.seq ?_)
  refine Run.regionO (D := [some 2]) [true] rfl rfl rfl (fun Z hZ => ?_)
  refine QD.ev T (by decide) rfl rfl ?_
  refine QD.nil (hZ _ ?_)
  clear hZ Z
  repeat (first | refine Run.seq ?_)
  refine Run.regionP (D := [some 4, some 5, some 3]) [true] 1 rfl rfl rfl (by simp only [List.drop_succ_cons, List.drop_zero]; rfl) (fun Z hZ => ?_)
  refine QD.e (Ev.buildS bd118 rfl rfl) (by decide) rfl ?_
  refine QD.nil (hZ _ ?_)
  clear hZ Z
  refine Ops.box rfl (by decide) rfl rfl (fun w => ?_)
  refine Ops.pure T rfl (by decide) rfl ?_
  refine Ops.nil ?_
  repeat (first | refine Run.seq ?_)
  refine Run.regionP (D := [some 6, some 7, some 8]) [true, true] 2 rfl rfl rfl (by simp only [List.drop_succ_cons, List.drop_zero]; rfl) (fun Z hZ => ?_)
  refine QD.ev T (by decide) rfl rfl ?_
  refine QD.ev T (by decide) rfl rfl ?_
  refine QD.nil (hZ _ ?_)
  clear hZ Z
  refine Ops.callP (N := []) ((Writer_Str I w false false [] s [(w, _)] ⟨_, [], rfl, Buf.nil _⟩ (by simp; omega) hp)) (.refl _) rfl (by decide) call97 rfl ?_
  rintro v J1 N1 l1 ⟨vo, Mo, rfl, hBo⟩
  refine Ops.nil ?_
  repeat (first | refine Run.seq ?_)
  refine Run.regionO (D := [some 9, some 10, some 11, some 12, some 2]) [true, true, true, true, true] rfl rfl rfl (fun Z hZ => ?_)
  refine QD.ev T (by decide) rfl rfl ?_
  refine QD.ev T (by decide) rfl rfl ?_
  refine QD.ev T (by decide) rfl rfl ?_
  first | refine QD.yv (by decide) rfl (Yv.load 0 T rfl rfl rfl rfl) ?_ | refine QD.yv (by decide) rfl (Yv.load 1 T rfl rfl rfl rfl) ?_ | refine QD.yv (by decide) rfl (Yv.load 2 T rfl rfl rfl rfl) ?_
  refine QD.ev T (by decide) rfl rfl ?_
  refine QD.nil (hZ _ ?_)
  clear hZ Z
  skip
  refine Run.keepB (M := Mo) (N := [(w, _)]) hBo (perm_of_count fun x => by simp only [List.count_append, List.count_cons, List.count_nil, Nat.add_zero, Nat.zero_add] <;> ac_rfl) fun J2 l2 hv => ?_
  refine Run.fin (Run.ret1 (by rw [hCf]; exact func61) results61 rfl (hR _ _ _ ?_))
  exact ⟨rfl, by simpa using hv⟩
abbrev rdr (v : Value) (i d : Nat) : Obj := blk [v, .int .i64 i, .int .i64 d] 134
set_option maxHeartbeats 1000000 in
theorem reader_blankQ (I : Imm) (xs : Tx) (v : Value) (db off c r i d : Nat) (hR0 : Rd I v xs db off c) (hi : i < xs.length) (hq : xs.getD i 0 = 34) :
    Spec prog 107 [.pointer (some ⟨r, 0, none⟩)] I [(r, rdr v i d)] fun w J M => M = [(r, rdr v i d)] ∧ J = I := by
  have hA := hR0.at' i hi
  rw [hq] at hA
  obtain rfl := hR0.eq
  have hcap := hR0.cap
  refine Spec.enter 71 [(0, _)] func107 rfl ntmps107 (by simp) rfl ?_
  intro C hCf hR hCI
  repeat (first | refine Run.block ?_)
  refine Run.loop ?_
  repeat (first | refine Run.seq ?_)
  rw [show ((i : Int)).toNat = i by omega] at hA
  have hA' : At I db (off + ((i : Int)).toNat * 1) [.int .u8 34] := by simpa using hA
  have hi0 : (0 : Int) ≤ (i : Int) := Int.natCast_nonneg _
  have hi2 : (i : Int) < (xs.length : Int) := by omega
  refine Run.regionQ (D := [some 2, some 3, some 4, some 5, some 6, some 7, some 8, some 9, some 10, some 11, some 12, some 13, some 14, some 15, some 16, some 17, some 18, some 19, some 20, some 21, some 22, some 23, some 24, some 25, some 26, some 27, some 28, some 29, some 30, some 31, some 32, some 33, some 34, some 35, some 36, some 37, some 38, some 39, some 40, some 41, some 42, some 43, some 44, some 45, some 46, some 47, some 48, some 49, some 50, some 51, some 52, some 53, some 54, some 55, some 56, some 57, some 58, some 59, some 60, some 61, some 62, some 63]) [true, true, true, true, true, true, true, true, true, true, true, true, true, true, true, true, true, true, true, true, true, true, true, true, true, true, true, true, true, true, true, true, true, true, true, true, true, true, true, true, true, true, true, true, true, true, true, true, true, true, true, true, true, true, true, true, true, true, true, true, true, true] (bl 62 4611686018427387903) (by kernel_rfl) (by kernel_rfl) (by kernel_rfl) (by kernel_rfl) rfl (fun Z hZ => ?_)
  refine QD.ev T (by decide) rfl rfl ?_
  refine QD.ev T (by decide) rfl rfl ?_
  refine QD.ev T (by decide) rfl rfl ?_
  first | refine QD.yv (by decide) rfl (Yv.load 0 T rfl rfl rfl rfl) ?_ | refine QD.yv (by decide) rfl (Yv.load 1 T rfl rfl rfl rfl) ?_ | refine QD.yv (by decide) rfl (Yv.load 2 T rfl rfl rfl rfl) ?_ | refine QD.yv (by decide) rfl (Yv.loadI T hA' rfl rfl) ?_
  refine QD.ev T (by decide) rfl rfl ?_
  refine QD.ev T (by decide) rfl rfl ?_
  refine QD.ev T (by decide) rfl rfl ?_
  first | refine QD.yv (by decide) rfl (Yv.load 0 T rfl rfl rfl rfl) ?_ | refine QD.yv (by decide) rfl (Yv.load 1 T rfl rfl rfl rfl) ?_ | refine QD.yv (by decide) rfl (Yv.load 2 T rfl rfl rfl rfl) ?_ | refine QD.yv (by decide) rfl (Yv.loadI T hA' rfl rfl) ?_
  refine QD.ev T (by decide) rfl rfl ?_
  refine QD.e ((Ev.lss rfl rfl).as (show _ = Value.bool true from congrArg Value.bool (decide_eq_true hi2))) (by decide) rfl ?_
  refine QD.ev T (by decide) rfl rfl ?_
  first | refine QD.ev T (by decide) rfl rfl ?_ | refine QD.off (by decide) rfl ?_
  first | refine QD.ev T (by decide) rfl rfl ?_ | refine QD.off (by decide) rfl ?_
  first | refine QD.ev T (by decide) rfl rfl ?_ | refine QD.off (by decide) rfl ?_
  first | refine QD.yv (by decide) rfl (Yv.load 0 T rfl rfl rfl rfl) ?_ | refine QD.yv (by decide) rfl (Yv.load 1 T rfl rfl rfl rfl) ?_ | refine QD.yv (by decide) rfl (Yv.load 2 T rfl rfl rfl rfl) ?_ | refine QD.yv (by decide) rfl (Yv.loadI T hA' rfl rfl) ?_ | refine QD.off (by decide) rfl ?_
  first | refine QD.ev T (by decide) rfl rfl ?_ | refine QD.off (by decide) rfl ?_
  first | refine QD.ev T (by decide) rfl rfl ?_ | refine QD.off (by decide) rfl ?_
  first | refine QD.ev T (by decide) rfl rfl ?_ | refine QD.off (by decide) rfl ?_
  first | refine QD.yv (by decide) rfl (Yv.load 0 T rfl rfl rfl rfl) ?_ | refine QD.yv (by decide) rfl (Yv.load 1 T rfl rfl rfl rfl) ?_ | refine QD.yv (by decide) rfl (Yv.load 2 T rfl rfl rfl rfl) ?_ | refine QD.yv (by decide) rfl (Yv.loadI T hA' rfl rfl) ?_ | refine QD.off (by decide) rfl ?_
  first | refine QD.e (Ev.indexS T rfl rfl rfl rfl (by first | omega | (simp only [List.length_cons, List.length_nil] ; omega) | (simp; omega)) (by first | omega | (simp only [List.length_cons, List.length_nil] ; omega) | (simp; omega))) (by decide) rfl ?_ | refine QD.off (by decide) rfl ?_
  first | refine QD.yv (by decide) rfl (Yv.load 0 T rfl rfl rfl rfl) ?_ | refine QD.yv (by decide) rfl (Yv.load 1 T rfl rfl rfl rfl) ?_ | refine QD.yv (by decide) rfl (Yv.load 2 T rfl rfl rfl rfl) ?_ | refine QD.yv (by decide) rfl (Yv.loadI T hA' rfl rfl) ?_ | refine QD.off (by decide) rfl ?_
  first | refine QD.e (Ev.eqlI rfl rfl) (by decide) rfl ?_ | refine QD.off (by decide) rfl ?_
  first | refine QD.ev T (by decide) rfl rfl ?_ | refine QD.off (by decide) rfl ?_
  first | refine QD.ev T (by decide) rfl rfl ?_ | refine QD.off (by decide) rfl ?_
  first | refine QD.ev T (by decide) rfl rfl ?_ | refine QD.off (by decide) rfl ?_
  first | refine QD.ev T (by decide) rfl rfl ?_ | refine QD.off (by decide) rfl ?_
  first | refine QD.yv (by decide) rfl (Yv.load 0 T rfl rfl rfl rfl) ?_ | refine QD.yv (by decide) rfl (Yv.load 1 T rfl rfl rfl rfl) ?_ | refine QD.yv (by decide) rfl (Yv.load 2 T rfl rfl rfl rfl) ?_ | refine QD.yv (by decide) rfl (Yv.loadI T hA' rfl rfl) ?_ | refine QD.off (by decide) rfl ?_
  first | refine QD.ev T (by decide) rfl rfl ?_ | refine QD.off (by decide) rfl ?_
  first | refine QD.ev T (by decide) rfl rfl ?_ | refine QD.off (by decide) rfl ?_
  first | refine QD.ev T (by decide) rfl rfl ?_ | refine QD.off (by decide) rfl ?_
  first | refine QD.yv (by decide) rfl (Yv.load 0 T rfl rfl rfl rfl) ?_ | refine QD.yv (by decide) rfl (Yv.load 1 T rfl rfl rfl rfl) ?_ | refine QD.yv (by decide) rfl (Yv.load 2 T rfl rfl rfl rfl) ?_ | refine QD.yv (by decide) rfl (Yv.loadI T hA' rfl rfl) ?_ | refine QD.off (by decide) rfl ?_
  first | refine QD.e (Ev.indexS T rfl rfl rfl rfl (by first | omega | (simp only [List.length_cons, List.length_nil] ; omega) | (simp; omega)) (by first | omega | (simp only [List.length_cons, List.length_nil] ; omega) | (simp; omega))) (by decide) rfl ?_ | refine QD.off (by decide) rfl ?_
  first | refine QD.yv (by decide) rfl (Yv.load 0 T rfl rfl rfl rfl) ?_ | refine QD.yv (by decide) rfl (Yv.load 1 T rfl rfl rfl rfl) ?_ | refine QD.yv (by decide) rfl (Yv.load 2 T rfl rfl rfl rfl) ?_ | refine QD.yv (by decide) rfl (Yv.loadI T hA' rfl rfl) ?_ | refine QD.off (by decide) rfl ?_
  first | refine QD.e (Ev.eqlI rfl rfl) (by decide) rfl ?_ | refine QD.off (by decide) rfl ?_
  first | refine QD.ev T (by decide) rfl rfl ?_ | refine QD.off (by decide) rfl ?_
  first | refine QD.ev T (by decide) rfl rfl ?_ | refine QD.off (by decide) rfl ?_
  first | refine QD.ev T (by decide) rfl rfl ?_ | refine QD.off (by decide) rfl ?_
  first | refine QD.ev T (by decide) rfl rfl ?_ | refine QD.off (by decide) rfl ?_
  first | refine QD.ev T (by decide) rfl rfl ?_ | refine QD.off (by decide) rfl ?_
  first | refine QD.yv (by decide) rfl (Yv.load 0 T rfl rfl rfl rfl) ?_ | refine QD.yv (by decide) rfl (Yv.load 1 T rfl rfl rfl rfl) ?_ | refine QD.yv (by decide) rfl (Yv.load 2 T rfl rfl rfl rfl) ?_ | refine QD.yv (by decide) rfl (Yv.loadI T hA' rfl rfl) ?_ | refine QD.off (by decide) rfl ?_
  first | refine QD.ev T (by decide) rfl rfl ?_ | refine QD.off (by decide) rfl ?_
  first | refine QD.ev T (by decide) rfl rfl ?_ | refine QD.off (by decide) rfl ?_
  first | refine QD.ev T (by decide) rfl rfl ?_ | refine QD.off (by decide) rfl ?_
  first | refine QD.yv (by decide) rfl (Yv.load 0 T rfl rfl rfl rfl) ?_ | refine QD.yv (by decide) rfl (Yv.load 1 T rfl rfl rfl rfl) ?_ | refine QD.yv (by decide) rfl (Yv.load 2 T rfl rfl rfl rfl) ?_ | refine QD.yv (by decide) rfl (Yv.loadI T hA' rfl rfl) ?_ | refine QD.off (by decide) rfl ?_
  first | refine QD.e (Ev.indexS T rfl rfl rfl rfl (by first | omega | (simp only [List.length_cons, List.length_nil] ; omega) | (simp; omega)) (by first | omega | (simp only [List.length_cons, List.length_nil] ; omega) | (simp; omega))) (by decide) rfl ?_ | refine QD.off (by decide) rfl ?_
  first | refine QD.yv (by decide) rfl (Yv.load 0 T rfl rfl rfl rfl) ?_ | refine QD.yv (by decide) rfl (Yv.load 1 T rfl rfl rfl rfl) ?_ | refine QD.yv (by decide) rfl (Yv.load 2 T rfl rfl rfl rfl) ?_ | refine QD.yv (by decide) rfl (Yv.loadI T hA' rfl rfl) ?_ | refine QD.off (by decide) rfl ?_
  first | refine QD.e (Ev.eqlI rfl rfl) (by decide) rfl ?_ | refine QD.off (by decide) rfl ?_
  first | refine QD.ev T (by decide) rfl rfl ?_ | refine QD.off (by decide) rfl ?_
  first | refine QD.ev T (by decide) rfl rfl ?_ | refine QD.off (by decide) rfl ?_
  first | refine QD.ev T (by decide) rfl rfl ?_ | refine QD.off (by decide) rfl ?_
  first | refine QD.ev T (by decide) rfl rfl ?_ | refine QD.off (by decide) rfl ?_
  first | refine QD.ev T (by decide) rfl rfl ?_ | refine QD.off (by decide) rfl ?_
  first | refine QD.yv (by decide) rfl (Yv.load 0 T rfl rfl rfl rfl) ?_ | refine QD.yv (by decide) rfl (Yv.load 1 T rfl rfl rfl rfl) ?_ | refine QD.yv (by decide) rfl (Yv.load 2 T rfl rfl rfl rfl) ?_ | refine QD.yv (by decide) rfl (Yv.loadI T hA' rfl rfl) ?_ | refine QD.off (by decide) rfl ?_
  first | refine QD.ev T (by decide) rfl rfl ?_ | refine QD.off (by decide) rfl ?_
  first | refine QD.ev T (by decide) rfl rfl ?_ | refine QD.off (by decide) rfl ?_
  first | refine QD.ev T (by decide) rfl rfl ?_ | refine QD.off (by decide) rfl ?_
  first | refine QD.yv (by decide) rfl (Yv.load 0 T rfl rfl rfl rfl) ?_ | refine QD.yv (by decide) rfl (Yv.load 1 T rfl rfl rfl rfl) ?_ | refine QD.yv (by decide) rfl (Yv.load 2 T rfl rfl rfl rfl) ?_ | refine QD.yv (by decide) rfl (Yv.loadI T hA' rfl rfl) ?_ | refine QD.off (by decide) rfl ?_
  first | refine QD.e (Ev.indexS T rfl rfl rfl rfl (by first | omega | (simp only [List.length_cons, List.length_nil] ; omega) | (simp; omega)) (by first | omega | (simp only [List.length_cons, List.length_nil] ; omega) | (simp; omega))) (by decide) rfl ?_ | refine QD.off (by decide) rfl ?_
  first | refine QD.yv (by decide) rfl (Yv.load 0 T rfl rfl rfl rfl) ?_ | refine QD.yv (by decide) rfl (Yv.load 1 T rfl rfl rfl rfl) ?_ | refine QD.yv (by decide) rfl (Yv.load 2 T rfl rfl rfl rfl) ?_ | refine QD.yv (by decide) rfl (Yv.loadI T hA' rfl rfl) ?_ | refine QD.off (by decide) rfl ?_
  first | refine QD.e (Ev.eqlI rfl rfl) (by decide) rfl ?_ | refine QD.off (by decide) rfl ?_
  first | refine QD.ev T (by decide) rfl rfl ?_ | refine QD.off (by decide) rfl ?_
  refine QD.ev T (by decide) rfl rfl ?_
  refine QD.nil (hZ _ ?_)
  clear hZ Z
  repeat (first | refine Run.exit rfl ?_ | refine Run.cond_f rfl ?_)
  refine Run.end0 (by rw [hCf]; exact func107) results107 (hR _ _ _ ?_)
  exact ⟨rfl, rfl⟩
theorem reader_blankE (I : Imm) (xs : Tx) (v : Value) (db off c r d : Nat) (hR0 : Rd I v xs db off c) :
    Spec prog 107 [.pointer (some ⟨r, 0, none⟩)] I [(r, rdr v xs.length d)] fun w J M => M = [(r, rdr v xs.length d)] ∧ J = I := by
  obtain rfl := hR0.eq
  have hcap := hR0.cap
  refine Spec.enter 71 [(0, _)] func107 rfl ntmps107 (by simp) rfl ?_
  intro C hCf hR hCI
  repeat (first | refine Run.block ?_)
  refine Run.loop ?_
  repeat (first | refine Run.seq ?_)
  refine Run.regionQ (D := [some 2, some 3, some 4, some 5, some 6, some 7, some 8, some 9, some 10, some 11, some 12, some 13, some 14, some 15, some 16, some 17, some 18, some 19, some 20, some 21, some 22, some 23, some 24, some 25, some 26, some 27, some 28, some 29, some 30, some 31, some 32, some 33, some 34, some 35, some 36, some 37, some 38, some 39, some 40, some 41, some 42, some 43, some 44, some 45, some 46, some 47, some 48, some 49, some 50, some 51, some 52, some 53, some 54, some 55, some 56, some 57, some 58, some 59, some 60, some 61, some 62, some 63]) [true, true, true, true, true, true, true, true, true, true, true, true, true, true, true, true, true, true, true, true, true, true, true, true, true, true, true, true, true, true, true, true, true, true, true, true, true, true, true, true, true, true, true, true, true, true, true, true, true, true, true, true, true, true, true, true, true, true, true, true, true, true] (bl 62 4611686018427387903) (by kernel_rfl) (by kernel_rfl) (by kernel_rfl) (by kernel_rfl) rfl (fun Z hZ => ?_)
  refine QD.ev T (by decide) rfl rfl ?_
  refine QD.ev T (by decide) rfl rfl ?_
  refine QD.ev T (by decide) rfl rfl ?_
  first | refine QD.yv (by decide) rfl (Yv.load 0 T rfl rfl rfl rfl) ?_ | refine QD.yv (by decide) rfl (Yv.load 1 T rfl rfl rfl rfl) ?_ | refine QD.yv (by decide) rfl (Yv.load 2 T rfl rfl rfl rfl) ?_
  refine QD.ev T (by decide) rfl rfl ?_
  refine QD.ev T (by decide) rfl rfl ?_
  refine QD.ev T (by decide) rfl rfl ?_
  first | refine QD.yv (by decide) rfl (Yv.load 0 T rfl rfl rfl rfl) ?_ | refine QD.yv (by decide) rfl (Yv.load 1 T rfl rfl rfl rfl) ?_ | refine QD.yv (by decide) rfl (Yv.load 2 T rfl rfl rfl rfl) ?_
  refine QD.ev T (by decide) rfl rfl ?_
  refine QD.e ((Ev.lss rfl rfl).as (show _ = Value.bool false from congrArg Value.bool (decide_eq_false (Int.lt_irrefl _)))) (by decide) rfl ?_
  refine QD.ev T (by decide) rfl rfl ?_
  first | refine QD.ev T (by decide) rfl rfl ?_ | refine QD.off (by decide) rfl ?_
  first | refine QD.ev T (by decide) rfl rfl ?_ | refine QD.off (by decide) rfl ?_
  first | refine QD.ev T (by decide) rfl rfl ?_ | refine QD.off (by decide) rfl ?_
  first | refine QD.yv (by decide) rfl (Yv.load 0 T rfl rfl rfl rfl) ?_ | refine QD.yv (by decide) rfl (Yv.load 1 T rfl rfl rfl rfl) ?_ | refine QD.yv (by decide) rfl (Yv.load 2 T rfl rfl rfl rfl) ?_ | refine QD.off (by decide) rfl ?_
  first | refine QD.ev T (by decide) rfl rfl ?_ | refine QD.off (by decide) rfl ?_
  first | refine QD.ev T (by decide) rfl rfl ?_ | refine QD.off (by decide) rfl ?_
  first | refine QD.ev T (by decide) rfl rfl ?_ | refine QD.off (by decide) rfl ?_
  first | refine QD.yv (by decide) rfl (Yv.load 0 T rfl rfl rfl rfl) ?_ | refine QD.yv (by decide) rfl (Yv.load 1 T rfl rfl rfl rfl) ?_ | refine QD.yv (by decide) rfl (Yv.load 2 T rfl rfl rfl rfl) ?_ | refine QD.off (by decide) rfl ?_
  first | refine QD.e (Ev.indexS T rfl rfl rfl rfl (by first | omega | (simp only [List.length_cons, List.length_nil] ; omega) | (simp; omega)) (by first | omega | (simp only [List.length_cons, List.length_nil] ; omega) | (simp; omega))) (by decide) rfl ?_ | refine QD.off (by decide) rfl ?_
  first | refine QD.yv (by decide) rfl (Yv.load 0 T rfl rfl rfl rfl) ?_ | refine QD.yv (by decide) rfl (Yv.load 1 T rfl rfl rfl rfl) ?_ | refine QD.yv (by decide) rfl (Yv.load 2 T rfl rfl rfl rfl) ?_ | refine QD.off (by decide) rfl ?_
  first | refine QD.e (Ev.eqlI rfl rfl) (by decide) rfl ?_ | refine QD.off (by decide) rfl ?_
  first | refine QD.ev T (by decide) rfl rfl ?_ | refine QD.off (by decide) rfl ?_
  first | refine QD.ev T (by decide) rfl rfl ?_ | refine QD.off (by decide) rfl ?_
  first | refine QD.ev T (by decide) rfl rfl ?_ | refine QD.off (by decide) rfl ?_
  first | refine QD.ev T (by decide) rfl rfl ?_ | refine QD.off (by decide) rfl ?_
  first | refine QD.yv (by decide) rfl (Yv.load 0 T rfl rfl rfl rfl) ?_ | refine QD.yv (by decide) rfl (Yv.load 1 T rfl rfl rfl rfl) ?_ | refine QD.yv (by decide) rfl (Yv.load 2 T rfl rfl rfl rfl) ?_ | refine QD.off (by decide) rfl ?_
  first | refine QD.ev T (by decide) rfl rfl ?_ | refine QD.off (by decide) rfl ?_
  first | refine QD.ev T (by decide) rfl rfl ?_ | refine QD.off (by decide) rfl ?_
  first | refine QD.ev T (by decide) rfl rfl ?_ | refine QD.off (by decide) rfl ?_
  first | refine QD.yv (by decide) rfl (Yv.load 0 T rfl rfl rfl rfl) ?_ | refine QD.yv (by decide) rfl (Yv.load 1 T rfl rfl rfl rfl) ?_ | refine QD.yv (by decide) rfl (Yv.load 2 T rfl rfl rfl rfl) ?_ | refine QD.off (by decide) rfl ?_
  first | refine QD.e (Ev.indexS T rfl rfl rfl rfl (by first | omega | (simp only [List.length_cons, List.length_nil] ; omega) | (simp; omega)) (by first | omega | (simp only [List.length_cons, List.length_nil] ; omega) | (simp; omega))) (by decide) rfl ?_ | refine QD.off (by decide) rfl ?_
  first | refine QD.yv (by decide) rfl (Yv.load 0 T rfl rfl rfl rfl) ?_ | refine QD.yv (by decide) rfl (Yv.load 1 T rfl rfl rfl rfl) ?_ | refine QD.yv (by decide) rfl (Yv.load 2 T rfl rfl rfl rfl) ?_ | refine QD.off (by decide) rfl ?_
  first | refine QD.e (Ev.eqlI rfl rfl) (by decide) rfl ?_ | refine QD.off (by decide) rfl ?_
  first | refine QD.ev T (by decide) rfl rfl ?_ | refine QD.off (by decide) rfl ?_
  first | refine QD.ev T (by decide) rfl rfl ?_ | refine QD.off (by decide) rfl ?_
  first | refine QD.ev T (by decide) rfl rfl ?_ | refine QD.off (by decide) rfl ?_
  first | refine QD.ev T (by decide) rfl rfl ?_ | refine QD.off (by decide) rfl ?_
  first | refine QD.ev T (by decide) rfl rfl ?_ | refine QD.off (by decide) rfl ?_
  first | refine QD.yv (by decide) rfl (Yv.load 0 T rfl rfl rfl rfl) ?_ | refine QD.yv (by decide) rfl (Yv.load 1 T rfl rfl rfl rfl) ?_ | refine QD.yv (by decide) rfl (Yv.load 2 T rfl rfl rfl rfl) ?_ | refine QD.off (by decide) rfl ?_
  first | refine QD.ev T (by decide) rfl rfl ?_ | refine QD.off (by decide) rfl ?_
  first | refine QD.ev T (by decide) rfl rfl ?_ | refine QD.off (by decide) rfl ?_
  first | refine QD.ev T (by decide) rfl rfl ?_ | refine QD.off (by decide) rfl ?_
  first | refine QD.yv (by decide) rfl (Yv.load 0 T rfl rfl rfl rfl) ?_ | refine QD.yv (by decide) rfl (Yv.load 1 T rfl rfl rfl rfl) ?_ | refine QD.yv (by decide) rfl (Yv.load 2 T rfl rfl rfl rfl) ?_ | refine QD.off (by decide) rfl ?_
  first | refine QD.e (Ev.indexS T rfl rfl rfl rfl (by first | omega | (simp only [List.length_cons, List.length_nil] ; omega) | (simp; omega)) (by first | omega | (simp only [List.length_cons, List.length_nil] ; omega) | (simp; omega))) (by decide) rfl ?_ | refine QD.off (by decide) rfl ?_
  first | refine QD.yv (by decide) rfl (Yv.load 0 T rfl rfl rfl rfl) ?_ | refine QD.yv (by decide) rfl (Yv.load 1 T rfl rfl rfl rfl) ?_ | refine QD.yv (by decide) rfl (Yv.load 2 T rfl rfl rfl rfl) ?_ | refine QD.off (by decide) rfl ?_
  first | refine QD.e (Ev.eqlI rfl rfl) (by decide) rfl ?_ | refine QD.off (by decide) rfl ?_
  first | refine QD.ev T (by decide) rfl rfl ?_ | refine QD.off (by decide) rfl ?_
  first | refine QD.ev T (by decide) rfl rfl ?_ | refine QD.off (by decide) rfl ?_
  first | refine QD.ev T (by decide) rfl rfl ?_ | refine QD.off (by decide) rfl ?_
  first | refine QD.ev T (by decide) rfl rfl ?_ | refine QD.off (by decide) rfl ?_
  first | refine QD.ev T (by decide) rfl rfl ?_ | refine QD.off (by decide) rfl ?_
  first | refine QD.yv (by decide) rfl (Yv.load 0 T rfl rfl rfl rfl) ?_ | refine QD.yv (by decide) rfl (Yv.load 1 T rfl rfl rfl rfl) ?_ | refine QD.yv (by decide) rfl (Yv.load 2 T rfl rfl rfl rfl) ?_ | refine QD.off (by decide) rfl ?_
  first | refine QD.ev T (by decide) rfl rfl ?_ | refine QD.off (by decide) rfl ?_
  first | refine QD.ev T (by decide) rfl rfl ?_ | refine QD.off (by decide) rfl ?_
  first | refine QD.ev T (by decide) rfl rfl ?_ | refine QD.off (by decide) rfl ?_
  first | refine QD.yv (by decide) rfl (Yv.load 0 T rfl rfl rfl rfl) ?_ | refine QD.yv (by decide) rfl (Yv.load 1 T rfl rfl rfl rfl) ?_ | refine QD.yv (by decide) rfl (Yv.load 2 T rfl rfl rfl rfl) ?_ | refine QD.off (by decide) rfl ?_
  first | refine QD.e (Ev.indexS T rfl rfl rfl rfl (by first | omega | (simp only [List.length_cons, List.length_nil] ; omega) | (simp; omega)) (by first | omega | (simp only [List.length_cons, List.length_nil] ; omega) | (simp; omega))) (by decide) rfl ?_ | refine QD.off (by decide) rfl ?_
  first | refine QD.yv (by decide) rfl (Yv.load 0 T rfl rfl rfl rfl) ?_ | refine QD.yv (by decide) rfl (Yv.load 1 T rfl rfl rfl rfl) ?_ | refine QD.yv (by decide) rfl (Yv.load 2 T rfl rfl rfl rfl) ?_ | refine QD.off (by decide) rfl ?_
  first | refine QD.e (Ev.eqlI rfl rfl) (by decide) rfl ?_ | refine QD.off (by decide) rfl ?_
  first | refine QD.ev T (by decide) rfl rfl ?_ | refine QD.off (by decide) rfl ?_
  refine QD.ev T (by decide) rfl rfl ?_
  refine QD.nil (hZ _ ?_)
  clear hZ Z
  repeat (first | refine Run.exit rfl ?_ | refine Run.cond_f rfl ?_)
  refine Run.end0 (by rw [hCf]; exact func107) results107 (hR _ _ _ ?_)
  exact ⟨rfl, rfl⟩
theorem utf8_DecodeB (I : Imm) (db off m cp : Nat) (c : UInt8) (hA : At I db (off + (0 : Int).toNat * 1) [.int .u8 (c.toNat : Int)]) (hm : 0 < m) (hmc : m ≤ cp) (hc : c.toNat < 128) :
    Pure prog 133 [.slice (some ⟨db, off, none⟩) m cp] I fun w J => w = .tuple #[.int .i32 (c.toNat : Int), .int .i64 1] := by
  refine Spec.enter 22 [(0, _)] func133 rfl ntmps133 (by simp) rfl ?_
  intro C hCf hR hCI
  repeat (first | refine Run.seq ?_)
  refine Run.regionO (D := [some 2, some 3]) [true, true] rfl rfl rfl (fun Z hZ => ?_)
  refine QD.ev T (by decide) rfl rfl ?_
  refine QD.ev T (by decide) rfl rfl ?_
  refine QD.nil (hZ _ ?_)
  clear hZ Z
  repeat (first | refine Run.seq ?_)
  refine Run.regionO (D := [some 6, some 7, some 8]) [true, true, true] rfl rfl rfl (fun Z hZ => ?_)
  refine QD.ev T (by decide) rfl rfl ?_
  refine QD.ev T (by decide) rfl rfl ?_
  refine QD.ev T (by decide) rfl rfl ?_
  refine QD.nil (hZ _ ?_)
  clear hZ Z
  repeat (first | refine Run.block ?_)
  refine Run.loop ?_
  repeat (first | refine Run.seq ?_)
  refine Run.regionO (D := [some 9]) [true] rfl rfl rfl (fun Z hZ => ?_)
  refine QD.e (Ev.lss rfl rfl) (by decide) rfl ?_
  refine QD.nil (hZ _ ?_)
  clear hZ Z
  rw [decide_eq_true (show (0 : Int) < (m : Int) by omega)]
  repeat (first | refine Run.seq ?_ | refine Run.skip ?_ | refine Run.block ?_ | refine Run.cond_t rfl ?_)
  refine Run.regionO (D := [some 10, some 11, some 5]) [true, true, true] rfl rfl rfl (fun Z hZ => ?_)
  refine QD.e (Ev.indexS T rfl rfl rfl rfl (by first | omega | (simp only [List.length_cons, List.length_nil] ; omega) | (simp; omega)) (by first | omega | (simp only [List.length_cons, List.length_nil] ; omega) | (simp; omega))) (by decide) rfl ?_
  first | refine QD.yv (by decide) rfl (Yv.load 0 T rfl rfl rfl rfl) ?_ | refine QD.yv (by decide) rfl (Yv.load 1 T rfl rfl rfl rfl) ?_ | refine QD.yv (by decide) rfl (Yv.load 2 T rfl rfl rfl rfl) ?_ | refine QD.yv (by decide) rfl (Yv.loadI T hA rfl rfl) ?_
  refine QD.ev T (by decide) rfl rfl ?_
  refine QD.nil (hZ _ ?_)
  clear hZ Z
  repeat (first | refine Run.seq ?_)
  refine Run.regionO (D := [some 12, some 13]) [true, true] rfl rfl rfl (fun Z hZ => ?_)
  refine QD.ev T (by decide) rfl rfl ?_
  refine QD.e (Ev.lss rfl rfl) (by decide) rfl ?_
  refine QD.nil (hZ _ ?_)
  clear hZ Z
  rw [decide_eq_true (show (c.toNat : Int) < 128 by omega)]
  repeat (first | refine Run.seq ?_ | refine Run.cond_t rfl ?_)
  refine Run.regionO (D := [some 14, some 15, some 2, some 3]) [true, true, true, true] rfl rfl rfl (fun Z hZ => ?_)
  refine QD.ev T (by decide) rfl rfl ?_
  refine QD.e (Ev.conv (a := (c.toNat : Int)) (r := (c.toNat : Int)) T rfl rfl rfl (wrapR hc)) (by decide) rfl ?_
  refine QD.ev T (by decide) rfl rfl ?_
  refine QD.ev T (by decide) rfl rfl ?_
  refine QD.nil (hZ _ ?_)
  clear hZ Z
  skip
  refine Run.fin (Run.ret2 (by rw [hCf]; exact func133) results133 rfl rfl (hR _ _ _ ?_))
  exact ⟨rfl, rfl⟩
theorem wrapU_all : ∀ k : Fin 128, IntKind.u32.wrap (k.val : Int) = (k.val : Int) := by decide
theorem wrapU {k : Nat} (h : k < 128) : IntKind.u32.wrap (k : Int) = (k : Int) := wrapU_all ⟨k, h⟩
theorem wrapB_all : ∀ k : Fin 128, IntKind.u8.wrap (k.val : Int) = (k.val : Int) := by decide
theorem wrapB {k : Nat} (h : k < 128) : IntKind.u8.wrap (k : Int) = (k : Int) := wrapB_all ⟨k, h⟩
theorem utf8_AppendA (I : Imm) (v : Value) (xs : Tx) (c : UInt8) (M : Own) (hB : Buf 5 v xs M) (hx : xs.length ≤ 1099511627776) (hc : c.toNat < 128) :
    Spec prog 134 [v, .int .i32 (c.toNat : Int)] I M fun w J M' => Buf 5 w (xs ++ [c]) M' := by
  refine Spec.enter 16 [(0, _), (1, _)] func134 rfl ntmps134 (by simp) rfl ?_
  intro C hCf hR hCI
  repeat (first | refine Run.seq ?_)
  refine Run.regionO (D := [some 4]) [true] rfl rfl rfl (fun Z hZ => ?_)
  refine QD.ev T (by decide) rfl rfl ?_
  refine QD.nil (hZ _ ?_)
  clear hZ Z
  repeat (first | refine Run.seq ?_)
  refine Run.regionO (D := [some 5, some 6, some 7]) [true, true, true] rfl rfl rfl (fun Z hZ => ?_)
  refine QD.ev T (by decide) rfl rfl ?_
  refine QD.e (Ev.conv (a := (c.toNat : Int)) (r := (c.toNat : Int)) T rfl rfl rfl (wrapU hc)) (by decide) rfl ?_
  refine QD.e (Ev.leq rfl rfl) (by decide) rfl ?_
  refine QD.nil (hZ _ ?_)
  clear hZ Z
  rw [decide_eq_true (show (c.toNat : Int) ≤ 127 by omega)]
  repeat (first | refine Run.seq ?_ | refine Run.cond_t rfl ?_)
  refine Run.regionP (D := [some 8, some 9, some 10, some 11, some 12, some 4]) [true, true, true] 3 rfl rfl rfl (by simp only [List.drop_succ_cons, List.drop_zero]; rfl) (fun Z hZ => ?_)
  refine QD.ev T (by decide) rfl rfl ?_
  refine QD.ev T (by decide) rfl rfl ?_
  refine QD.e (Ev.conv (a := (c.toNat : Int)) (r := (c.toNat : Int)) T rfl rfl rfl (wrapB hc)) (by decide) rfl ?_
  refine QD.nil (hZ _ ?_)
  clear hZ Z
  refine Ops.lit T rfl rfl rfl (by decide) rfl (by decide) (by decide) rfl rfl rfl rfl rfl (fun bq => ?_)
  refine Ops.appLit [c] (N := []) btB hB rfl (by decide) rfl rfl rfl rfl rfl (by simp; omega) fun v1 M1 hB1 => ?_
  refine Ops.pure T rfl (by decide) rfl ?_
  refine Ops.nil ?_
  skip
  refine Run.ret1 (by rw [hCf]; exact func134) results134 rfl (hR _ _ _ ?_)
  exact hB1
theorem quoted_at {u z : Tx} (s : Tx) (hs : s = u ++ z) : ([34] ++ s ++ [34] : Tx).getD (u.length + 1) 0 = (z ++ [34]).getD 0 0 := by
  subst hs
  rw [List.getD_eq_getElem?_getD, List.getD_eq_getElem?_getD]
  simp [List.getElem?_append_right]
set_option maxHeartbeats 2000000 in
theorem reader_text (I : Imm) (s : Tx) (v : Value) (db off c r d : Nat) (hR0 : Rd I v ([34] ++ s ++ [34]) db off c) (hs : s.length ≤ 1099511627000) (hp : plT s) :
    Spec prog 124 [.pointer (some ⟨r, 0, none⟩)] I [(r, rdr v 0 d)] fun w J M => w = .tuple #[str s, .bool true] ∧ M = [(r, rdr v (s.length + 2) d)] := by
  obtain rfl := hR0.eq
  have hcap := hR0.cap
  have hlen : ([34] ++ s ++ [34] : Tx).length = s.length + 2 := by simp
  rw [hlen] at hcap
  generalize hxs : ([34] ++ s ++ [34] : Tx) = xs at *
  refine Spec.enter 198 [(0, _)] func124 rfl ntmps124 (by simp) rfl ?_
  intro C hCf hR hCI
  repeat (first | refine Run.seq ?_)
  refine Run.regionO (D := [some 2, some 3]) [true, true] rfl rfl rfl (fun Z hZ => ?_)
  refine QD.ev T (by decide) rfl rfl ?_
  refine QD.ev T (by decide) rfl rfl ?_
  refine QD.nil (hZ _ ?_)
  clear hZ Z
  repeat (first | refine Run.seq ?_)
  refine Run.regionP (D := [some 13, some 14, some 15, some 16, some 17, some 18, some 19, none]) [true, true, true, true, true, true, true] 7 rfl rfl rfl (by simp only [List.drop_succ_cons, List.drop_zero]; rfl) (fun Z hZ => ?_)
  refine QD.ev T (by decide) rfl rfl ?_
  refine QD.ev T (by decide) rfl rfl ?_
  refine QD.ev T (by decide) rfl rfl ?_
  first | refine QD.yv (by decide) rfl (Yv.load 0 T rfl rfl rfl rfl) ?_ | refine QD.yv (by decide) rfl (Yv.load 1 T rfl rfl rfl rfl) ?_ | refine QD.yv (by decide) rfl (Yv.load 2 T rfl rfl rfl rfl) ?_
  refine QD.e (Ev.addI rfl rfl (wI (by first | omega | (simp only [List.length_cons, List.length_nil] ; omega) | (simp; omega)) (by first | omega | (simp only [List.length_cons, List.length_nil] ; omega) | (simp; omega)))) (by decide) rfl ?_
  refine QD.ev T (by decide) rfl rfl ?_
  refine QD.ev T (by decide) rfl rfl ?_
  refine QD.nil (hZ _ ?_)
  clear hZ Z
  first | refine Ops.store 0 rfl rfl rfl rfl rfl (T.sizeOk rfl) rfl (Nat.le_of_ble_eq_true rfl) rfl rfl ?_ | refine Ops.store 1 rfl rfl rfl rfl rfl (T.sizeOk rfl) rfl (Nat.le_of_ble_eq_true rfl) rfl rfl ?_ | refine Ops.store 2 rfl rfl rfl rfl rfl (T.sizeOk rfl) rfl (Nat.le_of_ble_eq_true rfl) rfl rfl ?_
  refine Ops.nil ?_
  repeat (first | refine Run.seq ?_)
  refine Run.regionO (D := [some 4]) [true] rfl rfl rfl (fun Z hZ => ?_)
  refine QD.ev T (by decide) rfl rfl ?_
  refine QD.nil (hZ _ ?_)
  clear hZ Z
  repeat (first | refine Run.seq ?_ | refine Run.block ?_)
  refine Run.keep [0, 4] [_, _] rfl ?_
  refine Run.rounds (fun m env L J => ∃ (u z : Tx) (v2 : Value) (M2 : Own), m = z.length ∧ s = u ++ z ∧ Buf 5 v2 u M2 ∧
    env = [(0, .pointer (some ⟨r, 0, none⟩)), (4, v2)] ∧ L = (r, rdr (.slice (some ⟨db, off, none⟩) xs.length c) (u.length + 1) d) :: M2 ∧ Le I J) s.length ⟨[], s, _, [], rfl, rfl, Buf.nil _, rfl, rfl, Le.refl _⟩ ?_
  rintro m env L J ⟨u, z, v2, M2, rfl, hsz, hB2, rfl, rfl, hle⟩ ih
  have hul : u.length + z.length = s.length := by rw [hsz]; simp
  have hA := (hR0.mono hle).at' (u.length + 1) (by omega)
  rw [← hxs, quoted_at s hsz] at hA
  have hlt : ((u.length + 1 : Nat) : Int) < (xs.length : Int) := by omega
  repeat (first | refine Run.seq ?_)
  refine Run.regionQ (D := [some 20, some 21, some 22, some 23, some 24, some 25, some 26, some 27, some 28, some 29]) [true, true, true, true, true, true, true, true, true, true] (bl 10 1023) (by kernel_rfl) (by kernel_rfl) (by kernel_rfl) (by kernel_rfl) rfl (fun Z hZ => ?_)
  refine QD.ev T (by decide) rfl rfl ?_
  refine QD.ev T (by decide) rfl rfl ?_
  refine QD.ev T (by decide) rfl rfl ?_
  first | refine QD.yv (by decide) rfl (Yv.load 0 T rfl rfl rfl rfl) ?_ | refine QD.yv (by decide) rfl (Yv.load 1 T rfl rfl rfl rfl) ?_ | refine QD.yv (by decide) rfl (Yv.load 2 T rfl rfl rfl rfl) ?_
  refine QD.ev T (by decide) rfl rfl ?_
  refine QD.ev T (by decide) rfl rfl ?_
  refine QD.ev T (by decide) rfl rfl ?_
  first | refine QD.yv (by decide) rfl (Yv.load 0 T rfl rfl rfl rfl) ?_ | refine QD.yv (by decide) rfl (Yv.load 1 T rfl rfl rfl rfl) ?_ | refine QD.yv (by decide) rfl (Yv.load 2 T rfl rfl rfl rfl) ?_
  refine QD.ev T (by decide) rfl rfl ?_
  refine QD.e (Ev.lss rfl rfl) (by decide) rfl ?_
  refine QD.nil (hZ _ ?_)
  clear hZ Z
  rw [decide_eq_true hlt]
  repeat (first | refine Run.seq ?_ | refine Run.skip ?_ | refine Run.block ?_ | refine Run.cond_t rfl ?_)
  cases z with
  | nil =>
    rw [List.append_nil] at hsz
    subst hsz
    have hA2 : At J db (off + ((s.length + 1 : Nat) : Int).toNat * 1) [.int .u8 34] := hA
    refine Run.regionQ (D := [some 30, some 31, some 32, some 33, some 34, some 35, some 36, some 37, some 38, some 39, some 5]) [true, true, true, true, true, true, true, true, true, true, true] (bl 11 2047) (by kernel_rfl) (by kernel_rfl) (by kernel_rfl) (by kernel_rfl) rfl (fun Z hZ => ?_)
    refine QD.ev T (by decide) rfl rfl ?_
    refine QD.ev T (by decide) rfl rfl ?_
    refine QD.ev T (by decide) rfl rfl ?_
    first | refine QD.yv (by decide) rfl (Yv.load 0 T rfl rfl rfl rfl) ?_ | refine QD.yv (by decide) rfl (Yv.load 1 T rfl rfl rfl rfl) ?_ | refine QD.yv (by decide) rfl (Yv.load 2 T rfl rfl rfl rfl) ?_ | refine QD.yv (by decide) rfl (Yv.loadI T hA2 rfl rfl) ?_
    refine QD.ev T (by decide) rfl rfl ?_
    refine QD.ev T (by decide) rfl rfl ?_
    refine QD.ev T (by decide) rfl rfl ?_
    first | refine QD.yv (by decide) rfl (Yv.load 0 T rfl rfl rfl rfl) ?_ | refine QD.yv (by decide) rfl (Yv.load 1 T rfl rfl rfl rfl) ?_ | refine QD.yv (by decide) rfl (Yv.load 2 T rfl rfl rfl rfl) ?_ | refine QD.yv (by decide) rfl (Yv.loadI T hA2 rfl rfl) ?_
    refine QD.e (Ev.indexS T rfl rfl rfl rfl (by first | omega | (simp only [List.length_cons, List.length_nil] ; omega) | (simp; omega)) (by first | omega | (simp only [List.length_cons, List.length_nil] ; omega) | (simp; omega))) (by decide) rfl ?_
    first | refine QD.yv (by decide) rfl (Yv.load 0 T rfl rfl rfl rfl) ?_ | refine QD.yv (by decide) rfl (Yv.load 1 T rfl rfl rfl rfl) ?_ | refine QD.yv (by decide) rfl (Yv.load 2 T rfl rfl rfl rfl) ?_ | refine QD.yv (by decide) rfl (Yv.loadI T hA2 rfl rfl) ?_
    refine QD.ev T (by decide) rfl rfl ?_
    refine QD.nil (hZ _ ?_)
    clear hZ Z
    repeat (first | refine Run.seq ?_ | refine Run.block ?_)
    refine Run.regionO (D := [some 41, some 42, some 40]) [true, true, true] rfl rfl rfl (fun Z hZ => ?_)
    refine QD.ev T (by decide) rfl rfl ?_
    refine QD.e (Ev.eqlI rfl rfl) (by decide) rfl ?_
    refine QD.ev T (by decide) rfl rfl ?_
    refine QD.nil (hZ _ ?_)
    clear hZ Z
    repeat (first | refine Run.seq ?_ | refine Run.cond_t rfl ?_)
    refine Run.regionP (D := [some 43, some 44, some 45, some 46, some 47, some 48, some 49, none]) [true, true, true, true, true, true, true] 7 rfl rfl rfl (by simp only [List.drop_succ_cons, List.drop_zero]; rfl) (fun Z hZ => ?_)
    refine QD.ev T (by decide) rfl rfl ?_
    refine QD.ev T (by decide) rfl rfl ?_
    refine QD.ev T (by decide) rfl rfl ?_
    first | refine QD.yv (by decide) rfl (Yv.load 0 T rfl rfl rfl rfl) ?_ | refine QD.yv (by decide) rfl (Yv.load 1 T rfl rfl rfl rfl) ?_ | refine QD.yv (by decide) rfl (Yv.load 2 T rfl rfl rfl rfl) ?_
    refine QD.e (Ev.addI rfl rfl (wI (by first | omega | (simp only [List.length_cons, List.length_nil] ; omega) | (simp; omega)) (by first | omega | (simp only [List.length_cons, List.length_nil] ; omega) | (simp; omega)))) (by decide) rfl ?_
    refine QD.ev T (by decide) rfl rfl ?_
    refine QD.ev T (by decide) rfl rfl ?_
    refine QD.nil (hZ _ ?_)
    clear hZ Z
    first | refine Ops.store 0 rfl rfl rfl rfl rfl (T.sizeOk rfl) rfl (Nat.le_of_ble_eq_true rfl) rfl rfl ?_ | refine Ops.store 1 rfl rfl rfl rfl rfl (T.sizeOk rfl) rfl (Nat.le_of_ble_eq_true rfl) rfl rfl ?_ | refine Ops.store 2 rfl rfl rfl rfl rfl (T.sizeOk rfl) rfl (Nat.le_of_ble_eq_true rfl) rfl rfl ?_
    refine Ops.nil ?_
    repeat (first | refine Run.seq ?_)
    refine Run.regionO (D := [some 50, some 51, some 2, some 3]) [true, true, true, true] rfl rfl rfl (fun Z hZ => ?_)
    refine QD.ev T (by decide) rfl rfl ?_
    refine QD.yv (by decide) rfl (Yv.bytesBuf T hB2 (fun x hx => List.mem_cons_of_mem _ hx) rfl rfl rfl rfl) ?_
    refine QD.ev T (by decide) rfl rfl ?_
    refine QD.ev T (by decide) rfl rfl ?_
    refine QD.nil (hZ _ ?_)
    clear hZ Z
    skip
    refine Run.dropL (L' := [(r, rdr (.slice (some ⟨db, off, none⟩) xs.length c) (s.length + 2) d)]) (List.Sublist.cons_cons _ (List.nil_sublist _)) ?_
    refine Run.ret2 (by rw [hCf]; exact func124) results124 rfl rfl (hR _ _ _ ?_)
    exact ⟨rfl, rfl⟩
  | cons e z =>
    have hc := plB_of (hp e (by rw [hsz]; simp))
    obtain ⟨p1, p2, p3, p4, p5, p6, p7⟩ := hc
    have hA2 : At J db (off + ((u.length + 1 : Nat) : Int).toNat * 1) [.int .u8 (e.toNat : Int)] := hA
    have ne : ∀ n : Int, (e.toNat : Int) ≠ n → decide ((e.toNat : Int) = n) = false := fun n h => decide_eq_false h
    refine Run.regionQ (D := [some 30, some 31, some 32, some 33, some 34, some 35, some 36, some 37, some 38, some 39, some 5]) [true, true, true, true, true, true, true, true, true, true, true] (bl 11 2047) (by kernel_rfl) (by kernel_rfl) (by kernel_rfl) (by kernel_rfl) rfl (fun Z hZ => ?_)
    refine QD.ev T (by decide) rfl rfl ?_
    refine QD.ev T (by decide) rfl rfl ?_
    refine QD.ev T (by decide) rfl rfl ?_
    first | refine QD.yv (by decide) rfl (Yv.load 0 T rfl rfl rfl rfl) ?_ | refine QD.yv (by decide) rfl (Yv.load 1 T rfl rfl rfl rfl) ?_ | refine QD.yv (by decide) rfl (Yv.load 2 T rfl rfl rfl rfl) ?_ | refine QD.yv (by decide) rfl (Yv.loadI T hA2 rfl rfl) ?_
    refine QD.ev T (by decide) rfl rfl ?_
    refine QD.ev T (by decide) rfl rfl ?_
    refine QD.ev T (by decide) rfl rfl ?_
    first | refine QD.yv (by decide) rfl (Yv.load 0 T rfl rfl rfl rfl) ?_ | refine QD.yv (by decide) rfl (Yv.load 1 T rfl rfl rfl rfl) ?_ | refine QD.yv (by decide) rfl (Yv.load 2 T rfl rfl rfl rfl) ?_ | refine QD.yv (by decide) rfl (Yv.loadI T hA2 rfl rfl) ?_
    refine QD.e (Ev.indexS T rfl rfl rfl rfl (by first | omega | (simp only [List.length_cons, List.length_nil] ; omega) | (simp; omega)) (by first | omega | (simp only [List.length_cons, List.length_nil] ; omega) | (simp; omega))) (by decide) rfl ?_
    first | refine QD.yv (by decide) rfl (Yv.load 0 T rfl rfl rfl rfl) ?_ | refine QD.yv (by decide) rfl (Yv.load 1 T rfl rfl rfl rfl) ?_ | refine QD.yv (by decide) rfl (Yv.load 2 T rfl rfl rfl rfl) ?_ | refine QD.yv (by decide) rfl (Yv.loadI T hA2 rfl rfl) ?_
    refine QD.ev T (by decide) rfl rfl ?_
    refine QD.nil (hZ _ ?_)
    clear hZ Z
    repeat (first | refine Run.seq ?_ | refine Run.block ?_)
    refine Run.regionO (D := [some 41, some 42, some 40]) [true, true, true] rfl rfl rfl (fun Z hZ => ?_)
    refine QD.ev T (by decide) rfl rfl ?_
    refine QD.e (Ev.eqlI rfl rfl) (by decide) rfl ?_
    refine QD.ev T (by decide) rfl rfl ?_
    refine QD.nil (hZ _ ?_)
    clear hZ Z
    rw [ne 34 (by omega)]
    repeat (first | refine Run.seq ?_ | refine Run.cond_f rfl ?_)
    refine Run.regionO (D := [some 53, some 54, some 52]) [true, true, true] rfl rfl rfl (fun Z hZ => ?_)
    refine QD.ev T (by decide) rfl rfl ?_
    refine QD.e (Ev.lss rfl rfl) (by decide) rfl ?_
    refine QD.ev T (by decide) rfl rfl ?_
    refine QD.nil (hZ _ ?_)
    clear hZ Z
    rw [show decide ((e.toNat : Int) < 32) = false from decide_eq_false (by omega)]
    repeat (first | refine Run.seq ?_ | refine Run.cond_f rfl ?_)
    refine Run.regionO (D := [some 56, some 57, some 55]) [true, true, true] rfl rfl rfl (fun Z hZ => ?_)
    refine QD.ev T (by decide) rfl rfl ?_
    refine QD.e (Ev.neqI rfl rfl) (by decide) rfl ?_
    refine QD.ev T (by decide) rfl rfl ?_
    refine QD.nil (hZ _ ?_)
    clear hZ Z
    rw [ne 92 (by omega)]
    repeat (first | refine Run.seq ?_ | refine Run.cond_t rfl ?_)
    refine Run.regionQ (D := [some 59, some 60, some 61, some 62, some 63, some 64, some 65, some 66, some 67, some 68, some 58, some 69, some 70, some 6, some 7]) [true, true, true, true, true, true, true, true, true, true, true, true, true, true, true] (bl 15 32767) (by kernel_rfl) (by kernel_rfl) (by kernel_rfl) (by kernel_rfl) rfl (fun Z hZ => ?_)
    refine QD.ev T (by decide) rfl rfl ?_
    refine QD.ev T (by decide) rfl rfl ?_
    refine QD.ev T (by decide) rfl rfl ?_
    first | refine QD.yv (by decide) rfl (Yv.load 0 T rfl rfl rfl rfl) ?_ | refine QD.yv (by decide) rfl (Yv.load 1 T rfl rfl rfl rfl) ?_ | refine QD.yv (by decide) rfl (Yv.load 2 T rfl rfl rfl rfl) ?_
    refine QD.ev T (by decide) rfl rfl ?_
    refine QD.ev T (by decide) rfl rfl ?_
    refine QD.ev T (by decide) rfl rfl ?_
    first | refine QD.yv (by decide) rfl (Yv.load 0 T rfl rfl rfl rfl) ?_ | refine QD.yv (by decide) rfl (Yv.load 1 T rfl rfl rfl rfl) ?_ | refine QD.yv (by decide) rfl (Yv.load 2 T rfl rfl rfl rfl) ?_
    refine QD.e ((Ev.sliceLo (j := u.length + 1) T rfl rfl rfl rfl (by omega) (by omega)).as (show _ = Value.slice (some ⟨db, off + (u.length + 1) * 1, none⟩) (xs.length - (u.length + 1)) (c - (u.length + 1)) from by rw [if_neg (by omega)]; rfl)) (by decide) rfl ?_
    refine QD.call (utf8_DecodeB J db (off + (u.length + 1) * 1) _ _ e (by simpa using hA2) (by omega) (by omega) p2) (by decide) rfl call133 rfl ?_
    refine QD.ev T (by decide) rfl rfl ?_
    refine QD.ev T (by decide) rfl rfl ?_
    refine QD.ev T (by decide) rfl rfl ?_
    refine QD.ev T (by decide) rfl rfl ?_
    refine QD.ev T (by decide) rfl rfl ?_
    refine QD.nil (hZ _ ?_)
    clear hZ Z
    repeat (first | refine Run.seq ?_)
    refine Run.regionP (D := [some 71, some 72, some 73, some 74, some 75, some 76, some 77, some 78, none]) [true, true, true, true, true, true, true, true] 8 rfl rfl rfl (by simp only [List.drop_succ_cons, List.drop_zero]; rfl) (fun Z hZ => ?_)
    refine QD.ev T (by decide) rfl rfl ?_
    refine QD.ev T (by decide) rfl rfl ?_
    refine QD.ev T (by decide) rfl rfl ?_
    first | refine QD.yv (by decide) rfl (Yv.load 0 T rfl rfl rfl rfl) ?_ | refine QD.yv (by decide) rfl (Yv.load 1 T rfl rfl rfl rfl) ?_ | refine QD.yv (by decide) rfl (Yv.load 2 T rfl rfl rfl rfl) ?_
    refine QD.ev T (by decide) rfl rfl ?_
    refine QD.e (Ev.addI rfl rfl (wI (by first | omega | (simp only [List.length_cons, List.length_nil] ; omega) | (simp; omega)) (by first | omega | (simp only [List.length_cons, List.length_nil] ; omega) | (simp; omega)))) (by decide) rfl ?_
    refine QD.ev T (by decide) rfl rfl ?_
    refine QD.ev T (by decide) rfl rfl ?_
    refine QD.nil (hZ _ ?_)
    clear hZ Z
    first | refine Ops.store 0 rfl rfl rfl rfl rfl (T.sizeOk rfl) rfl (Nat.le_of_ble_eq_true rfl) rfl rfl ?_ | refine Ops.store 1 rfl rfl rfl rfl rfl (T.sizeOk rfl) rfl (Nat.le_of_ble_eq_true rfl) rfl rfl ?_ | refine Ops.store 2 rfl rfl rfl rfl rfl (T.sizeOk rfl) rfl (Nat.le_of_ble_eq_true rfl) rfl rfl ?_
    refine Ops.nil ?_
    repeat (first | refine Run.seq ?_)
    refine Run.regionP (D := [some 79, some 80, some 81, some 4]) [true, true] 2 rfl rfl rfl (by simp only [List.drop_succ_cons, List.drop_zero]; rfl) (fun Z hZ => ?_)
    refine QD.ev T (by decide) rfl rfl ?_
    refine QD.ev T (by decide) rfl rfl ?_
    refine QD.nil (hZ _ ?_)
    clear hZ Z
    refine Ops.callP (N := [_]) ((utf8_AppendA J v2 u e M2 hB2 (by simp at hul; omega) p2)) (.refl _) rfl (by decide) call134 rfl ?_
    rintro w J3 M3 l3 hB3
    refine Ops.pure T rfl (by decide) rfl ?_
    refine Ops.nil ?_
    repeat (first | refine Run.exit rfl ?_)
    refine Run.keep [0, 4] [_, _] rfl ?_
    exact ih z.length _ _ _ (by simp) ⟨u ++ [e], z, _, M3, rfl, by rw [hsz]; simp, hB3, rfl, by rw [List.length_append]; rfl, hle.trans l3⟩
abbrev valC (s : Tx) : List Value := [.int .u8 34, .bool true, str s, .slice none 0 0, .slice none 0 0]
set_option maxHeartbeats 2000000 in
theorem reader_value (I : Imm) (s : Tx) (v : Value) (db off c r d : Nat) (hR0 : Rd I v ([34] ++ s ++ [34]) db off c) (hs : s.length ≤ 1099511627000) (hp : plT s) :
    Spec prog 106 [.pointer (some ⟨r, 0, none⟩)] I [(r, rdr v 0 d)] fun w J M => w = .tuple #[.agg (valC s).toArray, .bool true] ∧ M = [(r, rdr v (s.length + 2) d)] := by
  have hlen : ([34] ++ s ++ [34] : Tx).length = s.length + 2 := by simp
  have hne : ∀ i, i < s.length + 2 → (([34] ++ s ++ [34] : Tx).getD i 0).toNat ≠ 92 := by
    intro i hi
    have hm : ([34] ++ s ++ [34] : Tx).getD i 0 ∈ ([34] ++ s ++ [34] : Tx) := by
      rw [List.getD_eq_getElem?_getD, List.getElem?_eq_getElem (by omega)]; exact List.getElem_mem _
    generalize ([34] ++ s ++ [34] : Tx).getD i 0 = b at hm
    simp only [List.mem_append, List.mem_singleton] at hm
    rcases hm with (rfl | hm) | rfl
    · decide
    · exact (plB_of (hp b hm)).2.2.2.1
    · decide
  refine Spec.enter 107 [(0, _)] func106 rfl ntmps106 (by simp) rfl ?_
  intro C hCf hR hCI
  repeat (first | refine Run.seq ?_)
  refine Run.region ?_
  refine Ops.alloc rfl (by decide) (T.zeroOk rfl) rfl (fun b2 => ?_)
  refine Ops.pure T rfl (by decide) rfl ?_
  refine Ops.nil ?_
  repeat (first | refine Run.seq ?_)
  refine Run.regionP (D := [some 8, some 9]) [true] 1 rfl rfl rfl (by simp only [List.drop_succ_cons, List.drop_zero]; rfl) (fun Z hZ => ?_)
  refine QD.ev T (by decide) rfl rfl ?_
  refine QD.nil (hZ _ ?_)
  clear hZ Z
  refine Ops.callP (N := [_]) ((reader_blankQ I _ v db off c r 0 d hR0 (by omega) rfl)) (.refl _) rfl (by decide) call107 rfl ?_
  rintro w J1 M1 l1 ⟨rfl, rfl⟩
  refine Ops.nil ?_
  repeat (first | refine Run.seq ?_)
  have hcap := hR0.cap
  have hA0 := hR0.at' 0 (by omega)
  have hA1 : At J1 db (off + ((0 : Nat) : Int).toNat * 1) [.int .u8 34] := hA0
  have hbt := reader_text J1 s v db off c r d hR0 hs hp
  obtain rfl := hR0.eq
  refine Run.regionQ (D := [some 10, some 11, some 12, some 13, some 14, some 15, some 16, some 17, some 18, some 19]) [true, true, true, true, true, true, true, true, true, true] (bl 10 1023) (by kernel_rfl) (by kernel_rfl) (by kernel_rfl) (by kernel_rfl) rfl (fun Z hZ => ?_)
  refine QD.ev T (by decide) rfl rfl ?_
  refine QD.ev T (by decide) rfl rfl ?_
  refine QD.ev T (by decide) rfl rfl ?_
  first | refine QD.yv (by decide) rfl (Yv.load 0 T rfl rfl rfl rfl) ?_ | refine QD.yv (by decide) rfl (Yv.load 1 T rfl rfl rfl rfl) ?_ | refine QD.yv (by decide) rfl (Yv.load 2 T rfl rfl rfl rfl) ?_
  refine QD.ev T (by decide) rfl rfl ?_
  refine QD.ev T (by decide) rfl rfl ?_
  refine QD.ev T (by decide) rfl rfl ?_
  first | refine QD.yv (by decide) rfl (Yv.load 0 T rfl rfl rfl rfl) ?_ | refine QD.yv (by decide) rfl (Yv.load 1 T rfl rfl rfl rfl) ?_ | refine QD.yv (by decide) rfl (Yv.load 2 T rfl rfl rfl rfl) ?_
  refine QD.ev T (by decide) rfl rfl ?_
  refine QD.e ((Ev.geq rfl rfl).as (show _ = Value.bool false from congrArg Value.bool (decide_eq_false (by rw [hlen]; omega)))) (by decide) rfl ?_
  refine QD.nil (hZ _ ?_)
  clear hZ Z
  repeat (first | refine Run.seq ?_ | refine Run.skip ?_ | refine Run.cond_f rfl ?_)
  refine Run.regionQ (D := [some 21, some 22, some 23, some 24, some 25, some 26, some 27, some 28, some 29, some 30, some 4]) [true, true, true, true, true, true, true, true, true, true, true] (bl 11 2047) (by kernel_rfl) (by kernel_rfl) (by kernel_rfl) (by kernel_rfl) rfl (fun Z hZ => ?_)
  refine QD.ev T (by decide) rfl rfl ?_
  refine QD.ev T (by decide) rfl rfl ?_
  refine QD.ev T (by decide) rfl rfl ?_
  first | refine QD.yv (by decide) rfl (Yv.load 0 T rfl rfl rfl rfl) ?_ | refine QD.yv (by decide) rfl (Yv.load 1 T rfl rfl rfl rfl) ?_ | refine QD.yv (by decide) rfl (Yv.load 2 T rfl rfl rfl rfl) ?_ | refine QD.yv (by decide) rfl (Yv.loadI T hA1 rfl rfl) ?_
  refine QD.ev T (by decide) rfl rfl ?_
  refine QD.ev T (by decide) rfl rfl ?_
  refine QD.ev T (by decide) rfl rfl ?_
  first | refine QD.yv (by decide) rfl (Yv.load 0 T rfl rfl rfl rfl) ?_ | refine QD.yv (by decide) rfl (Yv.load 1 T rfl rfl rfl rfl) ?_ | refine QD.yv (by decide) rfl (Yv.load 2 T rfl rfl rfl rfl) ?_ | refine QD.yv (by decide) rfl (Yv.loadI T hA1 rfl rfl) ?_
  refine QD.e (Ev.indexS T rfl rfl rfl rfl (by first | omega | (simp only [List.length_cons, List.length_nil] ; omega) | (simp; omega)) (by first | omega | (simp only [List.length_cons, List.length_nil] ; omega) | (simp; omega))) (by decide) rfl ?_
  first | refine QD.yv (by decide) rfl (Yv.load 0 T rfl rfl rfl rfl) ?_ | refine QD.yv (by decide) rfl (Yv.load 1 T rfl rfl rfl rfl) ?_ | refine QD.yv (by decide) rfl (Yv.load 2 T rfl rfl rfl rfl) ?_ | refine QD.yv (by decide) rfl (Yv.loadI T hA1 rfl rfl) ?_
  refine QD.ev T (by decide) rfl rfl ?_
  refine QD.nil (hZ _ ?_)
  clear hZ Z
  repeat (first | refine Run.seq ?_)
  repeat (first | refine Run.seq ?_ | refine Run.region ?_ | refine Ops.nil ?_ | refine Run.block ?_ | refine Run.cond_t rfl ?_ | refine Run.cond_f rfl ?_ | refine Ops.eql rfl (by decide) rfl rfl ?_ | refine Ops.pure T rfl (by decide) rfl ?_ | refine Ops.load 1 rfl (by decide) rfl rfl (T.aggOk rfl) rfl ?_ | refine Ops.store 0 rfl rfl rfl rfl rfl (T.sizeOk rfl) rfl (Nat.le_of_ble_eq_true rfl) rfl rfl ?_)
  refine Ops.callP (N := [_]) (hbt) (.refl _) rfl (by decide) call124 rfl ?_
  rintro w2 J2 M2 l2 ⟨rfl, rfl⟩
  repeat (first | refine Run.seq ?_ | refine Ops.nil ?_ | refine Ops.pure T rfl (by decide) rfl ?_ | refine Ops.store 0 rfl rfl rfl rfl rfl (T.sizeOk rfl) rfl (Nat.le_of_ble_eq_true rfl) rfl rfl ?_)
  refine Run.regionQ (D := [some 58, some 59, some 60, some 61, some 62, some 63, some 64, some 65, some 66, some 67, some 68, some 69]) [true, true, true, true, true, true, true, true, true, true, true, true] (bl 12 4095) (by kernel_rfl) (by kernel_rfl) (by kernel_rfl) (by kernel_rfl) rfl (fun Z hZ => ?_)
  refine QD.ev T (by decide) rfl rfl ?_
  refine QD.ev T (by decide) rfl rfl ?_
  refine QD.ev T (by decide) rfl rfl ?_
  first | refine QD.yv (by decide) rfl (Yv.load 0 T rfl rfl rfl rfl) ?_ | refine QD.yv (by decide) rfl (Yv.load 1 T rfl rfl rfl rfl) ?_ | refine QD.yv (by decide) rfl (Yv.load 2 T rfl rfl rfl rfl) ?_
  refine QD.ev T (by decide) rfl rfl ?_
  refine QD.ev T (by decide) rfl rfl ?_
  refine QD.ev T (by decide) rfl rfl ?_
  refine QD.ev T (by decide) rfl rfl ?_
  first | refine QD.yv (by decide) rfl (Yv.load 0 T rfl rfl rfl rfl) ?_ | refine QD.yv (by decide) rfl (Yv.load 1 T rfl rfl rfl rfl) ?_ | refine QD.yv (by decide) rfl (Yv.load 2 T rfl rfl rfl rfl) ?_
  refine QD.e (Ev.slice0H (q := s.length + 2) T rfl rfl rfl rfl rfl rfl (by omega)) (by decide) rfl ?_
  refine QD.ev T (by decide) rfl rfl ?_
  refine QD.ev T (by decide) rfl rfl ?_
  refine QD.nil (hZ _ ?_)
  clear hZ Z
  repeat (first | refine Run.block ?_)
  refine Run.keep [0, 2, 3, 67, 68, 69] [_, _, _, _, _, _] rfl ?_
  refine Run.rounds (fun m env L J => ∃ i : Nat, m = (s.length + 2) - i ∧ i ≤ s.length + 2 ∧
    env = [(0, .pointer (some ⟨r, 0, none⟩)), (2, .pointer (some ⟨b2, 0, none⟩)), (3, .bool true), (67, .slice (some ⟨db, off, none⟩) (s.length + 2) c), (68, .int .i64 ((s.length + 2 : Nat) : Int)), (69, .int .i64 (i : Int))] ∧
    L = [(b2, blk (valC s) 137), (r, rdr (.slice (some ⟨db, off, none⟩) ([34] ++ s ++ [34] : Tx).length c) (s.length + 2) d)] ∧ Le J1 J) (s.length + 2) ⟨0, by omega, by omega, rfl, rfl, l2⟩ ?_
  rintro m env L J ⟨i, rfl, hi, rfl, rfl, hle⟩ ih
  repeat (first | refine Run.seq ?_)
  refine Run.regionO (D := [some 70]) [true] rfl rfl rfl (fun Z hZ => ?_)
  refine QD.e (Ev.lss rfl rfl) (by decide) rfl ?_
  refine QD.nil (hZ _ ?_)
  clear hZ Z
  by_cases hlt : i < s.length + 2
  · rw [decide_eq_true (show ((i : Nat) : Int) < ((s.length + 2 : Nat) : Int) by omega)]
    have hA := (hR0.mono hle).at' i (by omega)
    have hn := hne i hlt
    generalize ([34] ++ s ++ [34] : Tx).getD i 0 = b at hA hn
    repeat (first | refine Run.seq ?_ | refine Run.skip ?_ | refine Run.block ?_ | refine Run.cond_t rfl ?_)
    refine Run.regionO (D := [some 71, some 72, some 7]) [true, true, true] rfl rfl rfl (fun Z hZ => ?_)
    refine QD.e (Ev.indexS T rfl rfl rfl rfl (by first | omega | (simp only [List.length_cons, List.length_nil] ; omega) | (simp; omega)) (by first | omega | (simp only [List.length_cons, List.length_nil] ; omega) | (simp; omega))) (by decide) rfl ?_
    first | refine QD.yv (by decide) rfl (Yv.load 0 T rfl rfl rfl rfl) ?_ | refine QD.yv (by decide) rfl (Yv.load 1 T rfl rfl rfl rfl) ?_ | refine QD.yv (by decide) rfl (Yv.load 2 T rfl rfl rfl rfl) ?_ | refine QD.yv (by decide) rfl (Yv.loadI T hA rfl rfl) ?_
    refine QD.ev T (by decide) rfl rfl ?_
    refine QD.nil (hZ _ ?_)
    clear hZ Z
    skip
    repeat (first | refine Run.region ?_ | refine Ops.nil ?_ | refine Run.inBlock ?_ | refine Ops.add rfl (by decide) rfl rfl (wI (by first | omega | (simp only [List.length_cons, List.length_nil] ; omega) | (simp; omega)) (by first | omega | (simp only [List.length_cons, List.length_nil] ; omega) | (simp; omega))) ?_ | refine Ops.neq rfl (by decide) rfl rfl ?_ | refine Ops.pure T rfl (by decide) rfl ?_ | refine Ops.load 0 rfl (by decide) rfl rfl (T.aggOk rfl) rfl ?_ | refine Ops.store 0 rfl rfl rfl rfl rfl (T.sizeOk rfl) rfl (Nat.le_of_ble_eq_true rfl) rfl rfl ?_)
    rw [decide_eq_false (show ¬ (b.toNat : Int) = 92 by omega)]
    skip
    refine Run.keep [0, 2, 3, 67, 68, 69] [_, _, _, _, _, _] rfl ?_
    exact ih ((s.length + 2) - (i + 1)) _ _ _ (by omega) ⟨i + 1, rfl, by omega, rfl, rfl, hle⟩
  · rw [decide_eq_false (show ¬ ((i : Nat) : Int) < ((s.length + 2 : Nat) : Int) by omega)]
    repeat (first | refine Run.seq ?_ | refine Run.exit rfl ?_ | refine Run.cond_f rfl ?_)
    repeat (first | refine Run.region ?_ | refine Ops.nil ?_ | refine Ops.pure T rfl (by decide) rfl ?_ | refine Ops.loadN 0 rfl (by decide) rfl rfl (T.aggOk rfl) (T.sizeOk rfl) rfl rfl ?_ | refine Ops.store 0 rfl rfl rfl rfl rfl (T.sizeOk rfl) rfl (Nat.le_of_ble_eq_true rfl) rfl rfl ?_)
    refine Run.retCTK T 0 (by rw [hCf]; exact func106) results106 rfl rfl rfl rfl rfl rfl rfl (List.sublist_cons_self _ _) (hR _ _ _ ?_)
    exact ⟨rfl, rfl⟩
abbrev strO (s : Tx) : Obj := blk [str s] 9
theorem Value_Str (I : Imm) (s old : Tx) (x : Nat) : Spec prog 159 [.agg (valC s).toArray, .pointer (some ⟨x, 0, none⟩)] I [(x, strO old)] fun w J M => w = .bool true ∧ M = [(x, strO s)] := by
  refine Spec.enter 20 [(0, _), (1, _)] func159 rfl ntmps159 (by simp) rfl ?_
  intro C hCf hR hCI
  repeat (first | refine Run.seq ?_)
  refine Run.region ?_
  refine Ops.box rfl (by decide) rfl rfl (fun b3 => ?_)
  refine Ops.pure T rfl (by decide) rfl ?_
  refine Ops.nil ?_
  repeat (first | refine Run.seq ?_)
  repeat (first | refine Run.seq ?_ | refine Run.region ?_ | refine Ops.nil ?_ | refine Run.cond_t rfl ?_ | refine Ops.not rfl (by decide) ?_ | refine Ops.eql rfl (by decide) rfl rfl ?_ | refine Ops.pure T rfl (by decide) rfl ?_ | refine Ops.load 0 rfl (by decide) rfl rfl (T.aggOk rfl) rfl ?_ | refine Ops.store 1 rfl rfl rfl rfl rfl (T.sizeOk rfl) rfl (Nat.le_of_ble_eq_true rfl) rfl rfl ?_)
  refine Run.dropL (L' := [(x, strO s)]) (List.sublist_cons_self _ _) ?_
  refine Run.ret1 (by rw [hCf]; exact func159) results159 rfl (hR _ _ _ ?_)
  exact ⟨rfl, rfl⟩
theorem Text_ZzTake (I : Imm) (s old : Tx) (x : Nat) : Spec prog 158 [.pointer (some ⟨x, 0, none⟩), .agg (valC s).toArray] I [(x, strO old)] fun w J M => w = .bool true ∧ M = [(x, strO s)] := by
  refine Spec.enter 8 [(0, _), (1, _)] func158 rfl ntmps158 (by simp) rfl ?_
  intro C hCf hR hCI
  repeat (first | refine Run.seq ?_)
  refine Run.region ?_
  refine Ops.box rfl (by decide) rfl rfl (fun b3 => ?_)
  refine Ops.pure T rfl (by decide) rfl ?_
  refine Ops.nil ?_
  repeat (first | refine Run.seq ?_)
  refine Run.regionP (D := [some 5, some 6, some 7, some 4]) [true, true] 2 rfl rfl rfl (by simp only [List.drop_succ_cons, List.drop_zero]; rfl) (fun Z hZ => ?_)
  first | refine QD.yv (by decide) rfl (Yv.loadN 0 T rfl rfl rfl rfl rfl rfl) ?_ | refine QD.yv (by decide) rfl (Yv.loadN 1 T rfl rfl rfl rfl rfl rfl) ?_ | refine QD.yv (by decide) rfl (Yv.loadN 2 T rfl rfl rfl rfl rfl rfl) ?_
  refine QD.ev T (by decide) rfl rfl ?_
  refine QD.nil (hZ _ ?_)
  clear hZ Z
  refine Ops.callP (N := [_]) ((Value_Str I s old x)) (.refl _) rfl (by decide) call159 rfl ?_
  rintro w J1 M1 l1 ⟨rfl, rfl⟩
  refine Ops.pure T rfl (by decide) rfl ?_
  refine Ops.nil ?_
  skip
  refine Run.dropL (L' := [(x, strO s)]) (List.sublist_cons_self _ _) ?_
  refine Run.ret1 (by rw [hCf]; exact func158) results158 rfl (hR _ _ _ ?_)
  exact ⟨rfl, rfl⟩
theorem meth_ZzTake : ∀ u w, (method (prog.types.size + Made.depth) 99 u "ZzTake").run prog w = .ok (158, u) w := by intro u w; kernel_rfl
set_option maxHeartbeats 1000000 in
theorem zz_Unmarshal (I : Imm) (s old : Tx) (v : Value) (db off c x : Nat) (hR0 : Rd I v ([34] ++ s ++ [34]) db off c) (hs : s.length ≤ 1099511627000) (hp : plT s) :
    Spec prog 75 [v, .iface 99 (.pointer (some ⟨x, 0, none⟩))] I [(x, strO old)] fun w J M => w = .nilIface ∧ M = [(x, strO s)] := by
  have hlen : ([34] ++ s ++ [34] : Tx).length = s.length + 2 := by simp
  have hE : ∀ J r, Le I J → Spec prog 107 [.pointer (some ⟨r, 0, none⟩)] J [(r, rdr v (s.length + 2) 0)] fun w J' M => M = [(r, rdr v (s.length + 2) 0)] ∧ J' = J := by
    intro J r hle
    have := reader_blankE J _ v db off c r 0 (hR0.mono hle)
    rw [hlen] at this; exact this
  have hV : ∀ r, _ := fun r => reader_value I s v db off c r 0 hR0 hs hp
  obtain rfl := hR0.eq
  rw [hlen] at hE hV ⊢
  refine Spec.enter 38 [(0, _), (1, _)] func75 rfl ntmps75 (by simp) rfl ?_
  intro C hCf hR hCI
  repeat (first | refine Run.seq ?_)
  refine Run.regionO (D := [some 4]) [true] rfl rfl rfl (fun Z hZ => ?_)
  refine QD.ev T (by decide) rfl rfl ?_
  refine QD.nil (hZ _ ?_)
  clear hZ Z
  repeat (first | refine Run.seq ?_)
  refine Run.regionP (D := [some 8, some 9, some 10, some 5]) [true] 1 rfl rfl rfl (by simp only [List.drop_succ_cons, List.drop_zero]; rfl) (fun Z hZ => ?_)
  refine QD.ev T (by decide) rfl rfl ?_
  refine QD.nil (hZ _ ?_)
  clear hZ Z
  refine Ops.buildL bd134 rfl (by decide) rfl rfl ?_
  refine Ops.box rfl (by decide) rfl rfl (fun r => ?_)
  refine Ops.pure T rfl (by decide) rfl ?_
  refine Ops.nil ?_
  repeat (first | refine Run.seq ?_)
  refine Run.regionP (D := [some 12, some 13, some 11, some 14, some 15, some 6, none, some 7]) [true] 1 rfl rfl rfl (by simp only [List.drop_succ_cons, List.drop_zero]; rfl) (fun Z hZ => ?_)
  refine QD.ev T (by decide) rfl rfl ?_
  refine QD.nil (hZ _ ?_)
  clear hZ Z
  refine Ops.callP (N := [(x, _)]) (hV r) (List.Perm.swap _ _ _) rfl (by decide) call106 rfl ?_
  rintro w J1 M1 l1 ⟨rfl, rfl⟩
  refine Ops.pure T rfl (by decide) rfl ?_
  refine Ops.pure T rfl (by decide) rfl ?_
  refine Ops.pure T rfl (by decide) rfl ?_
  refine Ops.alloc rfl (by decide) (T.zeroOk rfl) rfl (fun b6 => ?_)
  first | refine Ops.store 0 rfl rfl rfl rfl rfl (T.sizeOk rfl) rfl (Nat.le_of_ble_eq_true rfl) rfl rfl ?_ | refine Ops.store 1 rfl rfl rfl rfl rfl (T.sizeOk rfl) rfl (Nat.le_of_ble_eq_true rfl) rfl rfl ?_ | refine Ops.store 2 rfl rfl rfl rfl rfl (T.sizeOk rfl) rfl (Nat.le_of_ble_eq_true rfl) rfl rfl ?_
  refine Ops.pure T rfl (by decide) rfl ?_
  refine Ops.nil ?_
  repeat (first | refine Run.seq ?_)
  refine Run.regionP (D := [some 16, some 17]) [true] 1 rfl rfl rfl (by simp only [List.drop_succ_cons, List.drop_zero]; rfl) (fun Z hZ => ?_)
  refine QD.ev T (by decide) rfl rfl ?_
  refine QD.nil (hZ _ ?_)
  clear hZ Z
  refine Ops.callP (N := [_, _]) ((hE J1 r l1)) (.refl _) rfl (by decide) call107 rfl ?_
  rintro w J2 M2 l2 ⟨rfl, rfl⟩
  refine Ops.nil ?_
  repeat (first | refine Run.seq ?_)
  refine Run.regionQ (D := [some 18, some 19, some 20, some 21, some 22, some 23, some 24, some 25, some 26, some 27, some 28, some 29, some 30, some 31]) [true, true, true, true, true, true, true, true, true, true, true, true, true, true] (bl 14 16383) (by kernel_rfl) (by kernel_rfl) (by kernel_rfl) (by kernel_rfl) rfl (fun Z hZ => ?_)
  refine QD.ev T (by decide) rfl rfl ?_
  refine QD.ev T (by decide) rfl rfl ?_
  refine QD.ev T (by decide) rfl rfl ?_
  first | refine QD.ev T (by decide) rfl rfl ?_ | refine QD.off (by decide) rfl ?_
  first | refine QD.ev T (by decide) rfl rfl ?_ | refine QD.off (by decide) rfl ?_
  first | refine QD.ev T (by decide) rfl rfl ?_ | refine QD.off (by decide) rfl ?_
  first | refine QD.yv (by decide) rfl (Yv.load 0 T rfl rfl rfl rfl) ?_ | refine QD.yv (by decide) rfl (Yv.load 1 T rfl rfl rfl rfl) ?_ | refine QD.yv (by decide) rfl (Yv.load 2 T rfl rfl rfl rfl) ?_ | refine QD.off (by decide) rfl ?_
  first | refine QD.ev T (by decide) rfl rfl ?_ | refine QD.off (by decide) rfl ?_
  first | refine QD.ev T (by decide) rfl rfl ?_ | refine QD.off (by decide) rfl ?_
  first | refine QD.ev T (by decide) rfl rfl ?_ | refine QD.off (by decide) rfl ?_
  first | refine QD.yv (by decide) rfl (Yv.load 0 T rfl rfl rfl rfl) ?_ | refine QD.yv (by decide) rfl (Yv.load 1 T rfl rfl rfl rfl) ?_ | refine QD.yv (by decide) rfl (Yv.load 2 T rfl rfl rfl rfl) ?_ | refine QD.off (by decide) rfl ?_
  first | refine QD.ev T (by decide) rfl rfl ?_ | refine QD.off (by decide) rfl ?_
  refine QD.e ((Ev.lss rfl rfl).as (show _ = Value.bool false from congrArg Value.bool (decide_eq_false (Int.lt_irrefl _)))) (by decide) rfl ?_
  refine QD.ev T (by decide) rfl rfl ?_
  refine QD.nil (hZ _ ?_)
  clear hZ Z
  repeat (first | refine Run.seq ?_ | refine Run.skip ?_ | refine Run.cond_f rfl ?_)
  refine Run.regionP (D := [some 33, some 34, some 35, some 36]) [true, true] 2 rfl rfl rfl (by simp only [List.drop_succ_cons, List.drop_zero]; rfl) (fun Z hZ => ?_)
  refine QD.ev T (by decide) rfl rfl ?_
  first | refine QD.yv (by decide) rfl (Yv.loadN 0 T rfl rfl rfl rfl rfl rfl) ?_ | refine QD.yv (by decide) rfl (Yv.loadN 1 T rfl rfl rfl rfl rfl rfl) ?_ | refine QD.yv (by decide) rfl (Yv.loadN 2 T rfl rfl rfl rfl rfl rfl) ?_
  refine QD.nil (hZ _ ?_)
  clear hZ Z
  refine Ops.eff rfl (dOk (by decide)) (Eff.invokeM (M := [(x, _)]) (N := [(b6, _), (r, _)]) (Text_ZzTake _ s old x) (perm_of_count fun x => by simp only [List.count_append, List.count_cons, List.count_nil, Nat.add_zero, Nat.zero_add] <;> ac_rfl) call158 rfl (meth_ZzTake _) rfl fun w J3 M' l3 hw => ?_)
  obtain ⟨rfl, rfl⟩ := hw
  refine Ops.pure T rfl (by decide) rfl ?_
  refine Ops.nil ?_
  repeat (first | refine Run.seq ?_ | refine Run.skip ?_ | refine Run.cond_f rfl ?_)
  refine Run.regionO (D := [some 4]) [true] rfl rfl rfl (fun Z hZ => ?_)
  refine QD.ev T (by decide) rfl rfl ?_
  refine QD.nil (hZ _ ?_)
  clear hZ Z
  skip
  refine Run.dropL (L' := [(x, strO s)]) (List.Sublist.cons_cons _ (List.nil_sublist _)) ?_
  refine Run.ret1 (by rw [hCf]; exact func75) results75 rfl (hR _ _ _ ?_)
  exact ⟨rfl, rfl⟩
end Go.V
namespace Go.V
set_option linter.unusedVariables false
set_option linter.unusedSimpArgs false
set_option maxRecDepth 10000
theorem plT_app {s u : Tx} (h1 : plT s) (h2 : plT u) : plT (s ++ u) := fun b hb => (List.mem_append.1 hb).elim (h1 b) (h2 b)
theorem plT_cons {c : UInt8} {u : Tx} (h1 : plB c = true) (h2 : plT u) : plT (c :: u) := fun b hb => by
  rcases List.mem_cons.1 hb with rfl | hb
  · exact h1
  · exact h2 b hb
theorem plT_allIn {cs s : Tx} (h : allIn cs s = true) (hc : plT cs) : plT s := fun b hb => hc b (allIn_mem.1 h b hb)
theorem pl_small : plT (smallT ++ capT) := by unfold plT; decide
theorem pl_path : plT (smallT ++ [47]) := by unfold plT; decide
theorem pl_dig : plT digT := by unfold plT; decide
theorem pl_hex : plT hexT := by unfold plT; decide
theorem plT_hp {s : Tx} (h : hp s = true) : plT s := by
  simp only [hp, Bool.and_eq_true] at h
  exact plT_allIn (sWithin_all h.1).1 pl_small
theorem plT_host {s : Tx} (h : hostPlain s = true) : plT s := by
  unfold hostPlain at h
  cases hk : ix 58 s with
  | none => rw [hk] at h; exact plT_hp h
  | some k =>
    rw [hk] at h
    simp only [Bool.and_eq_true] at h
    rw [(ix_split hk).1]
    exact plT_app (plT_hp h.2) (plT_cons (by decide) (plT_allIn (sWithin_all h.1).1 pl_dig))
theorem plT_sReg {b : Bool} {reg s r : Tx} (hr : regOk reg) (h : sReg b reg s = (r, true, false)) : plT s := plT_host (sReg_ok hr h).2.2.2.2.1
theorem plT_cut {s : Tx} (h1 : plT (hostCut s).1) (h2 : plT (hostCut s).2) : plT s := by
  unfold hostCut at h1 h2
  split at h1
  · rename_i k hk
    rw [hk] at h2
    split at h1
    · rename_i hh
      simp only [hh, if_true] at h2
      rw [(ix_split hk).1]
      exact plT_app h1 (plT_cons (by decide) h2)
    · rename_i hh
      simp only [hh, if_false] at h2
      exact h2
  · rename_i hk
    rw [hk] at h2
    exact h2
theorem plT_sRepo {b : Bool} {reg s r p : Tx} (hr : regOk reg) (h : sRepo b reg s = (r, p, true, false)) : plT s := by
  obtain ⟨_, _, h1, h2, _⟩ := sRepo_ok hr h
  exact plT_cut (plT_sReg hr h1) (plT_allIn (sWithin_all h2).1 pl_path)
theorem plT_sTag {o : NOpt} {s r p t : Tx} (hr : regOk o.reg) (h : sTag o s = (r, p, t, true, false)) : plT s := by
  unfold sTag at h
  split at h
  · rename_i rest t' hc
    split at h
    · rename_i hg
      simp only [Prod.mk.injEq] at h
      obtain ⟨h1, h2, rfl, h4, h5⟩ := h
      rw [(cutTag_eq hc).1]
      exact plT_app (plT_sRepo hr (show sRepo o.strict o.reg _ = (r, p, true, false) from Prod.ext h1 (Prod.ext h2 (Prod.ext h4 h5)))) (plT_cons (by decide) (plT_allIn (sWithin_all hg).1 pl_small))
    · simp at h
  · split at h
    · simp at h
    · simp only [Prod.mk.injEq] at h
      obtain ⟨h1, h2, rfl, h4, h5⟩ := h
      exact plT_sRepo hr (show sRepo o.strict o.reg s = (r, p, true, false) from Prod.ext h1 (Prod.ext h2 (Prod.ext h4 h5)))
theorem plT_dig {t : Tx} (h : digGood t = true) : plT t := by
  simp only [digGood, Bool.and_eq_true, decide_eq_true_eq] at h
  obtain ⟨_, h1, h2⟩ := h
  rw [← List.take_append_drop 7 t, h1]
  exact plT_app (by unfold plT; decide) (plT_allIn (sWithin_all h2).1 pl_hex)
theorem plT_off {s : Tx} (h : plT (offTag s)) : plT s := by
  unfold offTag at h
  split at h
  · rename_i r t hc
    split at h
    · rename_i hg
      rw [(cutTag_eq hc).1]
      exact plT_app h (plT_cons (by decide) (plT_allIn (sWithin_all hg).1 pl_small))
    · exact h
  · exact h
theorem plT_sDig {o : NOpt} {s r p t : Tx} (hr : regOk o.reg) (h : sDig o s = (r, p, t, true, false)) : plT s := by
  unfold sDig at h
  split at h
  · simp at h
  · rename_i k hk
    split at h
    · split at h
      · rename_i hg
        simp only [Prod.mk.injEq, Bool.or_eq_false_iff] at h
        obtain ⟨h1, h2, rfl, h4, h5, _⟩ := h
        rw [(ix_split hk).1]
        exact plT_app (plT_off (plT_sRepo hr (show sRepo o.strict o.reg _ = (r, p, true, false) from Prod.ext h1 (Prod.ext h2 (Prod.ext h4 h5))))) (plT_cons (by decide) (plT_dig hg))
      · simp at h
    · simp at h
abbrev noO : NOpt := ⟨false, false, [], []⟩
def selfT (w : Int) (s r p : Tx) : Tx := if w = 1 then r else if w = 2 then repoT r p else s
theorem self_plain {w k : Int} {s r p t : Tx} (hw : w = 1 ∨ w = 2 ∨ w = 3 ∨ w = 4) (h : sParts noO w s = (k, r, p, t, true, false)) : plT (selfT w s r p) ∧ k = w := by
  rcases hw with rfl | rfl | rfl | rfl
  · simp only [sParts, if_true, Prod.mk.injEq] at h
    obtain ⟨rfl, h1, _, _, h4, h5⟩ := h
    exact ⟨plT_host (sReg_ok (b := noO.strict) (reg := noO.reg) (s := s) (r := r) (.inl rfl) (Prod.ext h1 (Prod.ext h4 h5))).1, rfl⟩
  · simp only [sParts, show ¬ (2 : Int) = 1 by decide, if_false, if_true, Prod.mk.injEq] at h
    obtain ⟨rfl, h1, h2, _, h4, h5⟩ := h
    have g := (sRepo_ok (b := noO.strict) (reg := noO.reg) (s := s) (r := r) (p := p) (.inl rfl) (Prod.ext h1 (Prod.ext h2 (Prod.ext h4 h5)))).1
    exact ⟨plT_app (plT_app (plT_host g.plain) (by unfold plT; decide)) (plT_allIn g.chars pl_path), rfl⟩
  · simp only [sParts, show ¬ (3 : Int) = 1 by decide, show ¬ (3 : Int) = 2 by decide, if_false, if_true, Prod.mk.injEq] at h
    obtain ⟨rfl, h1, h2, h3, h4, h5⟩ := h
    exact ⟨plT_sTag (o := noO) (.inl rfl) (Prod.ext h1 (Prod.ext h2 (Prod.ext h3 (Prod.ext h4 h5)))), rfl⟩
  · simp only [sParts, show ¬ (4 : Int) = 1 by decide, show ¬ (4 : Int) = 2 by decide, show ¬ (4 : Int) = 3 by decide, if_false, if_true, Prod.mk.injEq] at h
    obtain ⟨rfl, h1, h2, h3, h4, h5⟩ := h
    exact ⟨plT_sDig (o := noO) (.inl rfl) (Prod.ext h1 (Prod.ext h2 (Prod.ext h3 (Prod.ext h4 h5)))), rfl⟩
theorem self_again {w k : Int} {s r p t : Tx} (hw : w = 1 ∨ w = 2 ∨ w = 3 ∨ w = 4) (h : sParts noO w s = (k, r, p, t, true, false)) (hl : p.length ≤ 255) : sParts noO w (selfT w s r p) = (k, r, p, t, true, false) := by
  rcases hw with rfl | rfl | rfl | rfl
  · simp only [sParts, if_true, Prod.mk.injEq] at h
    obtain ⟨rfl, h1, rfl, rfl, h4, h5⟩ := h
    obtain ⟨g1, g2, g3, _⟩ := sReg_ok (b := noO.strict) (reg := noO.reg) (s := s) (r := r) (.inl rfl) (Prod.ext h1 (Prod.ext h4 h5))
    have := sReg_again (b := noO.strict) (reg := noO.reg) g1 g2 g3
    simp only [sParts, selfT, if_true, this]
  · simp only [sParts, show ¬ (2 : Int) = 1 by decide, if_false, if_true, Prod.mk.injEq] at h
    obtain ⟨rfl, h1, h2, rfl, h4, h5⟩ := h
    obtain ⟨g1, g2, _⟩ := sRepo_ok (b := noO.strict) (reg := noO.reg) (s := s) (r := r) (p := p) (.inl rfl) (Prod.ext h1 (Prod.ext h2 (Prod.ext h4 h5)))
    have := sRepo_again (b := noO.strict) (reg := noO.reg) g1 g2 hl
    simp only [sParts, selfT, show ¬ (2 : Int) = 1 by decide, if_false, if_true, this]
  · exact h
  · exact h
end Go.V
namespace Go.V
open Go.Proofs.Tryz
open Go.Shelf Go.Proofs
set_option linter.unusedVariables false
set_option maxRecDepth 100000
def ren156 : Go.Shelf.Ren := ⟨fun | 156 => 69 | 165 => 102 | 166 => 103 | 169 => 104 | 240 => 120 | 241 => 121 | 276 => 131 | 277 => 132 | n => n, fun | 0 => 0 | 3 => 3 | 4 => 4 | 5 => 5 | 9 => 9 | 20 => 20 | 31 => 92 | 37 => 52 | 70 => 123 | 72 => 125 | 75 => 49 | 76 => 127 | 80 => 83 | 127 => 147 | 164 => 153 | n => n, fun | n => n⟩
theorem lays156 : Lays.n156 prog ren156 := {
  mixed := by kernel_rfl
  f156 := func69.trans (congrArg some (by kernel_rfl))
  f165 := func102.trans (congrArg some (by kernel_rfl))
  f166 := func103.trans (congrArg some (by kernel_rfl))
  f169 := func104.trans (congrArg some (by kernel_rfl))
  f240 := func120.trans (congrArg some (by kernel_rfl))
  f241 := func121.trans (congrArg some (by kernel_rfl))
  f276 := func131.trans (congrArg some (by kernel_rfl))
  f277 := func132.trans (congrArg some (by kernel_rfl))
  t0 := underlying0
  a0 := isAgg0
  z0 := sizeOf0
  v0 := zeroValue0
  t3 := underlying3
  a3 := isAgg3
  z3 := sizeOf3
  v3 := zeroValue3
  t4 := underlying4
  a4 := isAgg4
  z4 := sizeOf4
  v4 := zeroValue4
  t9 := underlying9
  a9 := isAgg9
  z9 := sizeOf9
  v9 := zeroValue9
  t20 := underlying20
  a20 := isAgg20
  z20 := sizeOf20
  v20 := zeroValue20
  t31 := underlying92
  a31 := isAgg92
  z31 := sizeOf92
  v31 := zeroValue92
  t37 := underlying52
  a37 := isAgg52
  z37 := sizeOf52
  v37 := zeroValue52
  t70 := underlying123
  a70 := isAgg123
  z70 := sizeOf123
  v70 := zeroValue123
  t72 := underlying125
  a72 := isAgg125
  z72 := sizeOf125
  v72 := zeroValue125
  t75 := underlying49
  a75 := isAgg49
  z75 := sizeOf49
  v75 := zeroValue49
  t76 := underlying127
  a76 := isAgg127
  z76 := sizeOf127
  v76 := zeroValue127
  t127 := underlying147
  a127 := isAgg147
  z127 := sizeOf147
  v127 := zeroValue147
  t164 := underlying153
  a164 := isAgg153
  z164 := sizeOf153
  v164 := zeroValue153 }
end Go.V
namespace Go.V
set_option linter.unusedVariables false
set_option linter.unusedSimpArgs false
def okRune (r : Nat) : Prop := r < 55296 ∨ (57343 < r ∧ r ≤ 1114111)
theorem cont_big {x : Nat} (h : (x / 64 == 2) = true) : 128 ≤ x := by
  have : x / 64 = 2 := by simpa using h
  omega
theorem ba_size (s : Tx) : (ba s).size = s.length := str_size s
theorem runeAt_big (s : Tx) (p : Nat) (hp : p < s.length) (h : ¬ (s.getD p 0).toNat < 128) :
    128 ≤ (runeAt s p).1 ∧ okRune (runeAt s p).1 ∧ p + (runeAt s p).2 ≤ s.length ∧ ∀ q, p ≤ q → q < p + (runeAt s p).2 → 128 ≤ (s.getD q 0).toNat := by
  have bad : (128 ≤ 0xFFFD ∧ okRune 0xFFFD ∧ p + 1 ≤ s.length ∧ ∀ q, p ≤ q → q < p + 1 → 128 ≤ (s.getD q 0).toNat) :=
    ⟨by decide, .inr (by decide), by omega, fun q h1 h2 => by obtain rfl : q = p := by omega
                                                              omega⟩
  unfold runeAt Utf8.decode
  simp only [Nat.add_zero, ba_get, ba_size]
  rw [if_neg h]
  split
  · rename_i h2
    simp only [Bool.and_eq_true, decide_eq_true_eq] at h2
    obtain ⟨_, h3, h4⟩ := h2
    have := cont_big h4
    split
    · refine ⟨by simp only; omega, .inl (by simp only; omega), by simp only; omega, fun q q1 q2 => ?_⟩
      simp only at q2
      have : q = p ∨ q = p + 1 := by omega
      rcases this with rfl | rfl <;> omega
    · exact bad
  · split
    · rename_i h2
      simp only [Bool.and_eq_true, decide_eq_true_eq] at h2
      obtain ⟨⟨_, h3, h4⟩, h5, h6⟩ := h2
      have := cont_big h4
      have := cont_big h6
      split
      · rename_i h7
        simp only [Bool.and_eq_true, decide_eq_true_eq, Utf8.valid, Bool.or_eq_true] at h7
        refine ⟨by simp only; omega, ?_, by simp only; omega, fun q q1 q2 => ?_⟩
        · simp only [okRune]; omega
        · simp only at q2
          have : q = p ∨ q = p + 1 ∨ q = p + 2 := by omega
          rcases this with rfl | rfl | rfl <;> omega
      · exact bad
    · split
      · rename_i h2
        simp only [Bool.and_eq_true, decide_eq_true_eq] at h2
        obtain ⟨⟨⟨_, h3, h4⟩, h5, h6⟩, h8, h9⟩ := h2
        have := cont_big h4
        have := cont_big h6
        have := cont_big h9
        split
        · rename_i h7
          simp only [Bool.and_eq_true, decide_eq_true_eq, Utf8.valid, Bool.or_eq_true] at h7
          refine ⟨by simp only; omega, ?_, by simp only; omega, fun q q1 q2 => ?_⟩
          · simp only [okRune]; omega
          · simp only at q2
            have : q = p ∨ q = p + 1 ∨ q = p + 2 ∨ q = p + 3 := by omega
            rcases this with rfl | rfl | rfl | rfl <;> omega
        · exact bad
      · exact bad
def runesW (s : Tx) (p : Nat) : List Nat := if p < s.length then (runeAt s p).1 :: runesW s (p + (runeAt s p).2) else []
termination_by s.length - p
decreasing_by
  have := runeAt_width s p
  omega
theorem runesW_lt {s : Tx} {p : Nat} (h : p < s.length) : runesW s p = (runeAt s p).1 :: runesW s (p + (runeAt s p).2) := by rw [runesW, if_pos h]
theorem runesW_end {s : Tx} {p : Nat} (h : ¬ p < s.length) : runesW s p = [] := by rw [runesW, if_neg h]
theorem drop_cons {s : Tx} {p : Nat} (h : p < s.length) : s.drop p = s.getD p 0 :: s.drop (p + 1) := by
  rw [List.drop_eq_getElem_cons h]; simp [List.getD_eq_getElem?_getD, h]
theorem runes_step {s : Tx} {p : Nat} (hp : p < s.length) : ∃ ys, s.drop p = ys ++ s.drop (p + (runeAt s p).2) ∧ p + (runeAt s p).2 ≤ s.length ∧ okRune (runeAt s p).1 ∧
    ((∃ b : UInt8, ys = [b] ∧ (runeAt s p).1 = b.toNat ∧ b.toNat < 128) ∨ (ys ≠ [] ∧ (∀ y ∈ ys, 128 ≤ y.toNat) ∧ 128 ≤ (runeAt s p).1)) := by
  by_cases h : (s.getD p 0).toNat < 128
  · rw [runeAt_ascii s p h]
    exact ⟨[s.getD p 0], by simpa using drop_cons hp, by simp only; omega, .inl (by simp only; omega), .inl ⟨_, rfl, rfl, h⟩⟩
  · obtain ⟨h1, h2, h3, h4⟩ := runeAt_big s p hp h
    have hw := runeAt_width s p
    refine ⟨(s.drop p).take (runeAt s p).2, ?_, h3, h2, .inr ⟨?_, ?_, h1⟩⟩
    · rw [← List.drop_drop, List.take_append_drop]
    · intro e
      have := congrArg List.length e
      simp at this; omega
    · intro y hy
      obtain ⟨j, hj, rfl⟩ := List.mem_iff_getElem.1 hy
      simp only [List.length_take, List.length_drop] at hj
      have := h4 (p + j) (by omega) (by omega)
      rw [List.getD_eq_getElem?_getD, List.getElem?_eq_getElem (by omega)] at this
      simpa using this
theorem runes_mem {s : Tx} {c : UInt8} (hc : c.toNat < 128) : ∀ (n p : Nat), s.length - p ≤ n → (c.toNat ∈ runesW s p ↔ c ∈ s.drop p)
  | 0, p, h => by rw [runesW_end (by omega), List.drop_eq_nil_of_le (by omega)]; simp
  | n + 1, p, h => by
    by_cases hp : p < s.length
    · rw [runesW_lt hp]
      obtain ⟨ys, e, _, _, h3⟩ := runes_step hp
      have hw := runeAt_width s p
      have ih := runes_mem (s := s) hc n (p + (runeAt s p).2) (by omega)
      rw [e, List.mem_cons, List.mem_append, ih]
      rcases h3 with ⟨b, rfl, hb, hb'⟩ | ⟨_, h4, h5⟩
      · rw [hb, List.mem_singleton]
        constructor <;> (rintro (h | h))
        · exact .inl (UInt8.toNat_inj.1 h)
        · exact .inr h
        · exact .inl (by rw [h])
        · exact .inr h
      · constructor
        · rintro (h | h)
          · omega
          · exact .inr h
        · rintro (h | h)
          · have := h4 c h; omega
          · exact .inr h
    · rw [runesW_end hp, List.drop_eq_nil_of_le (by omega)]; simp
def ascii (cs : Tx) : Prop := ∀ c ∈ cs, c.toNat < 128
theorem runes_map {s : Tx} (hs : ascii s) : ∀ (n p : Nat), s.length - p ≤ n → runesW s p = (s.drop p).map UInt8.toNat
  | 0, p, h => by rw [runesW_end (by omega), List.drop_eq_nil_of_le (by omega)]; rfl
  | n + 1, p, h => by
    by_cases hp : p < s.length
    · have hb : (s.getD p 0).toNat < 128 := by
        rw [List.getD_eq_getElem?_getD, List.getElem?_eq_getElem hp]
        exact hs _ (List.getElem_mem hp)
      rw [runesW_lt hp, runeAt_ascii s p hb, runes_map hs n (p + 1) (by omega), drop_cons hp]
      rfl
    · rw [runesW_end hp, List.drop_eq_nil_of_le (by omega)]; rfl
theorem runes0 {s : Tx} (hs : ascii s) : runesW s 0 = s.map UInt8.toNat := by simpa using runes_map hs s.length 0 (by omega)
theorem runes_has {s : Tx} {c : UInt8} (hc : c.toNat < 128) : decide (c.toNat ∈ runesW s 0) = hasB c s := by
  rw [Bool.eq_iff_iff, decide_eq_true_eq, runes_mem hc s.length 0 (by omega), hasB_true]; rfl
theorem inCs {cs : Tx} (hc : ascii cs) (r : Nat) : r ∈ runesW cs 0 ↔ ∃ c ∈ cs, c.toNat = r := by
  rw [runes0 hc]; simp
theorem runes_all {s cs : Tx} (hc : ascii cs) : ∀ (n p : Nat), s.length - p ≤ n → ((runesW s p).all fun r => decide (r ∈ runesW cs 0)) = allIn cs (s.drop p)
  | 0, p, h => by rw [runesW_end (by omega), List.drop_eq_nil_of_le (by omega)]; rfl
  | n + 1, p, h => by
    by_cases hp : p < s.length
    · rw [runesW_lt hp]
      obtain ⟨ys, e, _, _, h3⟩ := runes_step hp
      have hw := runeAt_width s p
      rw [List.all_cons, runes_all hc n (p + (runeAt s p).2) (by omega), e, allIn_app]
      congr 1
      rcases h3 with ⟨b, rfl, hb, hb'⟩ | ⟨h6, h4, h5⟩
      · rw [hb, Bool.eq_iff_iff, decide_eq_true_eq, inCs hc, allIn_mem]
        constructor
        · rintro ⟨c, h1, h2⟩ y hy
          rw [List.mem_singleton] at hy
          subst hy
          rw [← UInt8.toNat_inj.1 h2]; exact h1
        · intro h
          exact ⟨b, h b List.mem_cons_self, rfl⟩
      · have e1 : decide ((runeAt s p).1 ∈ runesW cs 0) = false := decide_eq_false fun hm => by
          obtain ⟨c, h1, h2⟩ := (inCs hc _).1 hm
          have := hc c h1
          omega
        rw [e1]
        cases hys : allIn cs ys with
        | false => rfl
        | true =>
          cases ys with
          | nil => exact absurd rfl h6
          | cons y t =>
            have h7 := allIn_mem.1 hys y List.mem_cons_self
            have h8 := hc y h7
            have h9 := h4 y List.mem_cons_self
            omega
    · rw [runesW_end hp, List.drop_eq_nil_of_le (by omega)]; rfl
theorem allIn_ascii {s cs : Tx} (hc : ascii cs) (h : allIn cs s = true) : ascii s := fun c hm => hc c (allIn_mem.1 h c hm)
theorem within_eq {s cs : Tx} {a b : Nat} (hc : ascii cs) : (((runesW s 0).all fun r => decide (r ∈ runesW cs 0)) && (decide (a ≤ (runesW s 0).length) && decide ((runesW s 0).length ≤ b))) = sWithin s cs a b := by
  have h := runes_all (s := s) hc s.length 0 (by omega)
  rw [List.drop_zero] at h
  rw [h, sWithin]
  cases ha : allIn cs s with
  | false => rfl
  | true => rw [runes0 (allIn_ascii hc ha), List.length_map]
theorem any_eq {s cs : Tx} (hc : ascii cs) : decide (∃ r ∈ runesW s 0, r ∈ runesW cs 0) = cs.any fun c => hasB c s := by
  rw [Bool.eq_iff_iff, decide_eq_true_eq, List.any_eq_true]
  constructor
  · rintro ⟨r, h1, h2⟩
    obtain ⟨c, h3, rfl⟩ := (inCs hc r).1 h2
    exact ⟨c, h3, by rw [← runes_has (hc c h3)]; exact decide_eq_true h1⟩
  · rintro ⟨c, h1, h2⟩
    rw [← runes_has (hc c h1)] at h2
    exact ⟨c.toNat, of_decide_eq_true h2, (inCs hc _).2 ⟨c, h1, rfl⟩⟩
theorem ascii_st : ascii (smallT ++ capT) := by unfold ascii; decide
theorem ascii_sp : ascii (smallT ++ [47]) := by unfold ascii; decide
theorem ascii_dig : ascii digT := by unfold ascii; decide
theorem ascii_hex : ascii hexT := by unfold ascii; decide
end Go.V
