import Derived.Test.YteppnkblebknnaaDoorTM5
import Derived.Test.YteppnkblebknnaaDoorTM4
import Derived.Test.YteppnkblebknnaaDoorTM14
/-
  Base 64 read by the package.
-/
namespace Go.V
open Go.RowKit
set_option linter.unusedVariables false
set_option linter.unusedSimpArgs false
set_option maxRecDepth 10000
attribute [local irreducible] Run Ops QD
theorem Run.keepB {P : Program} {n : Nat} {C : Cx} {k : List Item} {env : Env} {I : Imm} {L M N : Own} {e : TypeId} {v : Value} {xs : Bs} (hG : Buf e v xs M) (hL : L.Perm (M ++ N)) (h : ∀ J, Le I J → Sl tU8 J v xs → Run P n C k env N J) : Run P n C k env L I := by
  rcases id hG with ⟨_, _, rfl⟩ | ⟨b, pre, post, cap, _, rfl, _⟩
  · exact Run.perm hL (h I (Le.refl _) (hG.sl (fun _ _ h => by cases h)))
  · exact Run.perm hL (Run.freeze fun J hle hJ => h J hle (hG.sl (fun b o hm => by cases List.mem_singleton.1 hm; exact hJ)))
def cls (ch n : Nat) : Prop := (65 ≤ ch ∧ ch ≤ 90 ∧ n = ch - 65) ∨ (97 ≤ ch ∧ ch ≤ 122 ∧ n = ch - 71) ∨ (48 ≤ ch ∧ ch ≤ 57 ∧ n = ch + 4) ∨ (ch = 43 ∧ n = 62) ∨ (ch = 47 ∧ n = 63)
instance (ch n : Nat) : Decidable (cls ch n) := by unfold cls; infer_instance
theorem cls_fin : ∀ k : Fin 64, cls (b64A.getD k.val 0).toNat k.val := by decide
theorem cls_c {n : Nat} (h : n < 64) : cls (b64c n).toNat n := by
  unfold b64c
  rw [Nat.mod_eq_of_lt h]; exact cls_fin ⟨n, h⟩
theorem shl8_2m (y : Nat) : IntKind.u8.wrap (((y : Nat) : Int) * 2 ^ (2 : Int).toNat) = ((y * 4 % 256 : Nat) : Int) := by
  show IntKind.u8.wrap (((y : Nat) : Int) * 4) = _
  rw [wrap8]; omega
theorem shl8_4m (y : Nat) : IntKind.u8.wrap (((y : Nat) : Int) * 2 ^ (4 : Int).toNat) = ((y * 16 % 256 : Nat) : Int) := by
  show IntKind.u8.wrap (((y : Nat) : Int) * 16) = _
  rw [wrap8]; omega
theorem shl8_6m (y : Nat) : IntKind.u8.wrap (((y : Nat) : Int) * 2 ^ (6 : Int).toNat) = ((y * 64 % 256 : Nat) : Int) := by
  show IntKind.u8.wrap (((y : Nat) : Int) * 64) = _
  rw [wrap8]; omega
set_option maxHeartbeats 8000000 in
theorem zz_Unbase64 (I : Imm) (bs : Bs) (hne : bs ≠ []) (hl : bs.length ≤ 1099511627776) : Pure Proofs.Tryd.prog 48 [str (b64 bs)] I fun w J => ∃ v, w = .tuple #[v, .bool true] ∧ Sl tU8 J v bs := by
  have hbl := b64_len bs
  generalize hs : b64 bs = s at *
  refine Spec.enter 142 [(0, _)] Proofs.Tryd.func48 rfl Proofs.Tryd.ntmps48 (by simp) rfl ?_
  intro C hCf hR hCI
  refine Run.seq ?_
  refine Run.regionO (D := [some 2, some 3]) [true, true] rfl rfl rfl (fun Z hZ => ?_)
  iterate 2 refine QD.ev T (by decide) rfl rfl ?_
  refine QD.nil (hZ _ ?_)
  clear hZ Z
  refine Run.seq ?_
  refine Run.region ?_
  refine Ops.alloc rfl (by decide) (T.zeroOk rfl) rfl (fun b4 => ?_)
  refine Ops.nil ?_
  refine Run.seq ?_
  refine Run.regionO (D := [some 5, some 6]) [true, true] rfl rfl rfl (fun Z hZ => ?_)
  iterate 2 refine QD.ev T (by decide) rfl rfl ?_
  refine QD.nil (hZ _ ?_)
  clear hZ Z
  repeat refine Run.seq ?_
  refine Run.regionO (D := [some 13, some 14, some 15]) [true, true, true] rfl rfl rfl (fun Z hZ => ?_)
  refine QD.ev T (by decide) rfl rfl ?_
  refine QD.e (Ev.lenS T rfl rfl) (by decide) rfl ?_
  refine QD.ev T (by decide) rfl rfl ?_
  refine QD.nil (hZ _ ?_)
  clear hZ Z
  refine Run.block ?_
  refine Run.keep [0, 2, 4, 5, 6, 13, 14, 15] [_, _, _, _, _, _, _, _] rfl ?_
  refine Run.rounds (fun m env L J => ∃ (i : Nat) (rest out : Bs) (v2 : Value) (M : Own) (x0 x1 x2 x3 : Int), m = rest.length ∧ s.drop i = b64 rest ∧ i ≤ s.length ∧ out ++ rest = bs ∧ Buf 5 v2 out M ∧
    env = [(0, str s), (2, v2), (4, .pointer (some ⟨b4, 0, none⟩)), (5, .int .i64 0), (6, .int .i64 0), (13, str s), (14, .int .i64 (s.length : Int)), (15, .int .i64 (i : Int))] ∧
    L = (b4, blk [.int .u8 x0, .int .u8 x1, .int .u8 x2, .int .u8 x3] 121) :: M ∧ I = J) bs.length
    ⟨0, bs, [], _, [], 0, 0, 0, 0, rfl, by rw [List.drop_zero, hs], by omega, rfl, Buf.nil _, rfl, rfl, rfl⟩ ?_
  rintro m env L J ⟨i, rest, out, v2, M, x0, x1, x2, x3, rfl, hd, hi, hout, hB, rfl, rfl, rfl⟩ ih
  have hol : out.length ≤ 1099511627776 := by rw [← hout, List.length_append] at hl; omega
  have hdl := congrArg List.length hd
  rw [List.length_drop, b64_len] at hdl
  have hget : ∀ j, s.getD (i + j) 0 = (b64 rest).getD j 0 := fun j => by rw [← hd, List.getD_eq_getElem?_getD, List.getD_eq_getElem?_getD, List.getElem?_drop]
  obtain ⟨A2, c2, rfl⟩ := hB.isSl
  refine Run.seq ?_
  match rest, hd, hdl, hget, hout with
  | [], hd, hdl, hget, hout =>
    have hob : out = bs := by rw [← hout, List.append_nil]
    subst hob
    simp only [List.length_nil] at hdl
    rcases id hB with ⟨_, h0, _⟩ | ⟨b5, pre, post, cap, e5, _, _⟩
    · exact absurd h0 hne
    cases e5
    refine Run.regionO (D := [some 16]) [true] rfl rfl rfl (fun Z hZ => ?_)
    refine QD.e ((Ev.lss rfl rfl).as (show _ = Value.bool false from congrArg Value.bool (decide_eq_false (by omega)))) (by decide) rfl ?_
    refine QD.nil (hZ _ ?_)
    clear hZ Z
    repeat (first | refine Run.seq ?_ | refine Run.exit rfl ?_ | refine Run.cond_f rfl ?_)
    refine Run.regionO (D := [some 132, some 133]) [true, true] rfl rfl rfl (fun Z hZ => ?_)
    refine QD.ev T (by decide) rfl rfl ?_
    refine QD.e (Ev.eqlNil T rfl rfl rfl rfl rfl) (by decide) rfl ?_
    refine QD.nil (hZ _ ?_)
    clear hZ Z
    repeat (first | refine Run.seq ?_ | refine Run.skip ?_ | refine Run.cond_f rfl ?_)
    refine Run.regionO (D := [some 135, some 136, some 137, some 138, some 139, some 140, some 141, some 2, some 3]) [true, true, true, true, true, true, true, true, true] rfl rfl rfl (fun Z hZ => ?_)
    iterate 2 refine QD.ev T (by decide) rfl rfl ?_
    refine QD.e (Ev.eqlI rfl rfl) (by decide) rfl ?_
    iterate 2 refine QD.ev T (by decide) rfl rfl ?_
    refine QD.e (Ev.eqlI rfl rfl) (by decide) rfl ?_
    iterate 3 refine QD.ev T (by decide) rfl rfl ?_
    refine QD.nil (hZ _ ?_)
    clear hZ Z
    skip
    refine Run.keepB (M := M) (N := [(b4, _)]) hB (List.perm_append_comm (l₁ := [_]) (l₂ := M)) fun J5 l5 hv => ?_
    refine Run.fin (Run.ret2 (by rw [hCf]; exact Proofs.Tryd.func48) Proofs.Tryd.results48 rfl rfl (hR _ _ _ ?_))
    exact ⟨rfl, _, rfl, hv⟩
  | [a], hd, hdl, hget, hout =>
    have g0 := hget 0
    have g1 := hget 1
    have g2 := hget 2
    have g3 := hget 3
    simp only [List.length_cons, List.length_nil] at hdl
    have la := a.toNat_lt
    refine Run.regionO (D := [some 16]) [true] rfl rfl rfl (fun Z hZ => ?_)
    refine QD.e ((Ev.lss rfl rfl).as (show _ = Value.bool true from congrArg Value.bool (decide_eq_true (by omega)))) (by decide) rfl ?_
    refine QD.nil (hZ _ ?_)
    clear hZ Z
    repeat (first | refine Run.seq ?_ | refine Run.skip ?_ | refine Run.block ?_ | refine Run.cond_t rfl ?_)
    refine Run.regionO (D := [some 17, some 7]) [true, true] rfl rfl rfl (fun Z hZ => ?_)
    iterate 2 refine QD.ev T (by decide) rfl rfl ?_
    refine QD.nil (hZ _ ?_)
    clear hZ Z
    refine Run.seq ?_
    obtain ⟨ch, hch, hcls⟩ : ∃ ch, (b64c (a.toNat / 4)).toNat = ch ∧ cls ch (a.toNat / 4) := ⟨_, rfl, cls_c (by omega)⟩
    refine Run.regionO (D := [some 18, some 19, some 20, some 8]) [true, true, true, true] rfl rfl rfl (fun Z hZ => ?_)
    iterate 2 refine QD.ev T (by decide) rfl rfl ?_
    refine QD.e ((Ev.indexT (s := s) T rfl rfl rfl (by omega) (by omega)).as (show _ = Value.int .u8 ((ch : Nat) : Int) from by show Value.int .u8 (((s.getD _ 0).toNat : Nat) : Int) = _; rw [show (((i : Nat) : Int)).toNat = i by omega, show s.getD i 0 = b64c (a.toNat / 4) from g0, hch])) (by decide) rfl ?_
    refine QD.ev T (by decide) rfl rfl ?_
    refine QD.nil (hZ _ ?_)
    clear hZ Z
    refine Run.seq ?_
    refine Run.regionO (D := [some 9]) [true] rfl rfl rfl (fun Z hZ => ?_)
    refine QD.ev T (by decide) rfl rfl ?_
    refine QD.nil (hZ _ ?_)
    clear hZ Z
    refine Run.keep [0, 2, 4, 5, 6, 7, 8, 9, 13, 14, 15] [_, _, _, _, _, _, _, _, _, _, _] rfl ?_
    repeat (refine Run.seq ?_)
    refine Run.pieceV [0, 2, 4, 5, 6, 7, 13, 14, 15] [_, _, _, _, _, _, _, _, _] 9 (.int .u8 (((a.toNat / 4 : Nat)) : Int)) rfl (fun k' hk' => ?_) ?_
    · refine Run.block ?_
      refine Run.seq ?_
      generalize hn : (a.toNat / 4 : Nat) = n at *
      rcases hcls with hcls | hcls | hcls | hcls | hcls
      · skip
        refine Run.regionO (D := [some 22, some 23, some 24, some 25, some 26, some 27, some 21]) [true, true, true, true, true, true, true] rfl rfl rfl (fun Z hZ => ?_)
        refine QD.ev T (by decide) rfl rfl ?_
        refine QD.e ((Ev.eqlI rfl rfl).as (show _ = Value.bool false from congrArg Value.bool (decide_eq_false (by omega)))) (by decide) rfl ?_
        iterate 2 refine QD.ev T (by decide) rfl rfl ?_
        refine QD.e ((Ev.eqlI rfl rfl).as (show _ = Value.bool false from congrArg Value.bool (decide_eq_false (by omega)))) (by decide) rfl ?_
        iterate 2 refine QD.ev T (by decide) rfl rfl ?_
        refine QD.nil (hZ _ ?_)
        clear hZ Z
        repeat (first | refine Run.seq ?_ | refine Run.cond_f rfl ?_)
        refine Run.regionO (D := [some 29, some 30, some 28]) [true, true, true] rfl rfl rfl (fun Z hZ => ?_)
        refine QD.ev T (by decide) rfl rfl ?_
        refine QD.e ((Ev.eqlI rfl rfl).as (show _ = Value.bool false from congrArg Value.bool (decide_eq_false (by omega)))) (by decide) rfl ?_
        refine QD.ev T (by decide) rfl rfl ?_
        refine QD.nil (hZ _ ?_)
        clear hZ Z
        repeat (first | refine Run.seq ?_ | refine Run.cond_f rfl ?_)
        refine Run.regionO (D := [some 40, some 41, some 39]) [true, true, true] rfl rfl rfl (fun Z hZ => ?_)
        refine QD.ev T (by decide) rfl rfl ?_
        refine QD.e (Ev.gtr rfl rfl) (by decide) rfl ?_
        refine QD.ev T (by decide) rfl rfl ?_
        refine QD.nil (hZ _ ?_)
        clear hZ Z
        repeat (first | refine Run.seq ?_ | refine Run.cond_f rfl ?_)
        refine Run.regionO (D := [some 43, some 44, some 45, some 46, some 47, some 48, some 42]) [true, true, true, true, true, true, true] rfl rfl rfl (fun Z hZ => ?_)
        refine QD.ev T (by decide) rfl rfl ?_
        refine QD.e ((Ev.geq rfl rfl).as (show _ = Value.bool true from congrArg Value.bool (decide_eq_true (by omega)))) (by decide) rfl ?_
        iterate 2 refine QD.ev T (by decide) rfl rfl ?_
        refine QD.e ((Ev.leq rfl rfl).as (show _ = Value.bool true from congrArg Value.bool (decide_eq_true (by omega)))) (by decide) rfl ?_
        iterate 2 refine QD.ev T (by decide) rfl rfl ?_
        refine QD.nil (hZ _ ?_)
        clear hZ Z
        refine Run.cond_t rfl ?_
        refine Run.regionO (D := [some 49, some 50, some 9]) [true, true, true] rfl rfl rfl (fun Z hZ => ?_)
        refine QD.ev T (by decide) rfl rfl ?_
        refine QD.e (Ev.subK (r := (n : Int)) rfl rfl (by rw [wrap8]; omega)) (by decide) rfl ?_
        refine QD.ev T (by decide) rfl rfl ?_
        refine QD.nil (hZ _ ?_)
        clear hZ Z
        refine Run.inBlock ?_
        refine Run.keep [9, 0, 2, 4, 5, 6, 7, 13, 14, 15] [_, _, _, _, _, _, _, _, _, _] rfl ?_
        exact hk'
      · skip
        refine Run.regionO (D := [some 22, some 23, some 24, some 25, some 26, some 27, some 21]) [true, true, true, true, true, true, true] rfl rfl rfl (fun Z hZ => ?_)
        refine QD.ev T (by decide) rfl rfl ?_
        refine QD.e ((Ev.eqlI rfl rfl).as (show _ = Value.bool false from congrArg Value.bool (decide_eq_false (by omega)))) (by decide) rfl ?_
        iterate 2 refine QD.ev T (by decide) rfl rfl ?_
        refine QD.e ((Ev.eqlI rfl rfl).as (show _ = Value.bool false from congrArg Value.bool (decide_eq_false (by omega)))) (by decide) rfl ?_
        iterate 2 refine QD.ev T (by decide) rfl rfl ?_
        refine QD.nil (hZ _ ?_)
        clear hZ Z
        repeat (first | refine Run.seq ?_ | refine Run.cond_f rfl ?_)
        refine Run.regionO (D := [some 29, some 30, some 28]) [true, true, true] rfl rfl rfl (fun Z hZ => ?_)
        refine QD.ev T (by decide) rfl rfl ?_
        refine QD.e ((Ev.eqlI rfl rfl).as (show _ = Value.bool false from congrArg Value.bool (decide_eq_false (by omega)))) (by decide) rfl ?_
        refine QD.ev T (by decide) rfl rfl ?_
        refine QD.nil (hZ _ ?_)
        clear hZ Z
        repeat (first | refine Run.seq ?_ | refine Run.cond_f rfl ?_)
        refine Run.regionO (D := [some 40, some 41, some 39]) [true, true, true] rfl rfl rfl (fun Z hZ => ?_)
        refine QD.ev T (by decide) rfl rfl ?_
        refine QD.e (Ev.gtr rfl rfl) (by decide) rfl ?_
        refine QD.ev T (by decide) rfl rfl ?_
        refine QD.nil (hZ _ ?_)
        clear hZ Z
        repeat (first | refine Run.seq ?_ | refine Run.cond_f rfl ?_)
        refine Run.regionO (D := [some 43, some 44, some 45, some 46, some 47, some 48, some 42]) [true, true, true, true, true, true, true] rfl rfl rfl (fun Z hZ => ?_)
        refine QD.ev T (by decide) rfl rfl ?_
        refine QD.e ((Ev.geq rfl rfl).as (show _ = Value.bool true from congrArg Value.bool (decide_eq_true (by omega)))) (by decide) rfl ?_
        iterate 2 refine QD.ev T (by decide) rfl rfl ?_
        refine QD.e ((Ev.leq rfl rfl).as (show _ = Value.bool false from congrArg Value.bool (decide_eq_false (by omega)))) (by decide) rfl ?_
        iterate 2 refine QD.ev T (by decide) rfl rfl ?_
        refine QD.nil (hZ _ ?_)
        clear hZ Z
        repeat (first | refine Run.seq ?_ | refine Run.cond_f rfl ?_)
        refine Run.regionO (D := [some 52, some 53, some 54, some 55, some 56, some 57, some 51]) [true, true, true, true, true, true, true] rfl rfl rfl (fun Z hZ => ?_)
        refine QD.ev T (by decide) rfl rfl ?_
        refine QD.e ((Ev.geq rfl rfl).as (show _ = Value.bool true from congrArg Value.bool (decide_eq_true (by omega)))) (by decide) rfl ?_
        iterate 2 refine QD.ev T (by decide) rfl rfl ?_
        refine QD.e ((Ev.leq rfl rfl).as (show _ = Value.bool true from congrArg Value.bool (decide_eq_true (by omega)))) (by decide) rfl ?_
        iterate 2 refine QD.ev T (by decide) rfl rfl ?_
        refine QD.nil (hZ _ ?_)
        clear hZ Z
        refine Run.cond_t rfl ?_
        refine Run.regionO (D := [some 58, some 59, some 60, some 9]) [true, true, true, true] rfl rfl rfl (fun Z hZ => ?_)
        refine QD.ev T (by decide) rfl rfl ?_
        refine QD.e (Ev.subK (r := ((ch - 97 : Nat) : Int)) rfl rfl (by rw [wrap8]; omega)) (by decide) rfl ?_
        refine QD.e (Ev.addK (r := (n : Int)) rfl rfl (by rw [wrap8]; omega)) (by decide) rfl ?_
        refine QD.ev T (by decide) rfl rfl ?_
        refine QD.nil (hZ _ ?_)
        clear hZ Z
        refine Run.inBlock ?_
        refine Run.keep [9, 0, 2, 4, 5, 6, 7, 13, 14, 15] [_, _, _, _, _, _, _, _, _, _] rfl ?_
        exact hk'
      · skip
        refine Run.regionO (D := [some 22, some 23, some 24, some 25, some 26, some 27, some 21]) [true, true, true, true, true, true, true] rfl rfl rfl (fun Z hZ => ?_)
        refine QD.ev T (by decide) rfl rfl ?_
        refine QD.e ((Ev.eqlI rfl rfl).as (show _ = Value.bool false from congrArg Value.bool (decide_eq_false (by omega)))) (by decide) rfl ?_
        iterate 2 refine QD.ev T (by decide) rfl rfl ?_
        refine QD.e ((Ev.eqlI rfl rfl).as (show _ = Value.bool false from congrArg Value.bool (decide_eq_false (by omega)))) (by decide) rfl ?_
        iterate 2 refine QD.ev T (by decide) rfl rfl ?_
        refine QD.nil (hZ _ ?_)
        clear hZ Z
        repeat (first | refine Run.seq ?_ | refine Run.cond_f rfl ?_)
        refine Run.regionO (D := [some 29, some 30, some 28]) [true, true, true] rfl rfl rfl (fun Z hZ => ?_)
        refine QD.ev T (by decide) rfl rfl ?_
        refine QD.e ((Ev.eqlI rfl rfl).as (show _ = Value.bool false from congrArg Value.bool (decide_eq_false (by omega)))) (by decide) rfl ?_
        refine QD.ev T (by decide) rfl rfl ?_
        refine QD.nil (hZ _ ?_)
        clear hZ Z
        repeat (first | refine Run.seq ?_ | refine Run.cond_f rfl ?_)
        refine Run.regionO (D := [some 40, some 41, some 39]) [true, true, true] rfl rfl rfl (fun Z hZ => ?_)
        refine QD.ev T (by decide) rfl rfl ?_
        refine QD.e (Ev.gtr rfl rfl) (by decide) rfl ?_
        refine QD.ev T (by decide) rfl rfl ?_
        refine QD.nil (hZ _ ?_)
        clear hZ Z
        repeat (first | refine Run.seq ?_ | refine Run.cond_f rfl ?_)
        refine Run.regionO (D := [some 43, some 44, some 45, some 46, some 47, some 48, some 42]) [true, true, true, true, true, true, true] rfl rfl rfl (fun Z hZ => ?_)
        refine QD.ev T (by decide) rfl rfl ?_
        refine QD.e ((Ev.geq rfl rfl).as (show _ = Value.bool false from congrArg Value.bool (decide_eq_false (by omega)))) (by decide) rfl ?_
        refine QD.ev T (by decide) rfl rfl ?_
        iterate 2 refine QD.off (by decide) rfl ?_
        iterate 2 refine QD.ev T (by decide) rfl rfl ?_
        refine QD.nil (hZ _ ?_)
        clear hZ Z
        repeat (first | refine Run.seq ?_ | refine Run.cond_f rfl ?_)
        refine Run.regionO (D := [some 52, some 53, some 54, some 55, some 56, some 57, some 51]) [true, true, true, true, true, true, true] rfl rfl rfl (fun Z hZ => ?_)
        refine QD.ev T (by decide) rfl rfl ?_
        refine QD.e ((Ev.geq rfl rfl).as (show _ = Value.bool false from congrArg Value.bool (decide_eq_false (by omega)))) (by decide) rfl ?_
        refine QD.ev T (by decide) rfl rfl ?_
        iterate 2 refine QD.off (by decide) rfl ?_
        iterate 2 refine QD.ev T (by decide) rfl rfl ?_
        refine QD.nil (hZ _ ?_)
        clear hZ Z
        repeat (first | refine Run.seq ?_ | refine Run.cond_f rfl ?_)
        refine Run.regionO (D := [some 62, some 63, some 64, some 65, some 66, some 67, some 61]) [true, true, true, true, true, true, true] rfl rfl rfl (fun Z hZ => ?_)
        refine QD.ev T (by decide) rfl rfl ?_
        refine QD.e ((Ev.geq rfl rfl).as (show _ = Value.bool true from congrArg Value.bool (decide_eq_true (by omega)))) (by decide) rfl ?_
        iterate 2 refine QD.ev T (by decide) rfl rfl ?_
        refine QD.e ((Ev.leq rfl rfl).as (show _ = Value.bool true from congrArg Value.bool (decide_eq_true (by omega)))) (by decide) rfl ?_
        iterate 2 refine QD.ev T (by decide) rfl rfl ?_
        refine QD.nil (hZ _ ?_)
        clear hZ Z
        refine Run.cond_t rfl ?_
        refine Run.regionO (D := [some 68, some 69, some 70, some 9]) [true, true, true, true] rfl rfl rfl (fun Z hZ => ?_)
        refine QD.ev T (by decide) rfl rfl ?_
        refine QD.e (Ev.subK (r := ((ch - 48 : Nat) : Int)) rfl rfl (by rw [wrap8]; omega)) (by decide) rfl ?_
        refine QD.e (Ev.addK (r := (n : Int)) rfl rfl (by rw [wrap8]; omega)) (by decide) rfl ?_
        refine QD.ev T (by decide) rfl rfl ?_
        refine QD.nil (hZ _ ?_)
        clear hZ Z
        refine Run.inBlock ?_
        refine Run.keep [9, 0, 2, 4, 5, 6, 7, 13, 14, 15] [_, _, _, _, _, _, _, _, _, _] rfl ?_
        exact hk'
      · obtain ⟨rfl, rfl⟩ := hcls
        refine Run.regionO (D := [some 22, some 23, some 24, some 25, some 26, some 27, some 21]) [true, true, true, true, true, true, true] rfl rfl rfl (fun Z hZ => ?_)
        refine QD.ev T (by decide) rfl rfl ?_
        refine QD.e ((Ev.eqlI rfl rfl).as (show _ = Value.bool false from congrArg Value.bool (decide_eq_false (by omega)))) (by decide) rfl ?_
        iterate 2 refine QD.ev T (by decide) rfl rfl ?_
        refine QD.e ((Ev.eqlI rfl rfl).as (show _ = Value.bool false from congrArg Value.bool (decide_eq_false (by omega)))) (by decide) rfl ?_
        iterate 2 refine QD.ev T (by decide) rfl rfl ?_
        refine QD.nil (hZ _ ?_)
        clear hZ Z
        repeat (first | refine Run.seq ?_ | refine Run.cond_f rfl ?_)
        refine Run.regionO (D := [some 29, some 30, some 28]) [true, true, true] rfl rfl rfl (fun Z hZ => ?_)
        refine QD.ev T (by decide) rfl rfl ?_
        refine QD.e ((Ev.eqlI rfl rfl).as (show _ = Value.bool false from congrArg Value.bool (decide_eq_false (by omega)))) (by decide) rfl ?_
        refine QD.ev T (by decide) rfl rfl ?_
        refine QD.nil (hZ _ ?_)
        clear hZ Z
        repeat (first | refine Run.seq ?_ | refine Run.cond_f rfl ?_)
        refine Run.regionO (D := [some 40, some 41, some 39]) [true, true, true] rfl rfl rfl (fun Z hZ => ?_)
        refine QD.ev T (by decide) rfl rfl ?_
        refine QD.e (Ev.gtr rfl rfl) (by decide) rfl ?_
        refine QD.ev T (by decide) rfl rfl ?_
        refine QD.nil (hZ _ ?_)
        clear hZ Z
        repeat (first | refine Run.seq ?_ | refine Run.cond_f rfl ?_)
        refine Run.regionO (D := [some 43, some 44, some 45, some 46, some 47, some 48, some 42]) [true, true, true, true, true, true, true] rfl rfl rfl (fun Z hZ => ?_)
        refine QD.ev T (by decide) rfl rfl ?_
        refine QD.e ((Ev.geq rfl rfl).as (show _ = Value.bool false from congrArg Value.bool (decide_eq_false (by omega)))) (by decide) rfl ?_
        refine QD.ev T (by decide) rfl rfl ?_
        iterate 2 refine QD.off (by decide) rfl ?_
        iterate 2 refine QD.ev T (by decide) rfl rfl ?_
        refine QD.nil (hZ _ ?_)
        clear hZ Z
        repeat (first | refine Run.seq ?_ | refine Run.cond_f rfl ?_)
        refine Run.regionO (D := [some 52, some 53, some 54, some 55, some 56, some 57, some 51]) [true, true, true, true, true, true, true] rfl rfl rfl (fun Z hZ => ?_)
        refine QD.ev T (by decide) rfl rfl ?_
        refine QD.e ((Ev.geq rfl rfl).as (show _ = Value.bool false from congrArg Value.bool (decide_eq_false (by omega)))) (by decide) rfl ?_
        refine QD.ev T (by decide) rfl rfl ?_
        iterate 2 refine QD.off (by decide) rfl ?_
        iterate 2 refine QD.ev T (by decide) rfl rfl ?_
        refine QD.nil (hZ _ ?_)
        clear hZ Z
        repeat (first | refine Run.seq ?_ | refine Run.cond_f rfl ?_)
        refine Run.regionO (D := [some 62, some 63, some 64, some 65, some 66, some 67, some 61]) [true, true, true, true, true, true, true] rfl rfl rfl (fun Z hZ => ?_)
        refine QD.ev T (by decide) rfl rfl ?_
        refine QD.e ((Ev.geq rfl rfl).as (show _ = Value.bool false from congrArg Value.bool (decide_eq_false (by omega)))) (by decide) rfl ?_
        refine QD.ev T (by decide) rfl rfl ?_
        iterate 2 refine QD.off (by decide) rfl ?_
        iterate 2 refine QD.ev T (by decide) rfl rfl ?_
        refine QD.nil (hZ _ ?_)
        clear hZ Z
        repeat (first | refine Run.seq ?_ | refine Run.cond_f rfl ?_)
        refine Run.regionO (D := [some 72, some 73, some 71]) [true, true, true] rfl rfl rfl (fun Z hZ => ?_)
        refine QD.ev T (by decide) rfl rfl ?_
        refine QD.e (Ev.eqlI rfl rfl) (by decide) rfl ?_
        refine QD.ev T (by decide) rfl rfl ?_
        refine QD.nil (hZ _ ?_)
        clear hZ Z
        refine Run.cond_t rfl ?_
        refine Run.regionO (D := [some 9]) [true] rfl rfl rfl (fun Z hZ => ?_)
        refine QD.ev T (by decide) rfl rfl ?_
        refine QD.nil (hZ _ ?_)
        clear hZ Z
        refine Run.inBlock ?_
        refine Run.keep [9, 0, 2, 4, 5, 6, 7, 13, 14, 15] [_, _, _, _, _, _, _, _, _, _] rfl ?_
        exact hk'
      · obtain ⟨rfl, rfl⟩ := hcls
        refine Run.regionO (D := [some 22, some 23, some 24, some 25, some 26, some 27, some 21]) [true, true, true, true, true, true, true] rfl rfl rfl (fun Z hZ => ?_)
        refine QD.ev T (by decide) rfl rfl ?_
        refine QD.e ((Ev.eqlI rfl rfl).as (show _ = Value.bool false from congrArg Value.bool (decide_eq_false (by omega)))) (by decide) rfl ?_
        iterate 2 refine QD.ev T (by decide) rfl rfl ?_
        refine QD.e ((Ev.eqlI rfl rfl).as (show _ = Value.bool false from congrArg Value.bool (decide_eq_false (by omega)))) (by decide) rfl ?_
        iterate 2 refine QD.ev T (by decide) rfl rfl ?_
        refine QD.nil (hZ _ ?_)
        clear hZ Z
        repeat (first | refine Run.seq ?_ | refine Run.cond_f rfl ?_)
        refine Run.regionO (D := [some 29, some 30, some 28]) [true, true, true] rfl rfl rfl (fun Z hZ => ?_)
        refine QD.ev T (by decide) rfl rfl ?_
        refine QD.e ((Ev.eqlI rfl rfl).as (show _ = Value.bool false from congrArg Value.bool (decide_eq_false (by omega)))) (by decide) rfl ?_
        refine QD.ev T (by decide) rfl rfl ?_
        refine QD.nil (hZ _ ?_)
        clear hZ Z
        repeat (first | refine Run.seq ?_ | refine Run.cond_f rfl ?_)
        refine Run.regionO (D := [some 40, some 41, some 39]) [true, true, true] rfl rfl rfl (fun Z hZ => ?_)
        refine QD.ev T (by decide) rfl rfl ?_
        refine QD.e (Ev.gtr rfl rfl) (by decide) rfl ?_
        refine QD.ev T (by decide) rfl rfl ?_
        refine QD.nil (hZ _ ?_)
        clear hZ Z
        repeat (first | refine Run.seq ?_ | refine Run.cond_f rfl ?_)
        refine Run.regionO (D := [some 43, some 44, some 45, some 46, some 47, some 48, some 42]) [true, true, true, true, true, true, true] rfl rfl rfl (fun Z hZ => ?_)
        refine QD.ev T (by decide) rfl rfl ?_
        refine QD.e ((Ev.geq rfl rfl).as (show _ = Value.bool false from congrArg Value.bool (decide_eq_false (by omega)))) (by decide) rfl ?_
        refine QD.ev T (by decide) rfl rfl ?_
        iterate 2 refine QD.off (by decide) rfl ?_
        iterate 2 refine QD.ev T (by decide) rfl rfl ?_
        refine QD.nil (hZ _ ?_)
        clear hZ Z
        repeat (first | refine Run.seq ?_ | refine Run.cond_f rfl ?_)
        refine Run.regionO (D := [some 52, some 53, some 54, some 55, some 56, some 57, some 51]) [true, true, true, true, true, true, true] rfl rfl rfl (fun Z hZ => ?_)
        refine QD.ev T (by decide) rfl rfl ?_
        refine QD.e ((Ev.geq rfl rfl).as (show _ = Value.bool false from congrArg Value.bool (decide_eq_false (by omega)))) (by decide) rfl ?_
        refine QD.ev T (by decide) rfl rfl ?_
        iterate 2 refine QD.off (by decide) rfl ?_
        iterate 2 refine QD.ev T (by decide) rfl rfl ?_
        refine QD.nil (hZ _ ?_)
        clear hZ Z
        repeat (first | refine Run.seq ?_ | refine Run.cond_f rfl ?_)
        refine Run.regionO (D := [some 62, some 63, some 64, some 65, some 66, some 67, some 61]) [true, true, true, true, true, true, true] rfl rfl rfl (fun Z hZ => ?_)
        refine QD.ev T (by decide) rfl rfl ?_
        refine QD.e ((Ev.geq rfl rfl).as (show _ = Value.bool false from congrArg Value.bool (decide_eq_false (by omega)))) (by decide) rfl ?_
        refine QD.ev T (by decide) rfl rfl ?_
        iterate 2 refine QD.off (by decide) rfl ?_
        iterate 2 refine QD.ev T (by decide) rfl rfl ?_
        refine QD.nil (hZ _ ?_)
        clear hZ Z
        repeat (first | refine Run.seq ?_ | refine Run.cond_f rfl ?_)
        refine Run.regionO (D := [some 72, some 73, some 71]) [true, true, true] rfl rfl rfl (fun Z hZ => ?_)
        refine QD.ev T (by decide) rfl rfl ?_
        refine QD.e (Ev.eqlI rfl rfl) (by decide) rfl ?_
        refine QD.ev T (by decide) rfl rfl ?_
        refine QD.nil (hZ _ ?_)
        clear hZ Z
        repeat (first | refine Run.seq ?_ | refine Run.cond_f rfl ?_)
        refine Run.regionO (D := [some 75, some 76, some 74]) [true, true, true] rfl rfl rfl (fun Z hZ => ?_)
        refine QD.ev T (by decide) rfl rfl ?_
        refine QD.e (Ev.eqlI rfl rfl) (by decide) rfl ?_
        refine QD.ev T (by decide) rfl rfl ?_
        refine QD.nil (hZ _ ?_)
        clear hZ Z
        refine Run.cond_t rfl ?_
        refine Run.regionO (D := [some 9]) [true] rfl rfl rfl (fun Z hZ => ?_)
        refine QD.ev T (by decide) rfl rfl ?_
        refine QD.nil (hZ _ ?_)
        clear hZ Z
        refine Run.inBlock ?_
        refine Run.keep [9, 0, 2, 4, 5, 6, 7, 13, 14, 15] [_, _, _, _, _, _, _, _, _, _] rfl ?_
        exact hk'
    clear hcls hch
    clear ch
    refine Run.seq ?_
    refine Run.regionP (D := [some 77, some 78, some 79, none]) [true, true, true] 3 rfl rfl rfl (by simp only [List.drop_succ_cons, List.drop_zero]; rfl) (fun Z hZ => ?_)
    iterate 2 refine QD.ev T (by decide) rfl rfl ?_
    refine QD.e (Ev.indexP T rfl rfl rfl rfl (by first | omega | (simp only [List.length_cons, List.length_nil] ; omega) | (simp; omega)) (by first | omega | (simp only [List.length_cons, List.length_nil] ; omega) | (simp; omega))) (by decide) rfl ?_
    refine QD.nil (hZ _ ?_)
    clear hZ Z
    refine Ops.store 0 rfl rfl rfl rfl rfl (T.sizeOk rfl) rfl (Nat.le_of_ble_eq_true rfl) rfl rfl ?_
    refine Ops.nil ?_
    repeat refine Run.seq ?_
    refine Run.regionO (D := [some 80, some 81, some 5]) [true, true, true] rfl rfl rfl (fun Z hZ => ?_)
    refine QD.ev T (by decide) rfl rfl ?_
    refine QD.e (Ev.addI rfl rfl (wI (by first | omega | (simp only [List.length_cons, List.length_nil] ; omega) | (simp; omega)) (by first | omega | (simp only [List.length_cons, List.length_nil] ; omega) | (simp; omega)))) (by decide) rfl ?_
    refine QD.ev T (by decide) rfl rfl ?_
    refine QD.nil (hZ _ ?_)
    clear hZ Z
    refine Run.seq ?_
    refine Run.regionO (D := [some 82, some 83]) [true, true] rfl rfl rfl (fun Z hZ => ?_)
    refine QD.ev T (by decide) rfl rfl ?_
    refine QD.e (Ev.lss rfl rfl) (by decide) rfl ?_
    refine QD.nil (hZ _ ?_)
    clear hZ Z
    repeat (first | refine Run.exit rfl ?_ | refine Run.cond_t rfl ?_)
    refine Run.regionO (D := [some 131, some 15]) [true, true] rfl rfl rfl (fun Z hZ => ?_)
    refine QD.e (Ev.addK (r := ((i + 1 : Nat) : Int)) rfl rfl (by rw [wI (by omega) (by omega)]; omega)) (by decide) rfl ?_
    refine QD.ev T (by decide) rfl rfl ?_
    refine QD.nil (hZ _ ?_)
    clear hZ Z
    skip
    refine Run.keep [0, 2, 4, 5, 6, 13, 14, 15] [_, _, _, _, _, _, _, _] rfl ?_
    refine Run.inLoop ?_
    refine Run.seq ?_
    refine Run.regionO (D := [some 16]) [true] rfl rfl rfl (fun Z hZ => ?_)
    refine QD.e ((Ev.lss rfl rfl).as (show _ = Value.bool true from congrArg Value.bool (decide_eq_true (by omega)))) (by decide) rfl ?_
    refine QD.nil (hZ _ ?_)
    clear hZ Z
    repeat (first | refine Run.seq ?_ | refine Run.skip ?_ | refine Run.block ?_ | refine Run.cond_t rfl ?_)
    refine Run.regionO (D := [some 17, some 7]) [true, true] rfl rfl rfl (fun Z hZ => ?_)
    iterate 2 refine QD.ev T (by decide) rfl rfl ?_
    refine QD.nil (hZ _ ?_)
    clear hZ Z
    refine Run.seq ?_
    obtain ⟨ch, hch, hcls⟩ : ∃ ch, (b64c (a.toNat % 4 * 16)).toNat = ch ∧ cls ch (a.toNat % 4 * 16) := ⟨_, rfl, cls_c (by omega)⟩
    refine Run.regionO (D := [some 18, some 19, some 20, some 8]) [true, true, true, true] rfl rfl rfl (fun Z hZ => ?_)
    iterate 2 refine QD.ev T (by decide) rfl rfl ?_
    refine QD.e ((Ev.indexT (s := s) T rfl rfl rfl (by omega) (by omega)).as (show _ = Value.int .u8 ((ch : Nat) : Int) from by show Value.int .u8 (((s.getD _ 0).toNat : Nat) : Int) = _; rw [show (((i + 1 : Nat) : Int)).toNat = i + 1 by omega, show s.getD (i + 1) 0 = b64c (a.toNat % 4 * 16) from g1, hch])) (by decide) rfl ?_
    refine QD.ev T (by decide) rfl rfl ?_
    refine QD.nil (hZ _ ?_)
    clear hZ Z
    refine Run.seq ?_
    refine Run.regionO (D := [some 9]) [true] rfl rfl rfl (fun Z hZ => ?_)
    refine QD.ev T (by decide) rfl rfl ?_
    refine QD.nil (hZ _ ?_)
    clear hZ Z
    refine Run.keep [0, 2, 4, 5, 6, 7, 8, 9, 13, 14, 15] [_, _, _, _, _, _, _, _, _, _, _] rfl ?_
    repeat (refine Run.seq ?_)
    refine Run.pieceV [0, 2, 4, 5, 6, 7, 13, 14, 15] [_, _, _, _, _, _, _, _, _] 9 (.int .u8 (((a.toNat % 4 * 16 : Nat)) : Int)) rfl (fun k' hk' => ?_) ?_
    · refine Run.block ?_
      refine Run.seq ?_
      generalize hn : (a.toNat % 4 * 16 : Nat) = n at *
      rcases hcls with hcls | hcls | hcls | hcls | hcls
      · skip
        refine Run.regionO (D := [some 22, some 23, some 24, some 25, some 26, some 27, some 21]) [true, true, true, true, true, true, true] rfl rfl rfl (fun Z hZ => ?_)
        refine QD.ev T (by decide) rfl rfl ?_
        refine QD.e ((Ev.eqlI rfl rfl).as (show _ = Value.bool false from congrArg Value.bool (decide_eq_false (by omega)))) (by decide) rfl ?_
        iterate 2 refine QD.ev T (by decide) rfl rfl ?_
        refine QD.e ((Ev.eqlI rfl rfl).as (show _ = Value.bool false from congrArg Value.bool (decide_eq_false (by omega)))) (by decide) rfl ?_
        iterate 2 refine QD.ev T (by decide) rfl rfl ?_
        refine QD.nil (hZ _ ?_)
        clear hZ Z
        repeat (first | refine Run.seq ?_ | refine Run.cond_f rfl ?_)
        refine Run.regionO (D := [some 29, some 30, some 28]) [true, true, true] rfl rfl rfl (fun Z hZ => ?_)
        refine QD.ev T (by decide) rfl rfl ?_
        refine QD.e ((Ev.eqlI rfl rfl).as (show _ = Value.bool false from congrArg Value.bool (decide_eq_false (by omega)))) (by decide) rfl ?_
        refine QD.ev T (by decide) rfl rfl ?_
        refine QD.nil (hZ _ ?_)
        clear hZ Z
        repeat (first | refine Run.seq ?_ | refine Run.cond_f rfl ?_)
        refine Run.regionO (D := [some 40, some 41, some 39]) [true, true, true] rfl rfl rfl (fun Z hZ => ?_)
        refine QD.ev T (by decide) rfl rfl ?_
        refine QD.e (Ev.gtr rfl rfl) (by decide) rfl ?_
        refine QD.ev T (by decide) rfl rfl ?_
        refine QD.nil (hZ _ ?_)
        clear hZ Z
        repeat (first | refine Run.seq ?_ | refine Run.cond_f rfl ?_)
        refine Run.regionO (D := [some 43, some 44, some 45, some 46, some 47, some 48, some 42]) [true, true, true, true, true, true, true] rfl rfl rfl (fun Z hZ => ?_)
        refine QD.ev T (by decide) rfl rfl ?_
        refine QD.e ((Ev.geq rfl rfl).as (show _ = Value.bool true from congrArg Value.bool (decide_eq_true (by omega)))) (by decide) rfl ?_
        iterate 2 refine QD.ev T (by decide) rfl rfl ?_
        refine QD.e ((Ev.leq rfl rfl).as (show _ = Value.bool true from congrArg Value.bool (decide_eq_true (by omega)))) (by decide) rfl ?_
        iterate 2 refine QD.ev T (by decide) rfl rfl ?_
        refine QD.nil (hZ _ ?_)
        clear hZ Z
        refine Run.cond_t rfl ?_
        refine Run.regionO (D := [some 49, some 50, some 9]) [true, true, true] rfl rfl rfl (fun Z hZ => ?_)
        refine QD.ev T (by decide) rfl rfl ?_
        refine QD.e (Ev.subK (r := (n : Int)) rfl rfl (by rw [wrap8]; omega)) (by decide) rfl ?_
        refine QD.ev T (by decide) rfl rfl ?_
        refine QD.nil (hZ _ ?_)
        clear hZ Z
        refine Run.inBlock ?_
        refine Run.keep [9, 0, 2, 4, 5, 6, 7, 13, 14, 15] [_, _, _, _, _, _, _, _, _, _] rfl ?_
        exact hk'
      · skip
        refine Run.regionO (D := [some 22, some 23, some 24, some 25, some 26, some 27, some 21]) [true, true, true, true, true, true, true] rfl rfl rfl (fun Z hZ => ?_)
        refine QD.ev T (by decide) rfl rfl ?_
        refine QD.e ((Ev.eqlI rfl rfl).as (show _ = Value.bool false from congrArg Value.bool (decide_eq_false (by omega)))) (by decide) rfl ?_
        iterate 2 refine QD.ev T (by decide) rfl rfl ?_
        refine QD.e ((Ev.eqlI rfl rfl).as (show _ = Value.bool false from congrArg Value.bool (decide_eq_false (by omega)))) (by decide) rfl ?_
        iterate 2 refine QD.ev T (by decide) rfl rfl ?_
        refine QD.nil (hZ _ ?_)
        clear hZ Z
        repeat (first | refine Run.seq ?_ | refine Run.cond_f rfl ?_)
        refine Run.regionO (D := [some 29, some 30, some 28]) [true, true, true] rfl rfl rfl (fun Z hZ => ?_)
        refine QD.ev T (by decide) rfl rfl ?_
        refine QD.e ((Ev.eqlI rfl rfl).as (show _ = Value.bool false from congrArg Value.bool (decide_eq_false (by omega)))) (by decide) rfl ?_
        refine QD.ev T (by decide) rfl rfl ?_
        refine QD.nil (hZ _ ?_)
        clear hZ Z
        repeat (first | refine Run.seq ?_ | refine Run.cond_f rfl ?_)
        refine Run.regionO (D := [some 40, some 41, some 39]) [true, true, true] rfl rfl rfl (fun Z hZ => ?_)
        refine QD.ev T (by decide) rfl rfl ?_
        refine QD.e (Ev.gtr rfl rfl) (by decide) rfl ?_
        refine QD.ev T (by decide) rfl rfl ?_
        refine QD.nil (hZ _ ?_)
        clear hZ Z
        repeat (first | refine Run.seq ?_ | refine Run.cond_f rfl ?_)
        refine Run.regionO (D := [some 43, some 44, some 45, some 46, some 47, some 48, some 42]) [true, true, true, true, true, true, true] rfl rfl rfl (fun Z hZ => ?_)
        refine QD.ev T (by decide) rfl rfl ?_
        refine QD.e ((Ev.geq rfl rfl).as (show _ = Value.bool true from congrArg Value.bool (decide_eq_true (by omega)))) (by decide) rfl ?_
        iterate 2 refine QD.ev T (by decide) rfl rfl ?_
        refine QD.e ((Ev.leq rfl rfl).as (show _ = Value.bool false from congrArg Value.bool (decide_eq_false (by omega)))) (by decide) rfl ?_
        iterate 2 refine QD.ev T (by decide) rfl rfl ?_
        refine QD.nil (hZ _ ?_)
        clear hZ Z
        repeat (first | refine Run.seq ?_ | refine Run.cond_f rfl ?_)
        refine Run.regionO (D := [some 52, some 53, some 54, some 55, some 56, some 57, some 51]) [true, true, true, true, true, true, true] rfl rfl rfl (fun Z hZ => ?_)
        refine QD.ev T (by decide) rfl rfl ?_
        refine QD.e ((Ev.geq rfl rfl).as (show _ = Value.bool true from congrArg Value.bool (decide_eq_true (by omega)))) (by decide) rfl ?_
        iterate 2 refine QD.ev T (by decide) rfl rfl ?_
        refine QD.e ((Ev.leq rfl rfl).as (show _ = Value.bool true from congrArg Value.bool (decide_eq_true (by omega)))) (by decide) rfl ?_
        iterate 2 refine QD.ev T (by decide) rfl rfl ?_
        refine QD.nil (hZ _ ?_)
        clear hZ Z
        refine Run.cond_t rfl ?_
        refine Run.regionO (D := [some 58, some 59, some 60, some 9]) [true, true, true, true] rfl rfl rfl (fun Z hZ => ?_)
        refine QD.ev T (by decide) rfl rfl ?_
        refine QD.e (Ev.subK (r := ((ch - 97 : Nat) : Int)) rfl rfl (by rw [wrap8]; omega)) (by decide) rfl ?_
        refine QD.e (Ev.addK (r := (n : Int)) rfl rfl (by rw [wrap8]; omega)) (by decide) rfl ?_
        refine QD.ev T (by decide) rfl rfl ?_
        refine QD.nil (hZ _ ?_)
        clear hZ Z
        refine Run.inBlock ?_
        refine Run.keep [9, 0, 2, 4, 5, 6, 7, 13, 14, 15] [_, _, _, _, _, _, _, _, _, _] rfl ?_
        exact hk'
      · skip
        refine Run.regionO (D := [some 22, some 23, some 24, some 25, some 26, some 27, some 21]) [true, true, true, true, true, true, true] rfl rfl rfl (fun Z hZ => ?_)
        refine QD.ev T (by decide) rfl rfl ?_
        refine QD.e ((Ev.eqlI rfl rfl).as (show _ = Value.bool false from congrArg Value.bool (decide_eq_false (by omega)))) (by decide) rfl ?_
        iterate 2 refine QD.ev T (by decide) rfl rfl ?_
        refine QD.e ((Ev.eqlI rfl rfl).as (show _ = Value.bool false from congrArg Value.bool (decide_eq_false (by omega)))) (by decide) rfl ?_
        iterate 2 refine QD.ev T (by decide) rfl rfl ?_
        refine QD.nil (hZ _ ?_)
        clear hZ Z
        repeat (first | refine Run.seq ?_ | refine Run.cond_f rfl ?_)
        refine Run.regionO (D := [some 29, some 30, some 28]) [true, true, true] rfl rfl rfl (fun Z hZ => ?_)
        refine QD.ev T (by decide) rfl rfl ?_
        refine QD.e ((Ev.eqlI rfl rfl).as (show _ = Value.bool false from congrArg Value.bool (decide_eq_false (by omega)))) (by decide) rfl ?_
        refine QD.ev T (by decide) rfl rfl ?_
        refine QD.nil (hZ _ ?_)
        clear hZ Z
        repeat (first | refine Run.seq ?_ | refine Run.cond_f rfl ?_)
        refine Run.regionO (D := [some 40, some 41, some 39]) [true, true, true] rfl rfl rfl (fun Z hZ => ?_)
        refine QD.ev T (by decide) rfl rfl ?_
        refine QD.e (Ev.gtr rfl rfl) (by decide) rfl ?_
        refine QD.ev T (by decide) rfl rfl ?_
        refine QD.nil (hZ _ ?_)
        clear hZ Z
        repeat (first | refine Run.seq ?_ | refine Run.cond_f rfl ?_)
        refine Run.regionO (D := [some 43, some 44, some 45, some 46, some 47, some 48, some 42]) [true, true, true, true, true, true, true] rfl rfl rfl (fun Z hZ => ?_)
        refine QD.ev T (by decide) rfl rfl ?_
        refine QD.e ((Ev.geq rfl rfl).as (show _ = Value.bool false from congrArg Value.bool (decide_eq_false (by omega)))) (by decide) rfl ?_
        refine QD.ev T (by decide) rfl rfl ?_
        iterate 2 refine QD.off (by decide) rfl ?_
        iterate 2 refine QD.ev T (by decide) rfl rfl ?_
        refine QD.nil (hZ _ ?_)
        clear hZ Z
        repeat (first | refine Run.seq ?_ | refine Run.cond_f rfl ?_)
        refine Run.regionO (D := [some 52, some 53, some 54, some 55, some 56, some 57, some 51]) [true, true, true, true, true, true, true] rfl rfl rfl (fun Z hZ => ?_)
        refine QD.ev T (by decide) rfl rfl ?_
        refine QD.e ((Ev.geq rfl rfl).as (show _ = Value.bool false from congrArg Value.bool (decide_eq_false (by omega)))) (by decide) rfl ?_
        refine QD.ev T (by decide) rfl rfl ?_
        iterate 2 refine QD.off (by decide) rfl ?_
        iterate 2 refine QD.ev T (by decide) rfl rfl ?_
        refine QD.nil (hZ _ ?_)
        clear hZ Z
        repeat (first | refine Run.seq ?_ | refine Run.cond_f rfl ?_)
        refine Run.regionO (D := [some 62, some 63, some 64, some 65, some 66, some 67, some 61]) [true, true, true, true, true, true, true] rfl rfl rfl (fun Z hZ => ?_)
        refine QD.ev T (by decide) rfl rfl ?_
        refine QD.e ((Ev.geq rfl rfl).as (show _ = Value.bool true from congrArg Value.bool (decide_eq_true (by omega)))) (by decide) rfl ?_
        iterate 2 refine QD.ev T (by decide) rfl rfl ?_
        refine QD.e ((Ev.leq rfl rfl).as (show _ = Value.bool true from congrArg Value.bool (decide_eq_true (by omega)))) (by decide) rfl ?_
        iterate 2 refine QD.ev T (by decide) rfl rfl ?_
        refine QD.nil (hZ _ ?_)
        clear hZ Z
        refine Run.cond_t rfl ?_
        refine Run.regionO (D := [some 68, some 69, some 70, some 9]) [true, true, true, true] rfl rfl rfl (fun Z hZ => ?_)
        refine QD.ev T (by decide) rfl rfl ?_
        refine QD.e (Ev.subK (r := ((ch - 48 : Nat) : Int)) rfl rfl (by rw [wrap8]; omega)) (by decide) rfl ?_
        refine QD.e (Ev.addK (r := (n : Int)) rfl rfl (by rw [wrap8]; omega)) (by decide) rfl ?_
        refine QD.ev T (by decide) rfl rfl ?_
        refine QD.nil (hZ _ ?_)
        clear hZ Z
        refine Run.inBlock ?_
        refine Run.keep [9, 0, 2, 4, 5, 6, 7, 13, 14, 15] [_, _, _, _, _, _, _, _, _, _] rfl ?_
        exact hk'
      · obtain ⟨rfl, rfl⟩ := hcls
        refine Run.regionO (D := [some 22, some 23, some 24, some 25, some 26, some 27, some 21]) [true, true, true, true, true, true, true] rfl rfl rfl (fun Z hZ => ?_)
        refine QD.ev T (by decide) rfl rfl ?_
        refine QD.e ((Ev.eqlI rfl rfl).as (show _ = Value.bool false from congrArg Value.bool (decide_eq_false (by omega)))) (by decide) rfl ?_
        iterate 2 refine QD.ev T (by decide) rfl rfl ?_
        refine QD.e ((Ev.eqlI rfl rfl).as (show _ = Value.bool false from congrArg Value.bool (decide_eq_false (by omega)))) (by decide) rfl ?_
        iterate 2 refine QD.ev T (by decide) rfl rfl ?_
        refine QD.nil (hZ _ ?_)
        clear hZ Z
        repeat (first | refine Run.seq ?_ | refine Run.cond_f rfl ?_)
        refine Run.regionO (D := [some 29, some 30, some 28]) [true, true, true] rfl rfl rfl (fun Z hZ => ?_)
        refine QD.ev T (by decide) rfl rfl ?_
        refine QD.e ((Ev.eqlI rfl rfl).as (show _ = Value.bool false from congrArg Value.bool (decide_eq_false (by omega)))) (by decide) rfl ?_
        refine QD.ev T (by decide) rfl rfl ?_
        refine QD.nil (hZ _ ?_)
        clear hZ Z
        repeat (first | refine Run.seq ?_ | refine Run.cond_f rfl ?_)
        refine Run.regionO (D := [some 40, some 41, some 39]) [true, true, true] rfl rfl rfl (fun Z hZ => ?_)
        refine QD.ev T (by decide) rfl rfl ?_
        refine QD.e (Ev.gtr rfl rfl) (by decide) rfl ?_
        refine QD.ev T (by decide) rfl rfl ?_
        refine QD.nil (hZ _ ?_)
        clear hZ Z
        repeat (first | refine Run.seq ?_ | refine Run.cond_f rfl ?_)
        refine Run.regionO (D := [some 43, some 44, some 45, some 46, some 47, some 48, some 42]) [true, true, true, true, true, true, true] rfl rfl rfl (fun Z hZ => ?_)
        refine QD.ev T (by decide) rfl rfl ?_
        refine QD.e ((Ev.geq rfl rfl).as (show _ = Value.bool false from congrArg Value.bool (decide_eq_false (by omega)))) (by decide) rfl ?_
        refine QD.ev T (by decide) rfl rfl ?_
        iterate 2 refine QD.off (by decide) rfl ?_
        iterate 2 refine QD.ev T (by decide) rfl rfl ?_
        refine QD.nil (hZ _ ?_)
        clear hZ Z
        repeat (first | refine Run.seq ?_ | refine Run.cond_f rfl ?_)
        refine Run.regionO (D := [some 52, some 53, some 54, some 55, some 56, some 57, some 51]) [true, true, true, true, true, true, true] rfl rfl rfl (fun Z hZ => ?_)
        refine QD.ev T (by decide) rfl rfl ?_
        refine QD.e ((Ev.geq rfl rfl).as (show _ = Value.bool false from congrArg Value.bool (decide_eq_false (by omega)))) (by decide) rfl ?_
        refine QD.ev T (by decide) rfl rfl ?_
        iterate 2 refine QD.off (by decide) rfl ?_
        iterate 2 refine QD.ev T (by decide) rfl rfl ?_
        refine QD.nil (hZ _ ?_)
        clear hZ Z
        repeat (first | refine Run.seq ?_ | refine Run.cond_f rfl ?_)
        refine Run.regionO (D := [some 62, some 63, some 64, some 65, some 66, some 67, some 61]) [true, true, true, true, true, true, true] rfl rfl rfl (fun Z hZ => ?_)
        refine QD.ev T (by decide) rfl rfl ?_
        refine QD.e ((Ev.geq rfl rfl).as (show _ = Value.bool false from congrArg Value.bool (decide_eq_false (by omega)))) (by decide) rfl ?_
        refine QD.ev T (by decide) rfl rfl ?_
        iterate 2 refine QD.off (by decide) rfl ?_
        iterate 2 refine QD.ev T (by decide) rfl rfl ?_
        refine QD.nil (hZ _ ?_)
        clear hZ Z
        repeat (first | refine Run.seq ?_ | refine Run.cond_f rfl ?_)
        refine Run.regionO (D := [some 72, some 73, some 71]) [true, true, true] rfl rfl rfl (fun Z hZ => ?_)
        refine QD.ev T (by decide) rfl rfl ?_
        refine QD.e (Ev.eqlI rfl rfl) (by decide) rfl ?_
        refine QD.ev T (by decide) rfl rfl ?_
        refine QD.nil (hZ _ ?_)
        clear hZ Z
        refine Run.cond_t rfl ?_
        refine Run.regionO (D := [some 9]) [true] rfl rfl rfl (fun Z hZ => ?_)
        refine QD.ev T (by decide) rfl rfl ?_
        refine QD.nil (hZ _ ?_)
        clear hZ Z
        refine Run.inBlock ?_
        refine Run.keep [9, 0, 2, 4, 5, 6, 7, 13, 14, 15] [_, _, _, _, _, _, _, _, _, _] rfl ?_
        exact hk'
      · obtain ⟨rfl, rfl⟩ := hcls
        refine Run.regionO (D := [some 22, some 23, some 24, some 25, some 26, some 27, some 21]) [true, true, true, true, true, true, true] rfl rfl rfl (fun Z hZ => ?_)
        refine QD.ev T (by decide) rfl rfl ?_
        refine QD.e ((Ev.eqlI rfl rfl).as (show _ = Value.bool false from congrArg Value.bool (decide_eq_false (by omega)))) (by decide) rfl ?_
        iterate 2 refine QD.ev T (by decide) rfl rfl ?_
        refine QD.e ((Ev.eqlI rfl rfl).as (show _ = Value.bool false from congrArg Value.bool (decide_eq_false (by omega)))) (by decide) rfl ?_
        iterate 2 refine QD.ev T (by decide) rfl rfl ?_
        refine QD.nil (hZ _ ?_)
        clear hZ Z
        repeat (first | refine Run.seq ?_ | refine Run.cond_f rfl ?_)
        refine Run.regionO (D := [some 29, some 30, some 28]) [true, true, true] rfl rfl rfl (fun Z hZ => ?_)
        refine QD.ev T (by decide) rfl rfl ?_
        refine QD.e ((Ev.eqlI rfl rfl).as (show _ = Value.bool false from congrArg Value.bool (decide_eq_false (by omega)))) (by decide) rfl ?_
        refine QD.ev T (by decide) rfl rfl ?_
        refine QD.nil (hZ _ ?_)
        clear hZ Z
        repeat (first | refine Run.seq ?_ | refine Run.cond_f rfl ?_)
        refine Run.regionO (D := [some 40, some 41, some 39]) [true, true, true] rfl rfl rfl (fun Z hZ => ?_)
        refine QD.ev T (by decide) rfl rfl ?_
        refine QD.e (Ev.gtr rfl rfl) (by decide) rfl ?_
        refine QD.ev T (by decide) rfl rfl ?_
        refine QD.nil (hZ _ ?_)
        clear hZ Z
        repeat (first | refine Run.seq ?_ | refine Run.cond_f rfl ?_)
        refine Run.regionO (D := [some 43, some 44, some 45, some 46, some 47, some 48, some 42]) [true, true, true, true, true, true, true] rfl rfl rfl (fun Z hZ => ?_)
        refine QD.ev T (by decide) rfl rfl ?_
        refine QD.e ((Ev.geq rfl rfl).as (show _ = Value.bool false from congrArg Value.bool (decide_eq_false (by omega)))) (by decide) rfl ?_
        refine QD.ev T (by decide) rfl rfl ?_
        iterate 2 refine QD.off (by decide) rfl ?_
        iterate 2 refine QD.ev T (by decide) rfl rfl ?_
        refine QD.nil (hZ _ ?_)
        clear hZ Z
        repeat (first | refine Run.seq ?_ | refine Run.cond_f rfl ?_)
        refine Run.regionO (D := [some 52, some 53, some 54, some 55, some 56, some 57, some 51]) [true, true, true, true, true, true, true] rfl rfl rfl (fun Z hZ => ?_)
        refine QD.ev T (by decide) rfl rfl ?_
        refine QD.e ((Ev.geq rfl rfl).as (show _ = Value.bool false from congrArg Value.bool (decide_eq_false (by omega)))) (by decide) rfl ?_
        refine QD.ev T (by decide) rfl rfl ?_
        iterate 2 refine QD.off (by decide) rfl ?_
        iterate 2 refine QD.ev T (by decide) rfl rfl ?_
        refine QD.nil (hZ _ ?_)
        clear hZ Z
        repeat (first | refine Run.seq ?_ | refine Run.cond_f rfl ?_)
        refine Run.regionO (D := [some 62, some 63, some 64, some 65, some 66, some 67, some 61]) [true, true, true, true, true, true, true] rfl rfl rfl (fun Z hZ => ?_)
        refine QD.ev T (by decide) rfl rfl ?_
        refine QD.e ((Ev.geq rfl rfl).as (show _ = Value.bool false from congrArg Value.bool (decide_eq_false (by omega)))) (by decide) rfl ?_
        refine QD.ev T (by decide) rfl rfl ?_
        iterate 2 refine QD.off (by decide) rfl ?_
        iterate 2 refine QD.ev T (by decide) rfl rfl ?_
        refine QD.nil (hZ _ ?_)
        clear hZ Z
        repeat (first | refine Run.seq ?_ | refine Run.cond_f rfl ?_)
        refine Run.regionO (D := [some 72, some 73, some 71]) [true, true, true] rfl rfl rfl (fun Z hZ => ?_)
        refine QD.ev T (by decide) rfl rfl ?_
        refine QD.e (Ev.eqlI rfl rfl) (by decide) rfl ?_
        refine QD.ev T (by decide) rfl rfl ?_
        refine QD.nil (hZ _ ?_)
        clear hZ Z
        repeat (first | refine Run.seq ?_ | refine Run.cond_f rfl ?_)
        refine Run.regionO (D := [some 75, some 76, some 74]) [true, true, true] rfl rfl rfl (fun Z hZ => ?_)
        refine QD.ev T (by decide) rfl rfl ?_
        refine QD.e (Ev.eqlI rfl rfl) (by decide) rfl ?_
        refine QD.ev T (by decide) rfl rfl ?_
        refine QD.nil (hZ _ ?_)
        clear hZ Z
        refine Run.cond_t rfl ?_
        refine Run.regionO (D := [some 9]) [true] rfl rfl rfl (fun Z hZ => ?_)
        refine QD.ev T (by decide) rfl rfl ?_
        refine QD.nil (hZ _ ?_)
        clear hZ Z
        refine Run.inBlock ?_
        refine Run.keep [9, 0, 2, 4, 5, 6, 7, 13, 14, 15] [_, _, _, _, _, _, _, _, _, _] rfl ?_
        exact hk'
    clear hcls hch
    clear ch
    refine Run.seq ?_
    refine Run.regionP (D := [some 77, some 78, some 79, none]) [true, true, true] 3 rfl rfl rfl (by simp only [List.drop_succ_cons, List.drop_zero]; rfl) (fun Z hZ => ?_)
    iterate 2 refine QD.ev T (by decide) rfl rfl ?_
    refine QD.e (Ev.indexP T rfl rfl rfl rfl (by first | omega | (simp only [List.length_cons, List.length_nil] ; omega) | (simp; omega)) (by first | omega | (simp only [List.length_cons, List.length_nil] ; omega) | (simp; omega))) (by decide) rfl ?_
    refine QD.nil (hZ _ ?_)
    clear hZ Z
    refine Ops.store 0 rfl rfl rfl rfl rfl (T.sizeOk rfl) rfl (Nat.le_of_ble_eq_true rfl) rfl rfl ?_
    refine Ops.nil ?_
    repeat refine Run.seq ?_
    refine Run.regionO (D := [some 80, some 81, some 5]) [true, true, true] rfl rfl rfl (fun Z hZ => ?_)
    refine QD.ev T (by decide) rfl rfl ?_
    refine QD.e (Ev.addI rfl rfl (wI (by first | omega | (simp only [List.length_cons, List.length_nil] ; omega) | (simp; omega)) (by first | omega | (simp only [List.length_cons, List.length_nil] ; omega) | (simp; omega)))) (by decide) rfl ?_
    refine QD.ev T (by decide) rfl rfl ?_
    refine QD.nil (hZ _ ?_)
    clear hZ Z
    refine Run.seq ?_
    refine Run.regionO (D := [some 82, some 83]) [true, true] rfl rfl rfl (fun Z hZ => ?_)
    refine QD.ev T (by decide) rfl rfl ?_
    refine QD.e (Ev.lss rfl rfl) (by decide) rfl ?_
    refine QD.nil (hZ _ ?_)
    clear hZ Z
    repeat (first | refine Run.exit rfl ?_ | refine Run.cond_t rfl ?_)
    refine Run.regionO (D := [some 131, some 15]) [true, true] rfl rfl rfl (fun Z hZ => ?_)
    refine QD.e (Ev.addK (r := ((i + 2 : Nat) : Int)) rfl rfl (by rw [wI (by omega) (by omega)]; omega)) (by decide) rfl ?_
    refine QD.ev T (by decide) rfl rfl ?_
    refine QD.nil (hZ _ ?_)
    clear hZ Z
    skip
    refine Run.keep [0, 2, 4, 5, 6, 13, 14, 15] [_, _, _, _, _, _, _, _] rfl ?_
    refine Run.inLoop ?_
    refine Run.seq ?_
    refine Run.regionO (D := [some 16]) [true] rfl rfl rfl (fun Z hZ => ?_)
    refine QD.e ((Ev.lss rfl rfl).as (show _ = Value.bool true from congrArg Value.bool (decide_eq_true (by omega)))) (by decide) rfl ?_
    refine QD.nil (hZ _ ?_)
    clear hZ Z
    repeat (first | refine Run.seq ?_ | refine Run.skip ?_ | refine Run.block ?_ | refine Run.cond_t rfl ?_)
    refine Run.regionO (D := [some 17, some 7]) [true, true] rfl rfl rfl (fun Z hZ => ?_)
    iterate 2 refine QD.ev T (by decide) rfl rfl ?_
    refine QD.nil (hZ _ ?_)
    clear hZ Z
    refine Run.seq ?_
    refine Run.regionO (D := [some 18, some 19, some 20, some 8]) [true, true, true, true] rfl rfl rfl (fun Z hZ => ?_)
    iterate 2 refine QD.ev T (by decide) rfl rfl ?_
    refine QD.e ((Ev.indexT (s := s) T rfl rfl rfl (by omega) (by omega)).as (show _ = Value.int .u8 61 from by show Value.int .u8 (((s.getD _ 0).toNat : Nat) : Int) = _; rw [show (((i + 2 : Nat) : Int)).toNat = i + 2 by omega, show s.getD (i + 2) 0 = 61 from g2]; rfl)) (by decide) rfl ?_
    refine QD.ev T (by decide) rfl rfl ?_
    refine QD.nil (hZ _ ?_)
    clear hZ Z
    refine Run.seq ?_
    refine Run.regionO (D := [some 9]) [true] rfl rfl rfl (fun Z hZ => ?_)
    refine QD.ev T (by decide) rfl rfl ?_
    refine QD.nil (hZ _ ?_)
    clear hZ Z
    repeat (first | refine Run.seq ?_ | refine Run.block ?_)
    refine Run.regionO (D := [some 22, some 23, some 24, some 25, some 26, some 27, some 21]) [true, true, true, true, true, true, true] rfl rfl rfl (fun Z hZ => ?_)
    refine QD.ev T (by decide) rfl rfl ?_
    refine QD.e (Ev.eqlI rfl rfl) (by decide) rfl ?_
    iterate 2 refine QD.ev T (by decide) rfl rfl ?_
    refine QD.e (Ev.eqlI rfl rfl) (by decide) rfl ?_
    iterate 2 refine QD.ev T (by decide) rfl rfl ?_
    refine QD.nil (hZ _ ?_)
    clear hZ Z
    repeat (first | refine Run.seq ?_ | refine Run.cond_f rfl ?_)
    refine Run.regionO (D := [some 29, some 30, some 28]) [true, true, true] rfl rfl rfl (fun Z hZ => ?_)
    refine QD.ev T (by decide) rfl rfl ?_
    refine QD.e (Ev.eqlI rfl rfl) (by decide) rfl ?_
    refine QD.ev T (by decide) rfl rfl ?_
    refine QD.nil (hZ _ ?_)
    clear hZ Z
    repeat (first | refine Run.seq ?_ | refine Run.cond_t rfl ?_)
    refine Run.regionO (D := [some 31, some 32, some 6]) [true, true, true] rfl rfl rfl (fun Z hZ => ?_)
    refine QD.ev T (by decide) rfl rfl ?_
    refine QD.e (Ev.addI rfl rfl (wI (by first | omega | (simp only [List.length_cons, List.length_nil] ; omega) | (simp; omega)) (by first | omega | (simp only [List.length_cons, List.length_nil] ; omega) | (simp; omega)))) (by decide) rfl ?_
    refine QD.ev T (by decide) rfl rfl ?_
    refine QD.nil (hZ _ ?_)
    clear hZ Z
    refine Run.seq ?_
    refine Run.regionO (D := [some 33, some 34, some 35, some 36, some 37, some 38]) [true, true, true, true, true, true] rfl rfl rfl (fun Z hZ => ?_)
    refine QD.ev T (by decide) rfl rfl ?_
    refine QD.e (Ev.lss rfl rfl) (by decide) rfl ?_
    iterate 2 refine QD.ev T (by decide) rfl rfl ?_
    refine QD.e (Ev.gtr rfl rfl) (by decide) rfl ?_
    refine QD.ev T (by decide) rfl rfl ?_
    refine QD.nil (hZ _ ?_)
    clear hZ Z
    repeat (first | refine Run.seq ?_ | refine Run.skip ?_ | refine Run.inBlock ?_ | refine Run.cond_f rfl ?_)
    skip
    refine Run.regionP (D := [some 77, some 78, some 79, none]) [true, true, true] 3 rfl rfl rfl (by simp only [List.drop_succ_cons, List.drop_zero]; rfl) (fun Z hZ => ?_)
    iterate 2 refine QD.ev T (by decide) rfl rfl ?_
    refine QD.e (Ev.indexP T rfl rfl rfl rfl (by first | omega | (simp only [List.length_cons, List.length_nil] ; omega) | (simp; omega)) (by first | omega | (simp only [List.length_cons, List.length_nil] ; omega) | (simp; omega))) (by decide) rfl ?_
    refine QD.nil (hZ _ ?_)
    clear hZ Z
    refine Ops.store 0 rfl rfl rfl rfl rfl (T.sizeOk rfl) rfl (Nat.le_of_ble_eq_true rfl) rfl rfl ?_
    refine Ops.nil ?_
    repeat refine Run.seq ?_
    refine Run.regionO (D := [some 80, some 81, some 5]) [true, true, true] rfl rfl rfl (fun Z hZ => ?_)
    refine QD.ev T (by decide) rfl rfl ?_
    refine QD.e (Ev.addI rfl rfl (wI (by first | omega | (simp only [List.length_cons, List.length_nil] ; omega) | (simp; omega)) (by first | omega | (simp only [List.length_cons, List.length_nil] ; omega) | (simp; omega)))) (by decide) rfl ?_
    refine QD.ev T (by decide) rfl rfl ?_
    refine QD.nil (hZ _ ?_)
    clear hZ Z
    refine Run.seq ?_
    refine Run.regionO (D := [some 82, some 83]) [true, true] rfl rfl rfl (fun Z hZ => ?_)
    refine QD.ev T (by decide) rfl rfl ?_
    refine QD.e (Ev.lss rfl rfl) (by decide) rfl ?_
    refine QD.nil (hZ _ ?_)
    clear hZ Z
    repeat (first | refine Run.exit rfl ?_ | refine Run.cond_t rfl ?_)
    refine Run.regionO (D := [some 131, some 15]) [true, true] rfl rfl rfl (fun Z hZ => ?_)
    refine QD.e (Ev.addK (r := ((i + 3 : Nat) : Int)) rfl rfl (by rw [wI (by omega) (by omega)]; omega)) (by decide) rfl ?_
    refine QD.ev T (by decide) rfl rfl ?_
    refine QD.nil (hZ _ ?_)
    clear hZ Z
    skip
    refine Run.keep [0, 2, 4, 5, 6, 13, 14, 15] [_, _, _, _, _, _, _, _] rfl ?_
    refine Run.inLoop ?_
    refine Run.seq ?_
    refine Run.regionO (D := [some 16]) [true] rfl rfl rfl (fun Z hZ => ?_)
    refine QD.e ((Ev.lss rfl rfl).as (show _ = Value.bool true from congrArg Value.bool (decide_eq_true (by omega)))) (by decide) rfl ?_
    refine QD.nil (hZ _ ?_)
    clear hZ Z
    repeat (first | refine Run.seq ?_ | refine Run.skip ?_ | refine Run.block ?_ | refine Run.cond_t rfl ?_)
    refine Run.regionO (D := [some 17, some 7]) [true, true] rfl rfl rfl (fun Z hZ => ?_)
    iterate 2 refine QD.ev T (by decide) rfl rfl ?_
    refine QD.nil (hZ _ ?_)
    clear hZ Z
    refine Run.seq ?_
    refine Run.regionO (D := [some 18, some 19, some 20, some 8]) [true, true, true, true] rfl rfl rfl (fun Z hZ => ?_)
    iterate 2 refine QD.ev T (by decide) rfl rfl ?_
    refine QD.e ((Ev.indexT (s := s) T rfl rfl rfl (by omega) (by omega)).as (show _ = Value.int .u8 61 from by show Value.int .u8 (((s.getD _ 0).toNat : Nat) : Int) = _; rw [show (((i + 3 : Nat) : Int)).toNat = i + 3 by omega, show s.getD (i + 3) 0 = 61 from g3]; rfl)) (by decide) rfl ?_
    refine QD.ev T (by decide) rfl rfl ?_
    refine QD.nil (hZ _ ?_)
    clear hZ Z
    refine Run.seq ?_
    refine Run.regionO (D := [some 9]) [true] rfl rfl rfl (fun Z hZ => ?_)
    refine QD.ev T (by decide) rfl rfl ?_
    refine QD.nil (hZ _ ?_)
    clear hZ Z
    repeat (first | refine Run.seq ?_ | refine Run.block ?_)
    refine Run.regionO (D := [some 22, some 23, some 24, some 25, some 26, some 27, some 21]) [true, true, true, true, true, true, true] rfl rfl rfl (fun Z hZ => ?_)
    refine QD.ev T (by decide) rfl rfl ?_
    refine QD.e (Ev.eqlI rfl rfl) (by decide) rfl ?_
    iterate 2 refine QD.ev T (by decide) rfl rfl ?_
    refine QD.e (Ev.eqlI rfl rfl) (by decide) rfl ?_
    iterate 2 refine QD.ev T (by decide) rfl rfl ?_
    refine QD.nil (hZ _ ?_)
    clear hZ Z
    repeat (first | refine Run.seq ?_ | refine Run.cond_f rfl ?_)
    refine Run.regionO (D := [some 29, some 30, some 28]) [true, true, true] rfl rfl rfl (fun Z hZ => ?_)
    refine QD.ev T (by decide) rfl rfl ?_
    refine QD.e (Ev.eqlI rfl rfl) (by decide) rfl ?_
    refine QD.ev T (by decide) rfl rfl ?_
    refine QD.nil (hZ _ ?_)
    clear hZ Z
    repeat (first | refine Run.seq ?_ | refine Run.cond_t rfl ?_)
    refine Run.regionO (D := [some 31, some 32, some 6]) [true, true, true] rfl rfl rfl (fun Z hZ => ?_)
    refine QD.ev T (by decide) rfl rfl ?_
    refine QD.e (Ev.addI rfl rfl (wI (by first | omega | (simp only [List.length_cons, List.length_nil] ; omega) | (simp; omega)) (by first | omega | (simp only [List.length_cons, List.length_nil] ; omega) | (simp; omega)))) (by decide) rfl ?_
    refine QD.ev T (by decide) rfl rfl ?_
    refine QD.nil (hZ _ ?_)
    clear hZ Z
    refine Run.seq ?_
    refine Run.regionO (D := [some 33, some 34, some 35, some 36, some 37, some 38]) [true, true, true, true, true, true] rfl rfl rfl (fun Z hZ => ?_)
    refine QD.ev T (by decide) rfl rfl ?_
    refine QD.e (Ev.lss rfl rfl) (by decide) rfl ?_
    iterate 2 refine QD.ev T (by decide) rfl rfl ?_
    refine QD.e (Ev.gtr rfl rfl) (by decide) rfl ?_
    refine QD.ev T (by decide) rfl rfl ?_
    refine QD.nil (hZ _ ?_)
    clear hZ Z
    repeat (first | refine Run.seq ?_ | refine Run.skip ?_ | refine Run.inBlock ?_ | refine Run.cond_f rfl ?_)
    skip
    refine Run.regionP (D := [some 77, some 78, some 79, none]) [true, true, true] 3 rfl rfl rfl (by simp only [List.drop_succ_cons, List.drop_zero]; rfl) (fun Z hZ => ?_)
    iterate 2 refine QD.ev T (by decide) rfl rfl ?_
    refine QD.e (Ev.indexP T rfl rfl rfl rfl (by first | omega | (simp only [List.length_cons, List.length_nil] ; omega) | (simp; omega)) (by first | omega | (simp only [List.length_cons, List.length_nil] ; omega) | (simp; omega))) (by decide) rfl ?_
    refine QD.nil (hZ _ ?_)
    clear hZ Z
    refine Ops.store 0 rfl rfl rfl rfl rfl (T.sizeOk rfl) rfl (Nat.le_of_ble_eq_true rfl) rfl rfl ?_
    refine Ops.nil ?_
    repeat refine Run.seq ?_
    refine Run.regionO (D := [some 80, some 81, some 5]) [true, true, true] rfl rfl rfl (fun Z hZ => ?_)
    refine QD.ev T (by decide) rfl rfl ?_
    refine QD.e (Ev.addI rfl rfl (wI (by first | omega | (simp only [List.length_cons, List.length_nil] ; omega) | (simp; omega)) (by first | omega | (simp only [List.length_cons, List.length_nil] ; omega) | (simp; omega)))) (by decide) rfl ?_
    refine QD.ev T (by decide) rfl rfl ?_
    refine QD.nil (hZ _ ?_)
    clear hZ Z
    refine Run.seq ?_
    refine Run.regionO (D := [some 82, some 83]) [true, true] rfl rfl rfl (fun Z hZ => ?_)
    refine QD.ev T (by decide) rfl rfl ?_
    refine QD.e (Ev.lss rfl rfl) (by decide) rfl ?_
    refine QD.nil (hZ _ ?_)
    clear hZ Z
    repeat (first | refine Run.seq ?_ | refine Run.skip ?_ | refine Run.cond_f rfl ?_)
    generalize hf0 : a.toNat / 4 = f0 at *
    generalize hf1 : a.toNat % 4 * 16 = f1 at *
    generalize hA : a.toNat = A at *
    obtain ⟨g0', g1', g2', g3'⟩ : (f0 = A / 4 ∧ A < 256) ∧ (f1 = A % 4 * 16 + 0 / 16 ∧ 0 < 256) ∧ (0 = 0 % 16 * 4 + 0 / 64 ∧ 0 < 256) ∧ 0 = 0 % 64 := by omega
    have q1 : f0 * 4 % 256 = A / 4 * 2 ^ 2 := by omega
    have q2 : f1 / 2 ^ 4 = A % 4 := by omega
    have q3 : f1 * 16 % 256 = 0 / 16 * 2 ^ 4 := by omega
    have q4 : 0 / 2 ^ 2 = 0 % 16 := by omega
    have q5 : 0 * 64 % 256 = 0 / 64 * 2 ^ 6 := by omega
    have r1 : f0 * 4 % 256 ||| f1 / 2 ^ 4 = A := by rw [q1, q2, orSh 2 (by omega)]; try omega
    have r2 : f1 * 16 % 256 ||| 0 / 2 ^ 2 = 0 := by rw [q3, q4, orSh 4 (by omega)]; try omega
    have r3 : 0 * 64 % 256 ||| 0 = 0 := by rw [q5, g3', orSh 6 (by omega)]; try omega
    have s1 := shl8_2m f0
    have s2 := shl8_4m f1
    have s3 := shl8_6m 0
    have s4 := shrL f1 4
    have s5 := shrL 0 2
    generalize f0 * 4 % 256 = y1 at *
    generalize f1 * 16 % 256 = y2 at *
    generalize 0 * 64 % 256 = y3 at *
    refine Run.regionP (D := [some 84, some 85, some 86, some 87, some 88, some 89, some 90, some 91, some 92, some 93, some 94, some 95, some 96, some 97, some 98, some 99, some 100, some 101, some 102, some 103, some 104, some 10]) [true, true, true, true, true, true, true, true, true, true, true, true, true, true, true, true, true, true, true, true] 20 rfl rfl rfl (by simp only [List.drop_succ_cons, List.drop_zero]; rfl) (fun Z hZ => ?_)
    refine QD.e (Ev.indexP T rfl rfl rfl rfl (by first | omega | (simp only [List.length_cons, List.length_nil] ; omega) | (simp; omega)) (by first | omega | (simp only [List.length_cons, List.length_nil] ; omega) | (simp; omega))) (by decide) rfl ?_
    refine QD.yv (by decide) rfl (Yv.load 0 T rfl rfl rfl rfl) ?_
    refine QD.e (Ev.shlK rfl rfl (by decide) (by decide) s1) (by decide) rfl ?_
    refine QD.e (Ev.indexP T rfl rfl rfl rfl (by first | omega | (simp only [List.length_cons, List.length_nil] ; omega) | (simp; omega)) (by first | omega | (simp only [List.length_cons, List.length_nil] ; omega) | (simp; omega))) (by decide) rfl ?_
    refine QD.yv (by decide) rfl (Yv.load 0 T rfl rfl rfl rfl) ?_
    refine QD.e (Ev.shrK rfl rfl (by decide) (by decide) s4) (by decide) rfl ?_
    refine QD.e (Ev.orK (a := y1) (b := f1 / 2 ^ 4) (c := A) rfl rfl (by show _ < 256; omega) (by show _ < 256; omega) r1 (wrapN8 (by omega))) (by decide) rfl ?_
    refine QD.e (Ev.indexP T rfl rfl rfl rfl (by first | omega | (simp only [List.length_cons, List.length_nil] ; omega) | (simp; omega)) (by first | omega | (simp only [List.length_cons, List.length_nil] ; omega) | (simp; omega))) (by decide) rfl ?_
    refine QD.yv (by decide) rfl (Yv.load 0 T rfl rfl rfl rfl) ?_
    refine QD.e (Ev.shlK rfl rfl (by decide) (by decide) s2) (by decide) rfl ?_
    refine QD.e (Ev.indexP T rfl rfl rfl rfl (by first | omega | (simp only [List.length_cons, List.length_nil] ; omega) | (simp; omega)) (by first | omega | (simp only [List.length_cons, List.length_nil] ; omega) | (simp; omega))) (by decide) rfl ?_
    refine QD.yv (by decide) rfl (Yv.load 0 T rfl rfl rfl rfl) ?_
    refine QD.e (Ev.shrK rfl rfl (by decide) (by decide) s5) (by decide) rfl ?_
    refine QD.e (Ev.orK (a := y2) (b := 0 / 2 ^ 2) (c := 0) rfl rfl (by show _ < 256; omega) (by show _ < 256; omega) r2 (wrapN8 (by omega))) (by decide) rfl ?_
    refine QD.e (Ev.indexP T rfl rfl rfl rfl (by first | omega | (simp only [List.length_cons, List.length_nil] ; omega) | (simp; omega)) (by first | omega | (simp only [List.length_cons, List.length_nil] ; omega) | (simp; omega))) (by decide) rfl ?_
    refine QD.yv (by decide) rfl (Yv.load 0 T rfl rfl rfl rfl) ?_
    refine QD.e (Ev.shlK rfl rfl (by decide) (by decide) s3) (by decide) rfl ?_
    refine QD.e (Ev.indexP T rfl rfl rfl rfl (by first | omega | (simp only [List.length_cons, List.length_nil] ; omega) | (simp; omega)) (by first | omega | (simp only [List.length_cons, List.length_nil] ; omega) | (simp; omega))) (by decide) rfl ?_
    refine QD.yv (by decide) rfl (Yv.load 0 T rfl rfl rfl rfl) ?_
    refine QD.e (Ev.orK (a := y3) (b := 0) (c := 0) rfl rfl (by show _ < 256; omega) (by show _ < 256; omega) r3 (wrapN8 (by omega))) (by decide) rfl ?_
    refine QD.nil (hZ _ ?_)
    clear hZ Z
    refine Ops.lit T rfl rfl rfl (by decide) rfl (by decide) (by decide) rfl rfl rfl rfl rfl (fun bq => ?_)
    refine Ops.pure T rfl (by decide) rfl ?_
    refine Ops.nil ?_
    refine Run.seq ?_
    subst hA
    refine Run.regionP (D := [some 105, some 106, some 107, some 108, some 109, some 110, some 2]) [true, true, true, true, true] 5 rfl rfl rfl (by simp only [List.drop_succ_cons, List.drop_zero]; rfl) (fun Z hZ => ?_)
    iterate 3 refine QD.ev T (by decide) rfl rfl ?_
    refine QD.e (Ev.subI rfl rfl (wI (by first | omega | (simp only [List.length_cons, List.length_nil] ; omega) | (simp; omega)) (by first | omega | (simp only [List.length_cons, List.length_nil] ; omega) | (simp; omega)))) (by decide) rfl ?_
    refine QD.e (Ev.sliceHi' T rfl rfl rfl rfl (by first | omega | (simp only [List.length_cons, List.length_nil] ; omega) | (simp; omega)) (by first | omega | (simp only [List.length_cons, List.length_nil] ; omega) | (simp; omega))) (by decide) rfl ?_
    refine QD.nil (hZ _ ?_)
    clear hZ Z
    refine Ops.appBuf (M := M) (N := [(bq, _), (b4, _)]) (ys := [a]) btB hB rfl (by decide) rfl rfl (List.perm_append_comm (l₁ := [_, _]) (l₂ := M)) (fun W hi => src_own (pre := []) (post := [.int .u8 0, .int .u8 0]) (ys := [a]) btB.el.under hi List.mem_cons_self) (by simp only [List.length_cons, List.length_nil]; omega) fun v3 M3 hB3 => ?_
    refine Ops.perm (List.perm_append_comm (l₁ := M3) (l₂ := [_, _])) ?_
    refine Ops.pure T rfl (by decide) rfl ?_
    refine Ops.nil ?_
    refine Run.seq ?_
    refine Run.regionO (D := [some 5]) [true] rfl rfl rfl (fun Z hZ => ?_)
    refine QD.ev T (by decide) rfl rfl ?_
    refine QD.nil (hZ _ ?_)
    clear hZ Z
    refine Run.seq ?_
    refine Run.regionO (D := [some 111, some 112]) [true, true] rfl rfl rfl (fun Z hZ => ?_)
    refine QD.ev T (by decide) rfl rfl ?_
    refine QD.e (Ev.gtr rfl rfl) (by decide) rfl ?_
    refine QD.nil (hZ _ ?_)
    clear hZ Z
    repeat (first | refine Run.seq ?_ | refine Run.cond_t rfl ?_)
    refine Run.regionP (D := [some 113, some 114, some 115, some 116, some 117, some 118, some 119]) [true, true, true, true] 4 rfl rfl rfl (by simp only [List.drop_succ_cons, List.drop_zero]; rfl) (fun Z hZ => ?_)
    iterate 2 refine QD.ev T (by decide) rfl rfl ?_
    refine QD.e (Ev.addK (r := ((i + 4 : Nat) : Int)) rfl rfl (by rw [wI (by omega) (by omega)]; omega)) (by decide) rfl ?_
    refine QD.e ((Ev.cutSLo (j := ((i + 4 : Nat) : Int)) T rfl rfl rfl (by omega) (by omega)).as (show _ = str [] from congrArg str (List.drop_eq_nil_of_le (by omega)))) (by decide) rfl ?_
    refine QD.nil (hZ _ ?_)
    clear hZ Z
    refine Ops.convBytes T rfl (by decide) rfl rfl rfl rfl fun v4 J4 l4 hv4 => ?_
    obtain ⟨A4, c4, rfl⟩ := hv4.isSl
    iterate 2 refine Ops.pure T rfl (by decide) rfl ?_
    refine Ops.nil ?_
    refine Run.block ?_
    refine Run.loop ?_
    refine Run.seq ?_
    refine Run.regionO (D := [some 120]) [true] rfl rfl rfl (fun Z hZ => ?_)
    refine QD.e ((Ev.lss rfl rfl).as (show _ = Value.bool false from congrArg Value.bool (decide_eq_false (by simp)))) (by decide) rfl ?_
    refine QD.nil (hZ _ ?_)
    clear hZ Z
    repeat (first | refine Run.seq ?_ | refine Run.exit rfl ?_ | refine Run.cond_f rfl ?_)
    refine Run.regionO (D := [some 130, some 2, some 3]) [true, true, true] rfl rfl rfl (fun Z hZ => ?_)
    iterate 3 refine QD.ev T (by decide) rfl rfl ?_
    refine QD.nil (hZ _ ?_)
    clear hZ Z
    skip
    refine Run.keepB (M := M3) (N := [(bq, _), (b4, _)]) hB3 (List.perm_append_comm (l₁ := [_, _]) (l₂ := M3)) fun J5 l5 hv => ?_
    refine Run.fin (Run.ret2 (by rw [hCf]; exact Proofs.Tryd.func48) Proofs.Tryd.results48 rfl rfl (hR _ _ _ ?_))
    exact ⟨rfl, _, rfl, by rw [← hout]; exact hv⟩
  | [a, b], hd, hdl, hget, hout =>
    have g0 := hget 0
    have g1 := hget 1
    have g2 := hget 2
    have g3 := hget 3
    simp only [List.length_cons, List.length_nil] at hdl
    have la := a.toNat_lt
    have lb := b.toNat_lt
    refine Run.regionO (D := [some 16]) [true] rfl rfl rfl (fun Z hZ => ?_)
    refine QD.e ((Ev.lss rfl rfl).as (show _ = Value.bool true from congrArg Value.bool (decide_eq_true (by omega)))) (by decide) rfl ?_
    refine QD.nil (hZ _ ?_)
    clear hZ Z
    repeat (first | refine Run.seq ?_ | refine Run.skip ?_ | refine Run.block ?_ | refine Run.cond_t rfl ?_)
    refine Run.regionO (D := [some 17, some 7]) [true, true] rfl rfl rfl (fun Z hZ => ?_)
    iterate 2 refine QD.ev T (by decide) rfl rfl ?_
    refine QD.nil (hZ _ ?_)
    clear hZ Z
    refine Run.seq ?_
    obtain ⟨ch, hch, hcls⟩ : ∃ ch, (b64c (a.toNat / 4)).toNat = ch ∧ cls ch (a.toNat / 4) := ⟨_, rfl, cls_c (by omega)⟩
    refine Run.regionO (D := [some 18, some 19, some 20, some 8]) [true, true, true, true] rfl rfl rfl (fun Z hZ => ?_)
    iterate 2 refine QD.ev T (by decide) rfl rfl ?_
    refine QD.e ((Ev.indexT (s := s) T rfl rfl rfl (by omega) (by omega)).as (show _ = Value.int .u8 ((ch : Nat) : Int) from by show Value.int .u8 (((s.getD _ 0).toNat : Nat) : Int) = _; rw [show (((i : Nat) : Int)).toNat = i by omega, show s.getD i 0 = b64c (a.toNat / 4) from g0, hch])) (by decide) rfl ?_
    refine QD.ev T (by decide) rfl rfl ?_
    refine QD.nil (hZ _ ?_)
    clear hZ Z
    refine Run.seq ?_
    refine Run.regionO (D := [some 9]) [true] rfl rfl rfl (fun Z hZ => ?_)
    refine QD.ev T (by decide) rfl rfl ?_
    refine QD.nil (hZ _ ?_)
    clear hZ Z
    refine Run.keep [0, 2, 4, 5, 6, 7, 8, 9, 13, 14, 15] [_, _, _, _, _, _, _, _, _, _, _] rfl ?_
    repeat (refine Run.seq ?_)
    refine Run.pieceV [0, 2, 4, 5, 6, 7, 13, 14, 15] [_, _, _, _, _, _, _, _, _] 9 (.int .u8 (((a.toNat / 4 : Nat)) : Int)) rfl (fun k' hk' => ?_) ?_
    · refine Run.block ?_
      refine Run.seq ?_
      generalize hn : (a.toNat / 4 : Nat) = n at *
      rcases hcls with hcls | hcls | hcls | hcls | hcls
      · skip
        refine Run.regionO (D := [some 22, some 23, some 24, some 25, some 26, some 27, some 21]) [true, true, true, true, true, true, true] rfl rfl rfl (fun Z hZ => ?_)
        refine QD.ev T (by decide) rfl rfl ?_
        refine QD.e ((Ev.eqlI rfl rfl).as (show _ = Value.bool false from congrArg Value.bool (decide_eq_false (by omega)))) (by decide) rfl ?_
        iterate 2 refine QD.ev T (by decide) rfl rfl ?_
        refine QD.e ((Ev.eqlI rfl rfl).as (show _ = Value.bool false from congrArg Value.bool (decide_eq_false (by omega)))) (by decide) rfl ?_
        iterate 2 refine QD.ev T (by decide) rfl rfl ?_
        refine QD.nil (hZ _ ?_)
        clear hZ Z
        repeat (first | refine Run.seq ?_ | refine Run.cond_f rfl ?_)
        refine Run.regionO (D := [some 29, some 30, some 28]) [true, true, true] rfl rfl rfl (fun Z hZ => ?_)
        refine QD.ev T (by decide) rfl rfl ?_
        refine QD.e ((Ev.eqlI rfl rfl).as (show _ = Value.bool false from congrArg Value.bool (decide_eq_false (by omega)))) (by decide) rfl ?_
        refine QD.ev T (by decide) rfl rfl ?_
        refine QD.nil (hZ _ ?_)
        clear hZ Z
        repeat (first | refine Run.seq ?_ | refine Run.cond_f rfl ?_)
        refine Run.regionO (D := [some 40, some 41, some 39]) [true, true, true] rfl rfl rfl (fun Z hZ => ?_)
        refine QD.ev T (by decide) rfl rfl ?_
        refine QD.e (Ev.gtr rfl rfl) (by decide) rfl ?_
        refine QD.ev T (by decide) rfl rfl ?_
        refine QD.nil (hZ _ ?_)
        clear hZ Z
        repeat (first | refine Run.seq ?_ | refine Run.cond_f rfl ?_)
        refine Run.regionO (D := [some 43, some 44, some 45, some 46, some 47, some 48, some 42]) [true, true, true, true, true, true, true] rfl rfl rfl (fun Z hZ => ?_)
        refine QD.ev T (by decide) rfl rfl ?_
        refine QD.e ((Ev.geq rfl rfl).as (show _ = Value.bool true from congrArg Value.bool (decide_eq_true (by omega)))) (by decide) rfl ?_
        iterate 2 refine QD.ev T (by decide) rfl rfl ?_
        refine QD.e ((Ev.leq rfl rfl).as (show _ = Value.bool true from congrArg Value.bool (decide_eq_true (by omega)))) (by decide) rfl ?_
        iterate 2 refine QD.ev T (by decide) rfl rfl ?_
        refine QD.nil (hZ _ ?_)
        clear hZ Z
        refine Run.cond_t rfl ?_
        refine Run.regionO (D := [some 49, some 50, some 9]) [true, true, true] rfl rfl rfl (fun Z hZ => ?_)
        refine QD.ev T (by decide) rfl rfl ?_
        refine QD.e (Ev.subK (r := (n : Int)) rfl rfl (by rw [wrap8]; omega)) (by decide) rfl ?_
        refine QD.ev T (by decide) rfl rfl ?_
        refine QD.nil (hZ _ ?_)
        clear hZ Z
        refine Run.inBlock ?_
        refine Run.keep [9, 0, 2, 4, 5, 6, 7, 13, 14, 15] [_, _, _, _, _, _, _, _, _, _] rfl ?_
        exact hk'
      · skip
        refine Run.regionO (D := [some 22, some 23, some 24, some 25, some 26, some 27, some 21]) [true, true, true, true, true, true, true] rfl rfl rfl (fun Z hZ => ?_)
        refine QD.ev T (by decide) rfl rfl ?_
        refine QD.e ((Ev.eqlI rfl rfl).as (show _ = Value.bool false from congrArg Value.bool (decide_eq_false (by omega)))) (by decide) rfl ?_
        iterate 2 refine QD.ev T (by decide) rfl rfl ?_
        refine QD.e ((Ev.eqlI rfl rfl).as (show _ = Value.bool false from congrArg Value.bool (decide_eq_false (by omega)))) (by decide) rfl ?_
        iterate 2 refine QD.ev T (by decide) rfl rfl ?_
        refine QD.nil (hZ _ ?_)
        clear hZ Z
        repeat (first | refine Run.seq ?_ | refine Run.cond_f rfl ?_)
        refine Run.regionO (D := [some 29, some 30, some 28]) [true, true, true] rfl rfl rfl (fun Z hZ => ?_)
        refine QD.ev T (by decide) rfl rfl ?_
        refine QD.e ((Ev.eqlI rfl rfl).as (show _ = Value.bool false from congrArg Value.bool (decide_eq_false (by omega)))) (by decide) rfl ?_
        refine QD.ev T (by decide) rfl rfl ?_
        refine QD.nil (hZ _ ?_)
        clear hZ Z
        repeat (first | refine Run.seq ?_ | refine Run.cond_f rfl ?_)
        refine Run.regionO (D := [some 40, some 41, some 39]) [true, true, true] rfl rfl rfl (fun Z hZ => ?_)
        refine QD.ev T (by decide) rfl rfl ?_
        refine QD.e (Ev.gtr rfl rfl) (by decide) rfl ?_
        refine QD.ev T (by decide) rfl rfl ?_
        refine QD.nil (hZ _ ?_)
        clear hZ Z
        repeat (first | refine Run.seq ?_ | refine Run.cond_f rfl ?_)
        refine Run.regionO (D := [some 43, some 44, some 45, some 46, some 47, some 48, some 42]) [true, true, true, true, true, true, true] rfl rfl rfl (fun Z hZ => ?_)
        refine QD.ev T (by decide) rfl rfl ?_
        refine QD.e ((Ev.geq rfl rfl).as (show _ = Value.bool true from congrArg Value.bool (decide_eq_true (by omega)))) (by decide) rfl ?_
        iterate 2 refine QD.ev T (by decide) rfl rfl ?_
        refine QD.e ((Ev.leq rfl rfl).as (show _ = Value.bool false from congrArg Value.bool (decide_eq_false (by omega)))) (by decide) rfl ?_
        iterate 2 refine QD.ev T (by decide) rfl rfl ?_
        refine QD.nil (hZ _ ?_)
        clear hZ Z
        repeat (first | refine Run.seq ?_ | refine Run.cond_f rfl ?_)
        refine Run.regionO (D := [some 52, some 53, some 54, some 55, some 56, some 57, some 51]) [true, true, true, true, true, true, true] rfl rfl rfl (fun Z hZ => ?_)
        refine QD.ev T (by decide) rfl rfl ?_
        refine QD.e ((Ev.geq rfl rfl).as (show _ = Value.bool true from congrArg Value.bool (decide_eq_true (by omega)))) (by decide) rfl ?_
        iterate 2 refine QD.ev T (by decide) rfl rfl ?_
        refine QD.e ((Ev.leq rfl rfl).as (show _ = Value.bool true from congrArg Value.bool (decide_eq_true (by omega)))) (by decide) rfl ?_
        iterate 2 refine QD.ev T (by decide) rfl rfl ?_
        refine QD.nil (hZ _ ?_)
        clear hZ Z
        refine Run.cond_t rfl ?_
        refine Run.regionO (D := [some 58, some 59, some 60, some 9]) [true, true, true, true] rfl rfl rfl (fun Z hZ => ?_)
        refine QD.ev T (by decide) rfl rfl ?_
        refine QD.e (Ev.subK (r := ((ch - 97 : Nat) : Int)) rfl rfl (by rw [wrap8]; omega)) (by decide) rfl ?_
        refine QD.e (Ev.addK (r := (n : Int)) rfl rfl (by rw [wrap8]; omega)) (by decide) rfl ?_
        refine QD.ev T (by decide) rfl rfl ?_
        refine QD.nil (hZ _ ?_)
        clear hZ Z
        refine Run.inBlock ?_
        refine Run.keep [9, 0, 2, 4, 5, 6, 7, 13, 14, 15] [_, _, _, _, _, _, _, _, _, _] rfl ?_
        exact hk'
      · skip
        refine Run.regionO (D := [some 22, some 23, some 24, some 25, some 26, some 27, some 21]) [true, true, true, true, true, true, true] rfl rfl rfl (fun Z hZ => ?_)
        refine QD.ev T (by decide) rfl rfl ?_
        refine QD.e ((Ev.eqlI rfl rfl).as (show _ = Value.bool false from congrArg Value.bool (decide_eq_false (by omega)))) (by decide) rfl ?_
        iterate 2 refine QD.ev T (by decide) rfl rfl ?_
        refine QD.e ((Ev.eqlI rfl rfl).as (show _ = Value.bool false from congrArg Value.bool (decide_eq_false (by omega)))) (by decide) rfl ?_
        iterate 2 refine QD.ev T (by decide) rfl rfl ?_
        refine QD.nil (hZ _ ?_)
        clear hZ Z
        repeat (first | refine Run.seq ?_ | refine Run.cond_f rfl ?_)
        refine Run.regionO (D := [some 29, some 30, some 28]) [true, true, true] rfl rfl rfl (fun Z hZ => ?_)
        refine QD.ev T (by decide) rfl rfl ?_
        refine QD.e ((Ev.eqlI rfl rfl).as (show _ = Value.bool false from congrArg Value.bool (decide_eq_false (by omega)))) (by decide) rfl ?_
        refine QD.ev T (by decide) rfl rfl ?_
        refine QD.nil (hZ _ ?_)
        clear hZ Z
        repeat (first | refine Run.seq ?_ | refine Run.cond_f rfl ?_)
        refine Run.regionO (D := [some 40, some 41, some 39]) [true, true, true] rfl rfl rfl (fun Z hZ => ?_)
        refine QD.ev T (by decide) rfl rfl ?_
        refine QD.e (Ev.gtr rfl rfl) (by decide) rfl ?_
        refine QD.ev T (by decide) rfl rfl ?_
        refine QD.nil (hZ _ ?_)
        clear hZ Z
        repeat (first | refine Run.seq ?_ | refine Run.cond_f rfl ?_)
        refine Run.regionO (D := [some 43, some 44, some 45, some 46, some 47, some 48, some 42]) [true, true, true, true, true, true, true] rfl rfl rfl (fun Z hZ => ?_)
        refine QD.ev T (by decide) rfl rfl ?_
        refine QD.e ((Ev.geq rfl rfl).as (show _ = Value.bool false from congrArg Value.bool (decide_eq_false (by omega)))) (by decide) rfl ?_
        refine QD.ev T (by decide) rfl rfl ?_
        iterate 2 refine QD.off (by decide) rfl ?_
        iterate 2 refine QD.ev T (by decide) rfl rfl ?_
        refine QD.nil (hZ _ ?_)
        clear hZ Z
        repeat (first | refine Run.seq ?_ | refine Run.cond_f rfl ?_)
        refine Run.regionO (D := [some 52, some 53, some 54, some 55, some 56, some 57, some 51]) [true, true, true, true, true, true, true] rfl rfl rfl (fun Z hZ => ?_)
        refine QD.ev T (by decide) rfl rfl ?_
        refine QD.e ((Ev.geq rfl rfl).as (show _ = Value.bool false from congrArg Value.bool (decide_eq_false (by omega)))) (by decide) rfl ?_
        refine QD.ev T (by decide) rfl rfl ?_
        iterate 2 refine QD.off (by decide) rfl ?_
        iterate 2 refine QD.ev T (by decide) rfl rfl ?_
        refine QD.nil (hZ _ ?_)
        clear hZ Z
        repeat (first | refine Run.seq ?_ | refine Run.cond_f rfl ?_)
        refine Run.regionO (D := [some 62, some 63, some 64, some 65, some 66, some 67, some 61]) [true, true, true, true, true, true, true] rfl rfl rfl (fun Z hZ => ?_)
        refine QD.ev T (by decide) rfl rfl ?_
        refine QD.e ((Ev.geq rfl rfl).as (show _ = Value.bool true from congrArg Value.bool (decide_eq_true (by omega)))) (by decide) rfl ?_
        iterate 2 refine QD.ev T (by decide) rfl rfl ?_
        refine QD.e ((Ev.leq rfl rfl).as (show _ = Value.bool true from congrArg Value.bool (decide_eq_true (by omega)))) (by decide) rfl ?_
        iterate 2 refine QD.ev T (by decide) rfl rfl ?_
        refine QD.nil (hZ _ ?_)
        clear hZ Z
        refine Run.cond_t rfl ?_
        refine Run.regionO (D := [some 68, some 69, some 70, some 9]) [true, true, true, true] rfl rfl rfl (fun Z hZ => ?_)
        refine QD.ev T (by decide) rfl rfl ?_
        refine QD.e (Ev.subK (r := ((ch - 48 : Nat) : Int)) rfl rfl (by rw [wrap8]; omega)) (by decide) rfl ?_
        refine QD.e (Ev.addK (r := (n : Int)) rfl rfl (by rw [wrap8]; omega)) (by decide) rfl ?_
        refine QD.ev T (by decide) rfl rfl ?_
        refine QD.nil (hZ _ ?_)
        clear hZ Z
        refine Run.inBlock ?_
        refine Run.keep [9, 0, 2, 4, 5, 6, 7, 13, 14, 15] [_, _, _, _, _, _, _, _, _, _] rfl ?_
        exact hk'
      · obtain ⟨rfl, rfl⟩ := hcls
        refine Run.regionO (D := [some 22, some 23, some 24, some 25, some 26, some 27, some 21]) [true, true, true, true, true, true, true] rfl rfl rfl (fun Z hZ => ?_)
        refine QD.ev T (by decide) rfl rfl ?_
        refine QD.e ((Ev.eqlI rfl rfl).as (show _ = Value.bool false from congrArg Value.bool (decide_eq_false (by omega)))) (by decide) rfl ?_
        iterate 2 refine QD.ev T (by decide) rfl rfl ?_
        refine QD.e ((Ev.eqlI rfl rfl).as (show _ = Value.bool false from congrArg Value.bool (decide_eq_false (by omega)))) (by decide) rfl ?_
        iterate 2 refine QD.ev T (by decide) rfl rfl ?_
        refine QD.nil (hZ _ ?_)
        clear hZ Z
        repeat (first | refine Run.seq ?_ | refine Run.cond_f rfl ?_)
        refine Run.regionO (D := [some 29, some 30, some 28]) [true, true, true] rfl rfl rfl (fun Z hZ => ?_)
        refine QD.ev T (by decide) rfl rfl ?_
        refine QD.e ((Ev.eqlI rfl rfl).as (show _ = Value.bool false from congrArg Value.bool (decide_eq_false (by omega)))) (by decide) rfl ?_
        refine QD.ev T (by decide) rfl rfl ?_
        refine QD.nil (hZ _ ?_)
        clear hZ Z
        repeat (first | refine Run.seq ?_ | refine Run.cond_f rfl ?_)
        refine Run.regionO (D := [some 40, some 41, some 39]) [true, true, true] rfl rfl rfl (fun Z hZ => ?_)
        refine QD.ev T (by decide) rfl rfl ?_
        refine QD.e (Ev.gtr rfl rfl) (by decide) rfl ?_
        refine QD.ev T (by decide) rfl rfl ?_
        refine QD.nil (hZ _ ?_)
        clear hZ Z
        repeat (first | refine Run.seq ?_ | refine Run.cond_f rfl ?_)
        refine Run.regionO (D := [some 43, some 44, some 45, some 46, some 47, some 48, some 42]) [true, true, true, true, true, true, true] rfl rfl rfl (fun Z hZ => ?_)
        refine QD.ev T (by decide) rfl rfl ?_
        refine QD.e ((Ev.geq rfl rfl).as (show _ = Value.bool false from congrArg Value.bool (decide_eq_false (by omega)))) (by decide) rfl ?_
        refine QD.ev T (by decide) rfl rfl ?_
        iterate 2 refine QD.off (by decide) rfl ?_
        iterate 2 refine QD.ev T (by decide) rfl rfl ?_
        refine QD.nil (hZ _ ?_)
        clear hZ Z
        repeat (first | refine Run.seq ?_ | refine Run.cond_f rfl ?_)
        refine Run.regionO (D := [some 52, some 53, some 54, some 55, some 56, some 57, some 51]) [true, true, true, true, true, true, true] rfl rfl rfl (fun Z hZ => ?_)
        refine QD.ev T (by decide) rfl rfl ?_
        refine QD.e ((Ev.geq rfl rfl).as (show _ = Value.bool false from congrArg Value.bool (decide_eq_false (by omega)))) (by decide) rfl ?_
        refine QD.ev T (by decide) rfl rfl ?_
        iterate 2 refine QD.off (by decide) rfl ?_
        iterate 2 refine QD.ev T (by decide) rfl rfl ?_
        refine QD.nil (hZ _ ?_)
        clear hZ Z
        repeat (first | refine Run.seq ?_ | refine Run.cond_f rfl ?_)
        refine Run.regionO (D := [some 62, some 63, some 64, some 65, some 66, some 67, some 61]) [true, true, true, true, true, true, true] rfl rfl rfl (fun Z hZ => ?_)
        refine QD.ev T (by decide) rfl rfl ?_
        refine QD.e ((Ev.geq rfl rfl).as (show _ = Value.bool false from congrArg Value.bool (decide_eq_false (by omega)))) (by decide) rfl ?_
        refine QD.ev T (by decide) rfl rfl ?_
        iterate 2 refine QD.off (by decide) rfl ?_
        iterate 2 refine QD.ev T (by decide) rfl rfl ?_
        refine QD.nil (hZ _ ?_)
        clear hZ Z
        repeat (first | refine Run.seq ?_ | refine Run.cond_f rfl ?_)
        refine Run.regionO (D := [some 72, some 73, some 71]) [true, true, true] rfl rfl rfl (fun Z hZ => ?_)
        refine QD.ev T (by decide) rfl rfl ?_
        refine QD.e (Ev.eqlI rfl rfl) (by decide) rfl ?_
        refine QD.ev T (by decide) rfl rfl ?_
        refine QD.nil (hZ _ ?_)
        clear hZ Z
        refine Run.cond_t rfl ?_
        refine Run.regionO (D := [some 9]) [true] rfl rfl rfl (fun Z hZ => ?_)
        refine QD.ev T (by decide) rfl rfl ?_
        refine QD.nil (hZ _ ?_)
        clear hZ Z
        refine Run.inBlock ?_
        refine Run.keep [9, 0, 2, 4, 5, 6, 7, 13, 14, 15] [_, _, _, _, _, _, _, _, _, _] rfl ?_
        exact hk'
      · obtain ⟨rfl, rfl⟩ := hcls
        refine Run.regionO (D := [some 22, some 23, some 24, some 25, some 26, some 27, some 21]) [true, true, true, true, true, true, true] rfl rfl rfl (fun Z hZ => ?_)
        refine QD.ev T (by decide) rfl rfl ?_
        refine QD.e ((Ev.eqlI rfl rfl).as (show _ = Value.bool false from congrArg Value.bool (decide_eq_false (by omega)))) (by decide) rfl ?_
        iterate 2 refine QD.ev T (by decide) rfl rfl ?_
        refine QD.e ((Ev.eqlI rfl rfl).as (show _ = Value.bool false from congrArg Value.bool (decide_eq_false (by omega)))) (by decide) rfl ?_
        iterate 2 refine QD.ev T (by decide) rfl rfl ?_
        refine QD.nil (hZ _ ?_)
        clear hZ Z
        repeat (first | refine Run.seq ?_ | refine Run.cond_f rfl ?_)
        refine Run.regionO (D := [some 29, some 30, some 28]) [true, true, true] rfl rfl rfl (fun Z hZ => ?_)
        refine QD.ev T (by decide) rfl rfl ?_
        refine QD.e ((Ev.eqlI rfl rfl).as (show _ = Value.bool false from congrArg Value.bool (decide_eq_false (by omega)))) (by decide) rfl ?_
        refine QD.ev T (by decide) rfl rfl ?_
        refine QD.nil (hZ _ ?_)
        clear hZ Z
        repeat (first | refine Run.seq ?_ | refine Run.cond_f rfl ?_)
        refine Run.regionO (D := [some 40, some 41, some 39]) [true, true, true] rfl rfl rfl (fun Z hZ => ?_)
        refine QD.ev T (by decide) rfl rfl ?_
        refine QD.e (Ev.gtr rfl rfl) (by decide) rfl ?_
        refine QD.ev T (by decide) rfl rfl ?_
        refine QD.nil (hZ _ ?_)
        clear hZ Z
        repeat (first | refine Run.seq ?_ | refine Run.cond_f rfl ?_)
        refine Run.regionO (D := [some 43, some 44, some 45, some 46, some 47, some 48, some 42]) [true, true, true, true, true, true, true] rfl rfl rfl (fun Z hZ => ?_)
        refine QD.ev T (by decide) rfl rfl ?_
        refine QD.e ((Ev.geq rfl rfl).as (show _ = Value.bool false from congrArg Value.bool (decide_eq_false (by omega)))) (by decide) rfl ?_
        refine QD.ev T (by decide) rfl rfl ?_
        iterate 2 refine QD.off (by decide) rfl ?_
        iterate 2 refine QD.ev T (by decide) rfl rfl ?_
        refine QD.nil (hZ _ ?_)
        clear hZ Z
        repeat (first | refine Run.seq ?_ | refine Run.cond_f rfl ?_)
        refine Run.regionO (D := [some 52, some 53, some 54, some 55, some 56, some 57, some 51]) [true, true, true, true, true, true, true] rfl rfl rfl (fun Z hZ => ?_)
        refine QD.ev T (by decide) rfl rfl ?_
        refine QD.e ((Ev.geq rfl rfl).as (show _ = Value.bool false from congrArg Value.bool (decide_eq_false (by omega)))) (by decide) rfl ?_
        refine QD.ev T (by decide) rfl rfl ?_
        iterate 2 refine QD.off (by decide) rfl ?_
        iterate 2 refine QD.ev T (by decide) rfl rfl ?_
        refine QD.nil (hZ _ ?_)
        clear hZ Z
        repeat (first | refine Run.seq ?_ | refine Run.cond_f rfl ?_)
        refine Run.regionO (D := [some 62, some 63, some 64, some 65, some 66, some 67, some 61]) [true, true, true, true, true, true, true] rfl rfl rfl (fun Z hZ => ?_)
        refine QD.ev T (by decide) rfl rfl ?_
        refine QD.e ((Ev.geq rfl rfl).as (show _ = Value.bool false from congrArg Value.bool (decide_eq_false (by omega)))) (by decide) rfl ?_
        refine QD.ev T (by decide) rfl rfl ?_
        iterate 2 refine QD.off (by decide) rfl ?_
        iterate 2 refine QD.ev T (by decide) rfl rfl ?_
        refine QD.nil (hZ _ ?_)
        clear hZ Z
        repeat (first | refine Run.seq ?_ | refine Run.cond_f rfl ?_)
        refine Run.regionO (D := [some 72, some 73, some 71]) [true, true, true] rfl rfl rfl (fun Z hZ => ?_)
        refine QD.ev T (by decide) rfl rfl ?_
        refine QD.e (Ev.eqlI rfl rfl) (by decide) rfl ?_
        refine QD.ev T (by decide) rfl rfl ?_
        refine QD.nil (hZ _ ?_)
        clear hZ Z
        repeat (first | refine Run.seq ?_ | refine Run.cond_f rfl ?_)
        refine Run.regionO (D := [some 75, some 76, some 74]) [true, true, true] rfl rfl rfl (fun Z hZ => ?_)
        refine QD.ev T (by decide) rfl rfl ?_
        refine QD.e (Ev.eqlI rfl rfl) (by decide) rfl ?_
        refine QD.ev T (by decide) rfl rfl ?_
        refine QD.nil (hZ _ ?_)
        clear hZ Z
        refine Run.cond_t rfl ?_
        refine Run.regionO (D := [some 9]) [true] rfl rfl rfl (fun Z hZ => ?_)
        refine QD.ev T (by decide) rfl rfl ?_
        refine QD.nil (hZ _ ?_)
        clear hZ Z
        refine Run.inBlock ?_
        refine Run.keep [9, 0, 2, 4, 5, 6, 7, 13, 14, 15] [_, _, _, _, _, _, _, _, _, _] rfl ?_
        exact hk'
    clear hcls hch
    clear ch
    refine Run.seq ?_
    refine Run.regionP (D := [some 77, some 78, some 79, none]) [true, true, true] 3 rfl rfl rfl (by simp only [List.drop_succ_cons, List.drop_zero]; rfl) (fun Z hZ => ?_)
    iterate 2 refine QD.ev T (by decide) rfl rfl ?_
    refine QD.e (Ev.indexP T rfl rfl rfl rfl (by first | omega | (simp only [List.length_cons, List.length_nil] ; omega) | (simp; omega)) (by first | omega | (simp only [List.length_cons, List.length_nil] ; omega) | (simp; omega))) (by decide) rfl ?_
    refine QD.nil (hZ _ ?_)
    clear hZ Z
    refine Ops.store 0 rfl rfl rfl rfl rfl (T.sizeOk rfl) rfl (Nat.le_of_ble_eq_true rfl) rfl rfl ?_
    refine Ops.nil ?_
    repeat refine Run.seq ?_
    refine Run.regionO (D := [some 80, some 81, some 5]) [true, true, true] rfl rfl rfl (fun Z hZ => ?_)
    refine QD.ev T (by decide) rfl rfl ?_
    refine QD.e (Ev.addI rfl rfl (wI (by first | omega | (simp only [List.length_cons, List.length_nil] ; omega) | (simp; omega)) (by first | omega | (simp only [List.length_cons, List.length_nil] ; omega) | (simp; omega)))) (by decide) rfl ?_
    refine QD.ev T (by decide) rfl rfl ?_
    refine QD.nil (hZ _ ?_)
    clear hZ Z
    refine Run.seq ?_
    refine Run.regionO (D := [some 82, some 83]) [true, true] rfl rfl rfl (fun Z hZ => ?_)
    refine QD.ev T (by decide) rfl rfl ?_
    refine QD.e (Ev.lss rfl rfl) (by decide) rfl ?_
    refine QD.nil (hZ _ ?_)
    clear hZ Z
    repeat (first | refine Run.exit rfl ?_ | refine Run.cond_t rfl ?_)
    refine Run.regionO (D := [some 131, some 15]) [true, true] rfl rfl rfl (fun Z hZ => ?_)
    refine QD.e (Ev.addK (r := ((i + 1 : Nat) : Int)) rfl rfl (by rw [wI (by omega) (by omega)]; omega)) (by decide) rfl ?_
    refine QD.ev T (by decide) rfl rfl ?_
    refine QD.nil (hZ _ ?_)
    clear hZ Z
    skip
    refine Run.keep [0, 2, 4, 5, 6, 13, 14, 15] [_, _, _, _, _, _, _, _] rfl ?_
    refine Run.inLoop ?_
    refine Run.seq ?_
    refine Run.regionO (D := [some 16]) [true] rfl rfl rfl (fun Z hZ => ?_)
    refine QD.e ((Ev.lss rfl rfl).as (show _ = Value.bool true from congrArg Value.bool (decide_eq_true (by omega)))) (by decide) rfl ?_
    refine QD.nil (hZ _ ?_)
    clear hZ Z
    repeat (first | refine Run.seq ?_ | refine Run.skip ?_ | refine Run.block ?_ | refine Run.cond_t rfl ?_)
    refine Run.regionO (D := [some 17, some 7]) [true, true] rfl rfl rfl (fun Z hZ => ?_)
    iterate 2 refine QD.ev T (by decide) rfl rfl ?_
    refine QD.nil (hZ _ ?_)
    clear hZ Z
    refine Run.seq ?_
    obtain ⟨ch, hch, hcls⟩ : ∃ ch, (b64c (a.toNat % 4 * 16 + b.toNat / 16)).toNat = ch ∧ cls ch (a.toNat % 4 * 16 + b.toNat / 16) := ⟨_, rfl, cls_c (by omega)⟩
    refine Run.regionO (D := [some 18, some 19, some 20, some 8]) [true, true, true, true] rfl rfl rfl (fun Z hZ => ?_)
    iterate 2 refine QD.ev T (by decide) rfl rfl ?_
    refine QD.e ((Ev.indexT (s := s) T rfl rfl rfl (by omega) (by omega)).as (show _ = Value.int .u8 ((ch : Nat) : Int) from by show Value.int .u8 (((s.getD _ 0).toNat : Nat) : Int) = _; rw [show (((i + 1 : Nat) : Int)).toNat = i + 1 by omega, show s.getD (i + 1) 0 = b64c (a.toNat % 4 * 16 + b.toNat / 16) from g1, hch])) (by decide) rfl ?_
    refine QD.ev T (by decide) rfl rfl ?_
    refine QD.nil (hZ _ ?_)
    clear hZ Z
    refine Run.seq ?_
    refine Run.regionO (D := [some 9]) [true] rfl rfl rfl (fun Z hZ => ?_)
    refine QD.ev T (by decide) rfl rfl ?_
    refine QD.nil (hZ _ ?_)
    clear hZ Z
    refine Run.keep [0, 2, 4, 5, 6, 7, 8, 9, 13, 14, 15] [_, _, _, _, _, _, _, _, _, _, _] rfl ?_
    repeat (refine Run.seq ?_)
    refine Run.pieceV [0, 2, 4, 5, 6, 7, 13, 14, 15] [_, _, _, _, _, _, _, _, _] 9 (.int .u8 (((a.toNat % 4 * 16 + b.toNat / 16 : Nat)) : Int)) rfl (fun k' hk' => ?_) ?_
    · refine Run.block ?_
      refine Run.seq ?_
      generalize hn : (a.toNat % 4 * 16 + b.toNat / 16 : Nat) = n at *
      rcases hcls with hcls | hcls | hcls | hcls | hcls
      · skip
        refine Run.regionO (D := [some 22, some 23, some 24, some 25, some 26, some 27, some 21]) [true, true, true, true, true, true, true] rfl rfl rfl (fun Z hZ => ?_)
        refine QD.ev T (by decide) rfl rfl ?_
        refine QD.e ((Ev.eqlI rfl rfl).as (show _ = Value.bool false from congrArg Value.bool (decide_eq_false (by omega)))) (by decide) rfl ?_
        iterate 2 refine QD.ev T (by decide) rfl rfl ?_
        refine QD.e ((Ev.eqlI rfl rfl).as (show _ = Value.bool false from congrArg Value.bool (decide_eq_false (by omega)))) (by decide) rfl ?_
        iterate 2 refine QD.ev T (by decide) rfl rfl ?_
        refine QD.nil (hZ _ ?_)
        clear hZ Z
        repeat (first | refine Run.seq ?_ | refine Run.cond_f rfl ?_)
        refine Run.regionO (D := [some 29, some 30, some 28]) [true, true, true] rfl rfl rfl (fun Z hZ => ?_)
        refine QD.ev T (by decide) rfl rfl ?_
        refine QD.e ((Ev.eqlI rfl rfl).as (show _ = Value.bool false from congrArg Value.bool (decide_eq_false (by omega)))) (by decide) rfl ?_
        refine QD.ev T (by decide) rfl rfl ?_
        refine QD.nil (hZ _ ?_)
        clear hZ Z
        repeat (first | refine Run.seq ?_ | refine Run.cond_f rfl ?_)
        refine Run.regionO (D := [some 40, some 41, some 39]) [true, true, true] rfl rfl rfl (fun Z hZ => ?_)
        refine QD.ev T (by decide) rfl rfl ?_
        refine QD.e (Ev.gtr rfl rfl) (by decide) rfl ?_
        refine QD.ev T (by decide) rfl rfl ?_
        refine QD.nil (hZ _ ?_)
        clear hZ Z
        repeat (first | refine Run.seq ?_ | refine Run.cond_f rfl ?_)
        refine Run.regionO (D := [some 43, some 44, some 45, some 46, some 47, some 48, some 42]) [true, true, true, true, true, true, true] rfl rfl rfl (fun Z hZ => ?_)
        refine QD.ev T (by decide) rfl rfl ?_
        refine QD.e ((Ev.geq rfl rfl).as (show _ = Value.bool true from congrArg Value.bool (decide_eq_true (by omega)))) (by decide) rfl ?_
        iterate 2 refine QD.ev T (by decide) rfl rfl ?_
        refine QD.e ((Ev.leq rfl rfl).as (show _ = Value.bool true from congrArg Value.bool (decide_eq_true (by omega)))) (by decide) rfl ?_
        iterate 2 refine QD.ev T (by decide) rfl rfl ?_
        refine QD.nil (hZ _ ?_)
        clear hZ Z
        refine Run.cond_t rfl ?_
        refine Run.regionO (D := [some 49, some 50, some 9]) [true, true, true] rfl rfl rfl (fun Z hZ => ?_)
        refine QD.ev T (by decide) rfl rfl ?_
        refine QD.e (Ev.subK (r := (n : Int)) rfl rfl (by rw [wrap8]; omega)) (by decide) rfl ?_
        refine QD.ev T (by decide) rfl rfl ?_
        refine QD.nil (hZ _ ?_)
        clear hZ Z
        refine Run.inBlock ?_
        refine Run.keep [9, 0, 2, 4, 5, 6, 7, 13, 14, 15] [_, _, _, _, _, _, _, _, _, _] rfl ?_
        exact hk'
      · skip
        refine Run.regionO (D := [some 22, some 23, some 24, some 25, some 26, some 27, some 21]) [true, true, true, true, true, true, true] rfl rfl rfl (fun Z hZ => ?_)
        refine QD.ev T (by decide) rfl rfl ?_
        refine QD.e ((Ev.eqlI rfl rfl).as (show _ = Value.bool false from congrArg Value.bool (decide_eq_false (by omega)))) (by decide) rfl ?_
        iterate 2 refine QD.ev T (by decide) rfl rfl ?_
        refine QD.e ((Ev.eqlI rfl rfl).as (show _ = Value.bool false from congrArg Value.bool (decide_eq_false (by omega)))) (by decide) rfl ?_
        iterate 2 refine QD.ev T (by decide) rfl rfl ?_
        refine QD.nil (hZ _ ?_)
        clear hZ Z
        repeat (first | refine Run.seq ?_ | refine Run.cond_f rfl ?_)
        refine Run.regionO (D := [some 29, some 30, some 28]) [true, true, true] rfl rfl rfl (fun Z hZ => ?_)
        refine QD.ev T (by decide) rfl rfl ?_
        refine QD.e ((Ev.eqlI rfl rfl).as (show _ = Value.bool false from congrArg Value.bool (decide_eq_false (by omega)))) (by decide) rfl ?_
        refine QD.ev T (by decide) rfl rfl ?_
        refine QD.nil (hZ _ ?_)
        clear hZ Z
        repeat (first | refine Run.seq ?_ | refine Run.cond_f rfl ?_)
        refine Run.regionO (D := [some 40, some 41, some 39]) [true, true, true] rfl rfl rfl (fun Z hZ => ?_)
        refine QD.ev T (by decide) rfl rfl ?_
        refine QD.e (Ev.gtr rfl rfl) (by decide) rfl ?_
        refine QD.ev T (by decide) rfl rfl ?_
        refine QD.nil (hZ _ ?_)
        clear hZ Z
        repeat (first | refine Run.seq ?_ | refine Run.cond_f rfl ?_)
        refine Run.regionO (D := [some 43, some 44, some 45, some 46, some 47, some 48, some 42]) [true, true, true, true, true, true, true] rfl rfl rfl (fun Z hZ => ?_)
        refine QD.ev T (by decide) rfl rfl ?_
        refine QD.e ((Ev.geq rfl rfl).as (show _ = Value.bool true from congrArg Value.bool (decide_eq_true (by omega)))) (by decide) rfl ?_
        iterate 2 refine QD.ev T (by decide) rfl rfl ?_
        refine QD.e ((Ev.leq rfl rfl).as (show _ = Value.bool false from congrArg Value.bool (decide_eq_false (by omega)))) (by decide) rfl ?_
        iterate 2 refine QD.ev T (by decide) rfl rfl ?_
        refine QD.nil (hZ _ ?_)
        clear hZ Z
        repeat (first | refine Run.seq ?_ | refine Run.cond_f rfl ?_)
        refine Run.regionO (D := [some 52, some 53, some 54, some 55, some 56, some 57, some 51]) [true, true, true, true, true, true, true] rfl rfl rfl (fun Z hZ => ?_)
        refine QD.ev T (by decide) rfl rfl ?_
        refine QD.e ((Ev.geq rfl rfl).as (show _ = Value.bool true from congrArg Value.bool (decide_eq_true (by omega)))) (by decide) rfl ?_
        iterate 2 refine QD.ev T (by decide) rfl rfl ?_
        refine QD.e ((Ev.leq rfl rfl).as (show _ = Value.bool true from congrArg Value.bool (decide_eq_true (by omega)))) (by decide) rfl ?_
        iterate 2 refine QD.ev T (by decide) rfl rfl ?_
        refine QD.nil (hZ _ ?_)
        clear hZ Z
        refine Run.cond_t rfl ?_
        refine Run.regionO (D := [some 58, some 59, some 60, some 9]) [true, true, true, true] rfl rfl rfl (fun Z hZ => ?_)
        refine QD.ev T (by decide) rfl rfl ?_
        refine QD.e (Ev.subK (r := ((ch - 97 : Nat) : Int)) rfl rfl (by rw [wrap8]; omega)) (by decide) rfl ?_
        refine QD.e (Ev.addK (r := (n : Int)) rfl rfl (by rw [wrap8]; omega)) (by decide) rfl ?_
        refine QD.ev T (by decide) rfl rfl ?_
        refine QD.nil (hZ _ ?_)
        clear hZ Z
        refine Run.inBlock ?_
        refine Run.keep [9, 0, 2, 4, 5, 6, 7, 13, 14, 15] [_, _, _, _, _, _, _, _, _, _] rfl ?_
        exact hk'
      · skip
        refine Run.regionO (D := [some 22, some 23, some 24, some 25, some 26, some 27, some 21]) [true, true, true, true, true, true, true] rfl rfl rfl (fun Z hZ => ?_)
        refine QD.ev T (by decide) rfl rfl ?_
        refine QD.e ((Ev.eqlI rfl rfl).as (show _ = Value.bool false from congrArg Value.bool (decide_eq_false (by omega)))) (by decide) rfl ?_
        iterate 2 refine QD.ev T (by decide) rfl rfl ?_
        refine QD.e ((Ev.eqlI rfl rfl).as (show _ = Value.bool false from congrArg Value.bool (decide_eq_false (by omega)))) (by decide) rfl ?_
        iterate 2 refine QD.ev T (by decide) rfl rfl ?_
        refine QD.nil (hZ _ ?_)
        clear hZ Z
        repeat (first | refine Run.seq ?_ | refine Run.cond_f rfl ?_)
        refine Run.regionO (D := [some 29, some 30, some 28]) [true, true, true] rfl rfl rfl (fun Z hZ => ?_)
        refine QD.ev T (by decide) rfl rfl ?_
        refine QD.e ((Ev.eqlI rfl rfl).as (show _ = Value.bool false from congrArg Value.bool (decide_eq_false (by omega)))) (by decide) rfl ?_
        refine QD.ev T (by decide) rfl rfl ?_
        refine QD.nil (hZ _ ?_)
        clear hZ Z
        repeat (first | refine Run.seq ?_ | refine Run.cond_f rfl ?_)
        refine Run.regionO (D := [some 40, some 41, some 39]) [true, true, true] rfl rfl rfl (fun Z hZ => ?_)
        refine QD.ev T (by decide) rfl rfl ?_
        refine QD.e (Ev.gtr rfl rfl) (by decide) rfl ?_
        refine QD.ev T (by decide) rfl rfl ?_
        refine QD.nil (hZ _ ?_)
        clear hZ Z
        repeat (first | refine Run.seq ?_ | refine Run.cond_f rfl ?_)
        refine Run.regionO (D := [some 43, some 44, some 45, some 46, some 47, some 48, some 42]) [true, true, true, true, true, true, true] rfl rfl rfl (fun Z hZ => ?_)
        refine QD.ev T (by decide) rfl rfl ?_
        refine QD.e ((Ev.geq rfl rfl).as (show _ = Value.bool false from congrArg Value.bool (decide_eq_false (by omega)))) (by decide) rfl ?_
        refine QD.ev T (by decide) rfl rfl ?_
        iterate 2 refine QD.off (by decide) rfl ?_
        iterate 2 refine QD.ev T (by decide) rfl rfl ?_
        refine QD.nil (hZ _ ?_)
        clear hZ Z
        repeat (first | refine Run.seq ?_ | refine Run.cond_f rfl ?_)
        refine Run.regionO (D := [some 52, some 53, some 54, some 55, some 56, some 57, some 51]) [true, true, true, true, true, true, true] rfl rfl rfl (fun Z hZ => ?_)
        refine QD.ev T (by decide) rfl rfl ?_
        refine QD.e ((Ev.geq rfl rfl).as (show _ = Value.bool false from congrArg Value.bool (decide_eq_false (by omega)))) (by decide) rfl ?_
        refine QD.ev T (by decide) rfl rfl ?_
        iterate 2 refine QD.off (by decide) rfl ?_
        iterate 2 refine QD.ev T (by decide) rfl rfl ?_
        refine QD.nil (hZ _ ?_)
        clear hZ Z
        repeat (first | refine Run.seq ?_ | refine Run.cond_f rfl ?_)
        refine Run.regionO (D := [some 62, some 63, some 64, some 65, some 66, some 67, some 61]) [true, true, true, true, true, true, true] rfl rfl rfl (fun Z hZ => ?_)
        refine QD.ev T (by decide) rfl rfl ?_
        refine QD.e ((Ev.geq rfl rfl).as (show _ = Value.bool true from congrArg Value.bool (decide_eq_true (by omega)))) (by decide) rfl ?_
        iterate 2 refine QD.ev T (by decide) rfl rfl ?_
        refine QD.e ((Ev.leq rfl rfl).as (show _ = Value.bool true from congrArg Value.bool (decide_eq_true (by omega)))) (by decide) rfl ?_
        iterate 2 refine QD.ev T (by decide) rfl rfl ?_
        refine QD.nil (hZ _ ?_)
        clear hZ Z
        refine Run.cond_t rfl ?_
        refine Run.regionO (D := [some 68, some 69, some 70, some 9]) [true, true, true, true] rfl rfl rfl (fun Z hZ => ?_)
        refine QD.ev T (by decide) rfl rfl ?_
        refine QD.e (Ev.subK (r := ((ch - 48 : Nat) : Int)) rfl rfl (by rw [wrap8]; omega)) (by decide) rfl ?_
        refine QD.e (Ev.addK (r := (n : Int)) rfl rfl (by rw [wrap8]; omega)) (by decide) rfl ?_
        refine QD.ev T (by decide) rfl rfl ?_
        refine QD.nil (hZ _ ?_)
        clear hZ Z
        refine Run.inBlock ?_
        refine Run.keep [9, 0, 2, 4, 5, 6, 7, 13, 14, 15] [_, _, _, _, _, _, _, _, _, _] rfl ?_
        exact hk'
      · obtain ⟨rfl, rfl⟩ := hcls
        refine Run.regionO (D := [some 22, some 23, some 24, some 25, some 26, some 27, some 21]) [true, true, true, true, true, true, true] rfl rfl rfl (fun Z hZ => ?_)
        refine QD.ev T (by decide) rfl rfl ?_
        refine QD.e ((Ev.eqlI rfl rfl).as (show _ = Value.bool false from congrArg Value.bool (decide_eq_false (by omega)))) (by decide) rfl ?_
        iterate 2 refine QD.ev T (by decide) rfl rfl ?_
        refine QD.e ((Ev.eqlI rfl rfl).as (show _ = Value.bool false from congrArg Value.bool (decide_eq_false (by omega)))) (by decide) rfl ?_
        iterate 2 refine QD.ev T (by decide) rfl rfl ?_
        refine QD.nil (hZ _ ?_)
        clear hZ Z
        repeat (first | refine Run.seq ?_ | refine Run.cond_f rfl ?_)
        refine Run.regionO (D := [some 29, some 30, some 28]) [true, true, true] rfl rfl rfl (fun Z hZ => ?_)
        refine QD.ev T (by decide) rfl rfl ?_
        refine QD.e ((Ev.eqlI rfl rfl).as (show _ = Value.bool false from congrArg Value.bool (decide_eq_false (by omega)))) (by decide) rfl ?_
        refine QD.ev T (by decide) rfl rfl ?_
        refine QD.nil (hZ _ ?_)
        clear hZ Z
        repeat (first | refine Run.seq ?_ | refine Run.cond_f rfl ?_)
        refine Run.regionO (D := [some 40, some 41, some 39]) [true, true, true] rfl rfl rfl (fun Z hZ => ?_)
        refine QD.ev T (by decide) rfl rfl ?_
        refine QD.e (Ev.gtr rfl rfl) (by decide) rfl ?_
        refine QD.ev T (by decide) rfl rfl ?_
        refine QD.nil (hZ _ ?_)
        clear hZ Z
        repeat (first | refine Run.seq ?_ | refine Run.cond_f rfl ?_)
        refine Run.regionO (D := [some 43, some 44, some 45, some 46, some 47, some 48, some 42]) [true, true, true, true, true, true, true] rfl rfl rfl (fun Z hZ => ?_)
        refine QD.ev T (by decide) rfl rfl ?_
        refine QD.e ((Ev.geq rfl rfl).as (show _ = Value.bool false from congrArg Value.bool (decide_eq_false (by omega)))) (by decide) rfl ?_
        refine QD.ev T (by decide) rfl rfl ?_
        iterate 2 refine QD.off (by decide) rfl ?_
        iterate 2 refine QD.ev T (by decide) rfl rfl ?_
        refine QD.nil (hZ _ ?_)
        clear hZ Z
        repeat (first | refine Run.seq ?_ | refine Run.cond_f rfl ?_)
        refine Run.regionO (D := [some 52, some 53, some 54, some 55, some 56, some 57, some 51]) [true, true, true, true, true, true, true] rfl rfl rfl (fun Z hZ => ?_)
        refine QD.ev T (by decide) rfl rfl ?_
        refine QD.e ((Ev.geq rfl rfl).as (show _ = Value.bool false from congrArg Value.bool (decide_eq_false (by omega)))) (by decide) rfl ?_
        refine QD.ev T (by decide) rfl rfl ?_
        iterate 2 refine QD.off (by decide) rfl ?_
        iterate 2 refine QD.ev T (by decide) rfl rfl ?_
        refine QD.nil (hZ _ ?_)
        clear hZ Z
        repeat (first | refine Run.seq ?_ | refine Run.cond_f rfl ?_)
        refine Run.regionO (D := [some 62, some 63, some 64, some 65, some 66, some 67, some 61]) [true, true, true, true, true, true, true] rfl rfl rfl (fun Z hZ => ?_)
        refine QD.ev T (by decide) rfl rfl ?_
        refine QD.e ((Ev.geq rfl rfl).as (show _ = Value.bool false from congrArg Value.bool (decide_eq_false (by omega)))) (by decide) rfl ?_
        refine QD.ev T (by decide) rfl rfl ?_
        iterate 2 refine QD.off (by decide) rfl ?_
        iterate 2 refine QD.ev T (by decide) rfl rfl ?_
        refine QD.nil (hZ _ ?_)
        clear hZ Z
        repeat (first | refine Run.seq ?_ | refine Run.cond_f rfl ?_)
        refine Run.regionO (D := [some 72, some 73, some 71]) [true, true, true] rfl rfl rfl (fun Z hZ => ?_)
        refine QD.ev T (by decide) rfl rfl ?_
        refine QD.e (Ev.eqlI rfl rfl) (by decide) rfl ?_
        refine QD.ev T (by decide) rfl rfl ?_
        refine QD.nil (hZ _ ?_)
        clear hZ Z
        refine Run.cond_t rfl ?_
        refine Run.regionO (D := [some 9]) [true] rfl rfl rfl (fun Z hZ => ?_)
        refine QD.ev T (by decide) rfl rfl ?_
        refine QD.nil (hZ _ ?_)
        clear hZ Z
        refine Run.inBlock ?_
        refine Run.keep [9, 0, 2, 4, 5, 6, 7, 13, 14, 15] [_, _, _, _, _, _, _, _, _, _] rfl ?_
        exact hk'
      · obtain ⟨rfl, rfl⟩ := hcls
        refine Run.regionO (D := [some 22, some 23, some 24, some 25, some 26, some 27, some 21]) [true, true, true, true, true, true, true] rfl rfl rfl (fun Z hZ => ?_)
        refine QD.ev T (by decide) rfl rfl ?_
        refine QD.e ((Ev.eqlI rfl rfl).as (show _ = Value.bool false from congrArg Value.bool (decide_eq_false (by omega)))) (by decide) rfl ?_
        iterate 2 refine QD.ev T (by decide) rfl rfl ?_
        refine QD.e ((Ev.eqlI rfl rfl).as (show _ = Value.bool false from congrArg Value.bool (decide_eq_false (by omega)))) (by decide) rfl ?_
        iterate 2 refine QD.ev T (by decide) rfl rfl ?_
        refine QD.nil (hZ _ ?_)
        clear hZ Z
        repeat (first | refine Run.seq ?_ | refine Run.cond_f rfl ?_)
        refine Run.regionO (D := [some 29, some 30, some 28]) [true, true, true] rfl rfl rfl (fun Z hZ => ?_)
        refine QD.ev T (by decide) rfl rfl ?_
        refine QD.e ((Ev.eqlI rfl rfl).as (show _ = Value.bool false from congrArg Value.bool (decide_eq_false (by omega)))) (by decide) rfl ?_
        refine QD.ev T (by decide) rfl rfl ?_
        refine QD.nil (hZ _ ?_)
        clear hZ Z
        repeat (first | refine Run.seq ?_ | refine Run.cond_f rfl ?_)
        refine Run.regionO (D := [some 40, some 41, some 39]) [true, true, true] rfl rfl rfl (fun Z hZ => ?_)
        refine QD.ev T (by decide) rfl rfl ?_
        refine QD.e (Ev.gtr rfl rfl) (by decide) rfl ?_
        refine QD.ev T (by decide) rfl rfl ?_
        refine QD.nil (hZ _ ?_)
        clear hZ Z
        repeat (first | refine Run.seq ?_ | refine Run.cond_f rfl ?_)
        refine Run.regionO (D := [some 43, some 44, some 45, some 46, some 47, some 48, some 42]) [true, true, true, true, true, true, true] rfl rfl rfl (fun Z hZ => ?_)
        refine QD.ev T (by decide) rfl rfl ?_
        refine QD.e ((Ev.geq rfl rfl).as (show _ = Value.bool false from congrArg Value.bool (decide_eq_false (by omega)))) (by decide) rfl ?_
        refine QD.ev T (by decide) rfl rfl ?_
        iterate 2 refine QD.off (by decide) rfl ?_
        iterate 2 refine QD.ev T (by decide) rfl rfl ?_
        refine QD.nil (hZ _ ?_)
        clear hZ Z
        repeat (first | refine Run.seq ?_ | refine Run.cond_f rfl ?_)
        refine Run.regionO (D := [some 52, some 53, some 54, some 55, some 56, some 57, some 51]) [true, true, true, true, true, true, true] rfl rfl rfl (fun Z hZ => ?_)
        refine QD.ev T (by decide) rfl rfl ?_
        refine QD.e ((Ev.geq rfl rfl).as (show _ = Value.bool false from congrArg Value.bool (decide_eq_false (by omega)))) (by decide) rfl ?_
        refine QD.ev T (by decide) rfl rfl ?_
        iterate 2 refine QD.off (by decide) rfl ?_
        iterate 2 refine QD.ev T (by decide) rfl rfl ?_
        refine QD.nil (hZ _ ?_)
        clear hZ Z
        repeat (first | refine Run.seq ?_ | refine Run.cond_f rfl ?_)
        refine Run.regionO (D := [some 62, some 63, some 64, some 65, some 66, some 67, some 61]) [true, true, true, true, true, true, true] rfl rfl rfl (fun Z hZ => ?_)
        refine QD.ev T (by decide) rfl rfl ?_
        refine QD.e ((Ev.geq rfl rfl).as (show _ = Value.bool false from congrArg Value.bool (decide_eq_false (by omega)))) (by decide) rfl ?_
        refine QD.ev T (by decide) rfl rfl ?_
        iterate 2 refine QD.off (by decide) rfl ?_
        iterate 2 refine QD.ev T (by decide) rfl rfl ?_
        refine QD.nil (hZ _ ?_)
        clear hZ Z
        repeat (first | refine Run.seq ?_ | refine Run.cond_f rfl ?_)
        refine Run.regionO (D := [some 72, some 73, some 71]) [true, true, true] rfl rfl rfl (fun Z hZ => ?_)
        refine QD.ev T (by decide) rfl rfl ?_
        refine QD.e (Ev.eqlI rfl rfl) (by decide) rfl ?_
        refine QD.ev T (by decide) rfl rfl ?_
        refine QD.nil (hZ _ ?_)
        clear hZ Z
        repeat (first | refine Run.seq ?_ | refine Run.cond_f rfl ?_)
        refine Run.regionO (D := [some 75, some 76, some 74]) [true, true, true] rfl rfl rfl (fun Z hZ => ?_)
        refine QD.ev T (by decide) rfl rfl ?_
        refine QD.e (Ev.eqlI rfl rfl) (by decide) rfl ?_
        refine QD.ev T (by decide) rfl rfl ?_
        refine QD.nil (hZ _ ?_)
        clear hZ Z
        refine Run.cond_t rfl ?_
        refine Run.regionO (D := [some 9]) [true] rfl rfl rfl (fun Z hZ => ?_)
        refine QD.ev T (by decide) rfl rfl ?_
        refine QD.nil (hZ _ ?_)
        clear hZ Z
        refine Run.inBlock ?_
        refine Run.keep [9, 0, 2, 4, 5, 6, 7, 13, 14, 15] [_, _, _, _, _, _, _, _, _, _] rfl ?_
        exact hk'
    clear hcls hch
    clear ch
    refine Run.seq ?_
    refine Run.regionP (D := [some 77, some 78, some 79, none]) [true, true, true] 3 rfl rfl rfl (by simp only [List.drop_succ_cons, List.drop_zero]; rfl) (fun Z hZ => ?_)
    iterate 2 refine QD.ev T (by decide) rfl rfl ?_
    refine QD.e (Ev.indexP T rfl rfl rfl rfl (by first | omega | (simp only [List.length_cons, List.length_nil] ; omega) | (simp; omega)) (by first | omega | (simp only [List.length_cons, List.length_nil] ; omega) | (simp; omega))) (by decide) rfl ?_
    refine QD.nil (hZ _ ?_)
    clear hZ Z
    refine Ops.store 0 rfl rfl rfl rfl rfl (T.sizeOk rfl) rfl (Nat.le_of_ble_eq_true rfl) rfl rfl ?_
    refine Ops.nil ?_
    repeat refine Run.seq ?_
    refine Run.regionO (D := [some 80, some 81, some 5]) [true, true, true] rfl rfl rfl (fun Z hZ => ?_)
    refine QD.ev T (by decide) rfl rfl ?_
    refine QD.e (Ev.addI rfl rfl (wI (by first | omega | (simp only [List.length_cons, List.length_nil] ; omega) | (simp; omega)) (by first | omega | (simp only [List.length_cons, List.length_nil] ; omega) | (simp; omega)))) (by decide) rfl ?_
    refine QD.ev T (by decide) rfl rfl ?_
    refine QD.nil (hZ _ ?_)
    clear hZ Z
    refine Run.seq ?_
    refine Run.regionO (D := [some 82, some 83]) [true, true] rfl rfl rfl (fun Z hZ => ?_)
    refine QD.ev T (by decide) rfl rfl ?_
    refine QD.e (Ev.lss rfl rfl) (by decide) rfl ?_
    refine QD.nil (hZ _ ?_)
    clear hZ Z
    repeat (first | refine Run.exit rfl ?_ | refine Run.cond_t rfl ?_)
    refine Run.regionO (D := [some 131, some 15]) [true, true] rfl rfl rfl (fun Z hZ => ?_)
    refine QD.e (Ev.addK (r := ((i + 2 : Nat) : Int)) rfl rfl (by rw [wI (by omega) (by omega)]; omega)) (by decide) rfl ?_
    refine QD.ev T (by decide) rfl rfl ?_
    refine QD.nil (hZ _ ?_)
    clear hZ Z
    skip
    refine Run.keep [0, 2, 4, 5, 6, 13, 14, 15] [_, _, _, _, _, _, _, _] rfl ?_
    refine Run.inLoop ?_
    refine Run.seq ?_
    refine Run.regionO (D := [some 16]) [true] rfl rfl rfl (fun Z hZ => ?_)
    refine QD.e ((Ev.lss rfl rfl).as (show _ = Value.bool true from congrArg Value.bool (decide_eq_true (by omega)))) (by decide) rfl ?_
    refine QD.nil (hZ _ ?_)
    clear hZ Z
    repeat (first | refine Run.seq ?_ | refine Run.skip ?_ | refine Run.block ?_ | refine Run.cond_t rfl ?_)
    refine Run.regionO (D := [some 17, some 7]) [true, true] rfl rfl rfl (fun Z hZ => ?_)
    iterate 2 refine QD.ev T (by decide) rfl rfl ?_
    refine QD.nil (hZ _ ?_)
    clear hZ Z
    refine Run.seq ?_
    obtain ⟨ch, hch, hcls⟩ : ∃ ch, (b64c (b.toNat % 16 * 4)).toNat = ch ∧ cls ch (b.toNat % 16 * 4) := ⟨_, rfl, cls_c (by omega)⟩
    refine Run.regionO (D := [some 18, some 19, some 20, some 8]) [true, true, true, true] rfl rfl rfl (fun Z hZ => ?_)
    iterate 2 refine QD.ev T (by decide) rfl rfl ?_
    refine QD.e ((Ev.indexT (s := s) T rfl rfl rfl (by omega) (by omega)).as (show _ = Value.int .u8 ((ch : Nat) : Int) from by show Value.int .u8 (((s.getD _ 0).toNat : Nat) : Int) = _; rw [show (((i + 2 : Nat) : Int)).toNat = i + 2 by omega, show s.getD (i + 2) 0 = b64c (b.toNat % 16 * 4) from g2, hch])) (by decide) rfl ?_
    refine QD.ev T (by decide) rfl rfl ?_
    refine QD.nil (hZ _ ?_)
    clear hZ Z
    refine Run.seq ?_
    refine Run.regionO (D := [some 9]) [true] rfl rfl rfl (fun Z hZ => ?_)
    refine QD.ev T (by decide) rfl rfl ?_
    refine QD.nil (hZ _ ?_)
    clear hZ Z
    refine Run.keep [0, 2, 4, 5, 6, 7, 8, 9, 13, 14, 15] [_, _, _, _, _, _, _, _, _, _, _] rfl ?_
    repeat (refine Run.seq ?_)
    refine Run.pieceV [0, 2, 4, 5, 6, 7, 13, 14, 15] [_, _, _, _, _, _, _, _, _] 9 (.int .u8 (((b.toNat % 16 * 4 : Nat)) : Int)) rfl (fun k' hk' => ?_) ?_
    · refine Run.block ?_
      refine Run.seq ?_
      generalize hn : (b.toNat % 16 * 4 : Nat) = n at *
      rcases hcls with hcls | hcls | hcls | hcls | hcls
      · skip
        refine Run.regionO (D := [some 22, some 23, some 24, some 25, some 26, some 27, some 21]) [true, true, true, true, true, true, true] rfl rfl rfl (fun Z hZ => ?_)
        refine QD.ev T (by decide) rfl rfl ?_
        refine QD.e ((Ev.eqlI rfl rfl).as (show _ = Value.bool false from congrArg Value.bool (decide_eq_false (by omega)))) (by decide) rfl ?_
        iterate 2 refine QD.ev T (by decide) rfl rfl ?_
        refine QD.e ((Ev.eqlI rfl rfl).as (show _ = Value.bool false from congrArg Value.bool (decide_eq_false (by omega)))) (by decide) rfl ?_
        iterate 2 refine QD.ev T (by decide) rfl rfl ?_
        refine QD.nil (hZ _ ?_)
        clear hZ Z
        repeat (first | refine Run.seq ?_ | refine Run.cond_f rfl ?_)
        refine Run.regionO (D := [some 29, some 30, some 28]) [true, true, true] rfl rfl rfl (fun Z hZ => ?_)
        refine QD.ev T (by decide) rfl rfl ?_
        refine QD.e ((Ev.eqlI rfl rfl).as (show _ = Value.bool false from congrArg Value.bool (decide_eq_false (by omega)))) (by decide) rfl ?_
        refine QD.ev T (by decide) rfl rfl ?_
        refine QD.nil (hZ _ ?_)
        clear hZ Z
        repeat (first | refine Run.seq ?_ | refine Run.cond_f rfl ?_)
        refine Run.regionO (D := [some 40, some 41, some 39]) [true, true, true] rfl rfl rfl (fun Z hZ => ?_)
        refine QD.ev T (by decide) rfl rfl ?_
        refine QD.e (Ev.gtr rfl rfl) (by decide) rfl ?_
        refine QD.ev T (by decide) rfl rfl ?_
        refine QD.nil (hZ _ ?_)
        clear hZ Z
        repeat (first | refine Run.seq ?_ | refine Run.cond_f rfl ?_)
        refine Run.regionO (D := [some 43, some 44, some 45, some 46, some 47, some 48, some 42]) [true, true, true, true, true, true, true] rfl rfl rfl (fun Z hZ => ?_)
        refine QD.ev T (by decide) rfl rfl ?_
        refine QD.e ((Ev.geq rfl rfl).as (show _ = Value.bool true from congrArg Value.bool (decide_eq_true (by omega)))) (by decide) rfl ?_
        iterate 2 refine QD.ev T (by decide) rfl rfl ?_
        refine QD.e ((Ev.leq rfl rfl).as (show _ = Value.bool true from congrArg Value.bool (decide_eq_true (by omega)))) (by decide) rfl ?_
        iterate 2 refine QD.ev T (by decide) rfl rfl ?_
        refine QD.nil (hZ _ ?_)
        clear hZ Z
        refine Run.cond_t rfl ?_
        refine Run.regionO (D := [some 49, some 50, some 9]) [true, true, true] rfl rfl rfl (fun Z hZ => ?_)
        refine QD.ev T (by decide) rfl rfl ?_
        refine QD.e (Ev.subK (r := (n : Int)) rfl rfl (by rw [wrap8]; omega)) (by decide) rfl ?_
        refine QD.ev T (by decide) rfl rfl ?_
        refine QD.nil (hZ _ ?_)
        clear hZ Z
        refine Run.inBlock ?_
        refine Run.keep [9, 0, 2, 4, 5, 6, 7, 13, 14, 15] [_, _, _, _, _, _, _, _, _, _] rfl ?_
        exact hk'
      · skip
        refine Run.regionO (D := [some 22, some 23, some 24, some 25, some 26, some 27, some 21]) [true, true, true, true, true, true, true] rfl rfl rfl (fun Z hZ => ?_)
        refine QD.ev T (by decide) rfl rfl ?_
        refine QD.e ((Ev.eqlI rfl rfl).as (show _ = Value.bool false from congrArg Value.bool (decide_eq_false (by omega)))) (by decide) rfl ?_
        iterate 2 refine QD.ev T (by decide) rfl rfl ?_
        refine QD.e ((Ev.eqlI rfl rfl).as (show _ = Value.bool false from congrArg Value.bool (decide_eq_false (by omega)))) (by decide) rfl ?_
        iterate 2 refine QD.ev T (by decide) rfl rfl ?_
        refine QD.nil (hZ _ ?_)
        clear hZ Z
        repeat (first | refine Run.seq ?_ | refine Run.cond_f rfl ?_)
        refine Run.regionO (D := [some 29, some 30, some 28]) [true, true, true] rfl rfl rfl (fun Z hZ => ?_)
        refine QD.ev T (by decide) rfl rfl ?_
        refine QD.e ((Ev.eqlI rfl rfl).as (show _ = Value.bool false from congrArg Value.bool (decide_eq_false (by omega)))) (by decide) rfl ?_
        refine QD.ev T (by decide) rfl rfl ?_
        refine QD.nil (hZ _ ?_)
        clear hZ Z
        repeat (first | refine Run.seq ?_ | refine Run.cond_f rfl ?_)
        refine Run.regionO (D := [some 40, some 41, some 39]) [true, true, true] rfl rfl rfl (fun Z hZ => ?_)
        refine QD.ev T (by decide) rfl rfl ?_
        refine QD.e (Ev.gtr rfl rfl) (by decide) rfl ?_
        refine QD.ev T (by decide) rfl rfl ?_
        refine QD.nil (hZ _ ?_)
        clear hZ Z
        repeat (first | refine Run.seq ?_ | refine Run.cond_f rfl ?_)
        refine Run.regionO (D := [some 43, some 44, some 45, some 46, some 47, some 48, some 42]) [true, true, true, true, true, true, true] rfl rfl rfl (fun Z hZ => ?_)
        refine QD.ev T (by decide) rfl rfl ?_
        refine QD.e ((Ev.geq rfl rfl).as (show _ = Value.bool true from congrArg Value.bool (decide_eq_true (by omega)))) (by decide) rfl ?_
        iterate 2 refine QD.ev T (by decide) rfl rfl ?_
        refine QD.e ((Ev.leq rfl rfl).as (show _ = Value.bool false from congrArg Value.bool (decide_eq_false (by omega)))) (by decide) rfl ?_
        iterate 2 refine QD.ev T (by decide) rfl rfl ?_
        refine QD.nil (hZ _ ?_)
        clear hZ Z
        repeat (first | refine Run.seq ?_ | refine Run.cond_f rfl ?_)
        refine Run.regionO (D := [some 52, some 53, some 54, some 55, some 56, some 57, some 51]) [true, true, true, true, true, true, true] rfl rfl rfl (fun Z hZ => ?_)
        refine QD.ev T (by decide) rfl rfl ?_
        refine QD.e ((Ev.geq rfl rfl).as (show _ = Value.bool true from congrArg Value.bool (decide_eq_true (by omega)))) (by decide) rfl ?_
        iterate 2 refine QD.ev T (by decide) rfl rfl ?_
        refine QD.e ((Ev.leq rfl rfl).as (show _ = Value.bool true from congrArg Value.bool (decide_eq_true (by omega)))) (by decide) rfl ?_
        iterate 2 refine QD.ev T (by decide) rfl rfl ?_
        refine QD.nil (hZ _ ?_)
        clear hZ Z
        refine Run.cond_t rfl ?_
        refine Run.regionO (D := [some 58, some 59, some 60, some 9]) [true, true, true, true] rfl rfl rfl (fun Z hZ => ?_)
        refine QD.ev T (by decide) rfl rfl ?_
        refine QD.e (Ev.subK (r := ((ch - 97 : Nat) : Int)) rfl rfl (by rw [wrap8]; omega)) (by decide) rfl ?_
        refine QD.e (Ev.addK (r := (n : Int)) rfl rfl (by rw [wrap8]; omega)) (by decide) rfl ?_
        refine QD.ev T (by decide) rfl rfl ?_
        refine QD.nil (hZ _ ?_)
        clear hZ Z
        refine Run.inBlock ?_
        refine Run.keep [9, 0, 2, 4, 5, 6, 7, 13, 14, 15] [_, _, _, _, _, _, _, _, _, _] rfl ?_
        exact hk'
      · skip
        refine Run.regionO (D := [some 22, some 23, some 24, some 25, some 26, some 27, some 21]) [true, true, true, true, true, true, true] rfl rfl rfl (fun Z hZ => ?_)
        refine QD.ev T (by decide) rfl rfl ?_
        refine QD.e ((Ev.eqlI rfl rfl).as (show _ = Value.bool false from congrArg Value.bool (decide_eq_false (by omega)))) (by decide) rfl ?_
        iterate 2 refine QD.ev T (by decide) rfl rfl ?_
        refine QD.e ((Ev.eqlI rfl rfl).as (show _ = Value.bool false from congrArg Value.bool (decide_eq_false (by omega)))) (by decide) rfl ?_
        iterate 2 refine QD.ev T (by decide) rfl rfl ?_
        refine QD.nil (hZ _ ?_)
        clear hZ Z
        repeat (first | refine Run.seq ?_ | refine Run.cond_f rfl ?_)
        refine Run.regionO (D := [some 29, some 30, some 28]) [true, true, true] rfl rfl rfl (fun Z hZ => ?_)
        refine QD.ev T (by decide) rfl rfl ?_
        refine QD.e ((Ev.eqlI rfl rfl).as (show _ = Value.bool false from congrArg Value.bool (decide_eq_false (by omega)))) (by decide) rfl ?_
        refine QD.ev T (by decide) rfl rfl ?_
        refine QD.nil (hZ _ ?_)
        clear hZ Z
        repeat (first | refine Run.seq ?_ | refine Run.cond_f rfl ?_)
        refine Run.regionO (D := [some 40, some 41, some 39]) [true, true, true] rfl rfl rfl (fun Z hZ => ?_)
        refine QD.ev T (by decide) rfl rfl ?_
        refine QD.e (Ev.gtr rfl rfl) (by decide) rfl ?_
        refine QD.ev T (by decide) rfl rfl ?_
        refine QD.nil (hZ _ ?_)
        clear hZ Z
        repeat (first | refine Run.seq ?_ | refine Run.cond_f rfl ?_)
        refine Run.regionO (D := [some 43, some 44, some 45, some 46, some 47, some 48, some 42]) [true, true, true, true, true, true, true] rfl rfl rfl (fun Z hZ => ?_)
        refine QD.ev T (by decide) rfl rfl ?_
        refine QD.e ((Ev.geq rfl rfl).as (show _ = Value.bool false from congrArg Value.bool (decide_eq_false (by omega)))) (by decide) rfl ?_
        refine QD.ev T (by decide) rfl rfl ?_
        iterate 2 refine QD.off (by decide) rfl ?_
        iterate 2 refine QD.ev T (by decide) rfl rfl ?_
        refine QD.nil (hZ _ ?_)
        clear hZ Z
        repeat (first | refine Run.seq ?_ | refine Run.cond_f rfl ?_)
        refine Run.regionO (D := [some 52, some 53, some 54, some 55, some 56, some 57, some 51]) [true, true, true, true, true, true, true] rfl rfl rfl (fun Z hZ => ?_)
        refine QD.ev T (by decide) rfl rfl ?_
        refine QD.e ((Ev.geq rfl rfl).as (show _ = Value.bool false from congrArg Value.bool (decide_eq_false (by omega)))) (by decide) rfl ?_
        refine QD.ev T (by decide) rfl rfl ?_
        iterate 2 refine QD.off (by decide) rfl ?_
        iterate 2 refine QD.ev T (by decide) rfl rfl ?_
        refine QD.nil (hZ _ ?_)
        clear hZ Z
        repeat (first | refine Run.seq ?_ | refine Run.cond_f rfl ?_)
        refine Run.regionO (D := [some 62, some 63, some 64, some 65, some 66, some 67, some 61]) [true, true, true, true, true, true, true] rfl rfl rfl (fun Z hZ => ?_)
        refine QD.ev T (by decide) rfl rfl ?_
        refine QD.e ((Ev.geq rfl rfl).as (show _ = Value.bool true from congrArg Value.bool (decide_eq_true (by omega)))) (by decide) rfl ?_
        iterate 2 refine QD.ev T (by decide) rfl rfl ?_
        refine QD.e ((Ev.leq rfl rfl).as (show _ = Value.bool true from congrArg Value.bool (decide_eq_true (by omega)))) (by decide) rfl ?_
        iterate 2 refine QD.ev T (by decide) rfl rfl ?_
        refine QD.nil (hZ _ ?_)
        clear hZ Z
        refine Run.cond_t rfl ?_
        refine Run.regionO (D := [some 68, some 69, some 70, some 9]) [true, true, true, true] rfl rfl rfl (fun Z hZ => ?_)
        refine QD.ev T (by decide) rfl rfl ?_
        refine QD.e (Ev.subK (r := ((ch - 48 : Nat) : Int)) rfl rfl (by rw [wrap8]; omega)) (by decide) rfl ?_
        refine QD.e (Ev.addK (r := (n : Int)) rfl rfl (by rw [wrap8]; omega)) (by decide) rfl ?_
        refine QD.ev T (by decide) rfl rfl ?_
        refine QD.nil (hZ _ ?_)
        clear hZ Z
        refine Run.inBlock ?_
        refine Run.keep [9, 0, 2, 4, 5, 6, 7, 13, 14, 15] [_, _, _, _, _, _, _, _, _, _] rfl ?_
        exact hk'
      · obtain ⟨rfl, rfl⟩ := hcls
        refine Run.regionO (D := [some 22, some 23, some 24, some 25, some 26, some 27, some 21]) [true, true, true, true, true, true, true] rfl rfl rfl (fun Z hZ => ?_)
        refine QD.ev T (by decide) rfl rfl ?_
        refine QD.e ((Ev.eqlI rfl rfl).as (show _ = Value.bool false from congrArg Value.bool (decide_eq_false (by omega)))) (by decide) rfl ?_
        iterate 2 refine QD.ev T (by decide) rfl rfl ?_
        refine QD.e ((Ev.eqlI rfl rfl).as (show _ = Value.bool false from congrArg Value.bool (decide_eq_false (by omega)))) (by decide) rfl ?_
        iterate 2 refine QD.ev T (by decide) rfl rfl ?_
        refine QD.nil (hZ _ ?_)
        clear hZ Z
        repeat (first | refine Run.seq ?_ | refine Run.cond_f rfl ?_)
        refine Run.regionO (D := [some 29, some 30, some 28]) [true, true, true] rfl rfl rfl (fun Z hZ => ?_)
        refine QD.ev T (by decide) rfl rfl ?_
        refine QD.e ((Ev.eqlI rfl rfl).as (show _ = Value.bool false from congrArg Value.bool (decide_eq_false (by omega)))) (by decide) rfl ?_
        refine QD.ev T (by decide) rfl rfl ?_
        refine QD.nil (hZ _ ?_)
        clear hZ Z
        repeat (first | refine Run.seq ?_ | refine Run.cond_f rfl ?_)
        refine Run.regionO (D := [some 40, some 41, some 39]) [true, true, true] rfl rfl rfl (fun Z hZ => ?_)
        refine QD.ev T (by decide) rfl rfl ?_
        refine QD.e (Ev.gtr rfl rfl) (by decide) rfl ?_
        refine QD.ev T (by decide) rfl rfl ?_
        refine QD.nil (hZ _ ?_)
        clear hZ Z
        repeat (first | refine Run.seq ?_ | refine Run.cond_f rfl ?_)
        refine Run.regionO (D := [some 43, some 44, some 45, some 46, some 47, some 48, some 42]) [true, true, true, true, true, true, true] rfl rfl rfl (fun Z hZ => ?_)
        refine QD.ev T (by decide) rfl rfl ?_
        refine QD.e ((Ev.geq rfl rfl).as (show _ = Value.bool false from congrArg Value.bool (decide_eq_false (by omega)))) (by decide) rfl ?_
        refine QD.ev T (by decide) rfl rfl ?_
        iterate 2 refine QD.off (by decide) rfl ?_
        iterate 2 refine QD.ev T (by decide) rfl rfl ?_
        refine QD.nil (hZ _ ?_)
        clear hZ Z
        repeat (first | refine Run.seq ?_ | refine Run.cond_f rfl ?_)
        refine Run.regionO (D := [some 52, some 53, some 54, some 55, some 56, some 57, some 51]) [true, true, true, true, true, true, true] rfl rfl rfl (fun Z hZ => ?_)
        refine QD.ev T (by decide) rfl rfl ?_
        refine QD.e ((Ev.geq rfl rfl).as (show _ = Value.bool false from congrArg Value.bool (decide_eq_false (by omega)))) (by decide) rfl ?_
        refine QD.ev T (by decide) rfl rfl ?_
        iterate 2 refine QD.off (by decide) rfl ?_
        iterate 2 refine QD.ev T (by decide) rfl rfl ?_
        refine QD.nil (hZ _ ?_)
        clear hZ Z
        repeat (first | refine Run.seq ?_ | refine Run.cond_f rfl ?_)
        refine Run.regionO (D := [some 62, some 63, some 64, some 65, some 66, some 67, some 61]) [true, true, true, true, true, true, true] rfl rfl rfl (fun Z hZ => ?_)
        refine QD.ev T (by decide) rfl rfl ?_
        refine QD.e ((Ev.geq rfl rfl).as (show _ = Value.bool false from congrArg Value.bool (decide_eq_false (by omega)))) (by decide) rfl ?_
        refine QD.ev T (by decide) rfl rfl ?_
        iterate 2 refine QD.off (by decide) rfl ?_
        iterate 2 refine QD.ev T (by decide) rfl rfl ?_
        refine QD.nil (hZ _ ?_)
        clear hZ Z
        repeat (first | refine Run.seq ?_ | refine Run.cond_f rfl ?_)
        refine Run.regionO (D := [some 72, some 73, some 71]) [true, true, true] rfl rfl rfl (fun Z hZ => ?_)
        refine QD.ev T (by decide) rfl rfl ?_
        refine QD.e (Ev.eqlI rfl rfl) (by decide) rfl ?_
        refine QD.ev T (by decide) rfl rfl ?_
        refine QD.nil (hZ _ ?_)
        clear hZ Z
        refine Run.cond_t rfl ?_
        refine Run.regionO (D := [some 9]) [true] rfl rfl rfl (fun Z hZ => ?_)
        refine QD.ev T (by decide) rfl rfl ?_
        refine QD.nil (hZ _ ?_)
        clear hZ Z
        refine Run.inBlock ?_
        refine Run.keep [9, 0, 2, 4, 5, 6, 7, 13, 14, 15] [_, _, _, _, _, _, _, _, _, _] rfl ?_
        exact hk'
      · obtain ⟨rfl, rfl⟩ := hcls
        refine Run.regionO (D := [some 22, some 23, some 24, some 25, some 26, some 27, some 21]) [true, true, true, true, true, true, true] rfl rfl rfl (fun Z hZ => ?_)
        refine QD.ev T (by decide) rfl rfl ?_
        refine QD.e ((Ev.eqlI rfl rfl).as (show _ = Value.bool false from congrArg Value.bool (decide_eq_false (by omega)))) (by decide) rfl ?_
        iterate 2 refine QD.ev T (by decide) rfl rfl ?_
        refine QD.e ((Ev.eqlI rfl rfl).as (show _ = Value.bool false from congrArg Value.bool (decide_eq_false (by omega)))) (by decide) rfl ?_
        iterate 2 refine QD.ev T (by decide) rfl rfl ?_
        refine QD.nil (hZ _ ?_)
        clear hZ Z
        repeat (first | refine Run.seq ?_ | refine Run.cond_f rfl ?_)
        refine Run.regionO (D := [some 29, some 30, some 28]) [true, true, true] rfl rfl rfl (fun Z hZ => ?_)
        refine QD.ev T (by decide) rfl rfl ?_
        refine QD.e ((Ev.eqlI rfl rfl).as (show _ = Value.bool false from congrArg Value.bool (decide_eq_false (by omega)))) (by decide) rfl ?_
        refine QD.ev T (by decide) rfl rfl ?_
        refine QD.nil (hZ _ ?_)
        clear hZ Z
        repeat (first | refine Run.seq ?_ | refine Run.cond_f rfl ?_)
        refine Run.regionO (D := [some 40, some 41, some 39]) [true, true, true] rfl rfl rfl (fun Z hZ => ?_)
        refine QD.ev T (by decide) rfl rfl ?_
        refine QD.e (Ev.gtr rfl rfl) (by decide) rfl ?_
        refine QD.ev T (by decide) rfl rfl ?_
        refine QD.nil (hZ _ ?_)
        clear hZ Z
        repeat (first | refine Run.seq ?_ | refine Run.cond_f rfl ?_)
        refine Run.regionO (D := [some 43, some 44, some 45, some 46, some 47, some 48, some 42]) [true, true, true, true, true, true, true] rfl rfl rfl (fun Z hZ => ?_)
        refine QD.ev T (by decide) rfl rfl ?_
        refine QD.e ((Ev.geq rfl rfl).as (show _ = Value.bool false from congrArg Value.bool (decide_eq_false (by omega)))) (by decide) rfl ?_
        refine QD.ev T (by decide) rfl rfl ?_
        iterate 2 refine QD.off (by decide) rfl ?_
        iterate 2 refine QD.ev T (by decide) rfl rfl ?_
        refine QD.nil (hZ _ ?_)
        clear hZ Z
        repeat (first | refine Run.seq ?_ | refine Run.cond_f rfl ?_)
        refine Run.regionO (D := [some 52, some 53, some 54, some 55, some 56, some 57, some 51]) [true, true, true, true, true, true, true] rfl rfl rfl (fun Z hZ => ?_)
        refine QD.ev T (by decide) rfl rfl ?_
        refine QD.e ((Ev.geq rfl rfl).as (show _ = Value.bool false from congrArg Value.bool (decide_eq_false (by omega)))) (by decide) rfl ?_
        refine QD.ev T (by decide) rfl rfl ?_
        iterate 2 refine QD.off (by decide) rfl ?_
        iterate 2 refine QD.ev T (by decide) rfl rfl ?_
        refine QD.nil (hZ _ ?_)
        clear hZ Z
        repeat (first | refine Run.seq ?_ | refine Run.cond_f rfl ?_)
        refine Run.regionO (D := [some 62, some 63, some 64, some 65, some 66, some 67, some 61]) [true, true, true, true, true, true, true] rfl rfl rfl (fun Z hZ => ?_)
        refine QD.ev T (by decide) rfl rfl ?_
        refine QD.e ((Ev.geq rfl rfl).as (show _ = Value.bool false from congrArg Value.bool (decide_eq_false (by omega)))) (by decide) rfl ?_
        refine QD.ev T (by decide) rfl rfl ?_
        iterate 2 refine QD.off (by decide) rfl ?_
        iterate 2 refine QD.ev T (by decide) rfl rfl ?_
        refine QD.nil (hZ _ ?_)
        clear hZ Z
        repeat (first | refine Run.seq ?_ | refine Run.cond_f rfl ?_)
        refine Run.regionO (D := [some 72, some 73, some 71]) [true, true, true] rfl rfl rfl (fun Z hZ => ?_)
        refine QD.ev T (by decide) rfl rfl ?_
        refine QD.e (Ev.eqlI rfl rfl) (by decide) rfl ?_
        refine QD.ev T (by decide) rfl rfl ?_
        refine QD.nil (hZ _ ?_)
        clear hZ Z
        repeat (first | refine Run.seq ?_ | refine Run.cond_f rfl ?_)
        refine Run.regionO (D := [some 75, some 76, some 74]) [true, true, true] rfl rfl rfl (fun Z hZ => ?_)
        refine QD.ev T (by decide) rfl rfl ?_
        refine QD.e (Ev.eqlI rfl rfl) (by decide) rfl ?_
        refine QD.ev T (by decide) rfl rfl ?_
        refine QD.nil (hZ _ ?_)
        clear hZ Z
        refine Run.cond_t rfl ?_
        refine Run.regionO (D := [some 9]) [true] rfl rfl rfl (fun Z hZ => ?_)
        refine QD.ev T (by decide) rfl rfl ?_
        refine QD.nil (hZ _ ?_)
        clear hZ Z
        refine Run.inBlock ?_
        refine Run.keep [9, 0, 2, 4, 5, 6, 7, 13, 14, 15] [_, _, _, _, _, _, _, _, _, _] rfl ?_
        exact hk'
    clear hcls hch
    clear ch
    refine Run.seq ?_
    refine Run.regionP (D := [some 77, some 78, some 79, none]) [true, true, true] 3 rfl rfl rfl (by simp only [List.drop_succ_cons, List.drop_zero]; rfl) (fun Z hZ => ?_)
    iterate 2 refine QD.ev T (by decide) rfl rfl ?_
    refine QD.e (Ev.indexP T rfl rfl rfl rfl (by first | omega | (simp only [List.length_cons, List.length_nil] ; omega) | (simp; omega)) (by first | omega | (simp only [List.length_cons, List.length_nil] ; omega) | (simp; omega))) (by decide) rfl ?_
    refine QD.nil (hZ _ ?_)
    clear hZ Z
    refine Ops.store 0 rfl rfl rfl rfl rfl (T.sizeOk rfl) rfl (Nat.le_of_ble_eq_true rfl) rfl rfl ?_
    refine Ops.nil ?_
    repeat refine Run.seq ?_
    refine Run.regionO (D := [some 80, some 81, some 5]) [true, true, true] rfl rfl rfl (fun Z hZ => ?_)
    refine QD.ev T (by decide) rfl rfl ?_
    refine QD.e (Ev.addI rfl rfl (wI (by first | omega | (simp only [List.length_cons, List.length_nil] ; omega) | (simp; omega)) (by first | omega | (simp only [List.length_cons, List.length_nil] ; omega) | (simp; omega)))) (by decide) rfl ?_
    refine QD.ev T (by decide) rfl rfl ?_
    refine QD.nil (hZ _ ?_)
    clear hZ Z
    refine Run.seq ?_
    refine Run.regionO (D := [some 82, some 83]) [true, true] rfl rfl rfl (fun Z hZ => ?_)
    refine QD.ev T (by decide) rfl rfl ?_
    refine QD.e (Ev.lss rfl rfl) (by decide) rfl ?_
    refine QD.nil (hZ _ ?_)
    clear hZ Z
    repeat (first | refine Run.exit rfl ?_ | refine Run.cond_t rfl ?_)
    refine Run.regionO (D := [some 131, some 15]) [true, true] rfl rfl rfl (fun Z hZ => ?_)
    refine QD.e (Ev.addK (r := ((i + 3 : Nat) : Int)) rfl rfl (by rw [wI (by omega) (by omega)]; omega)) (by decide) rfl ?_
    refine QD.ev T (by decide) rfl rfl ?_
    refine QD.nil (hZ _ ?_)
    clear hZ Z
    skip
    refine Run.keep [0, 2, 4, 5, 6, 13, 14, 15] [_, _, _, _, _, _, _, _] rfl ?_
    refine Run.inLoop ?_
    refine Run.seq ?_
    refine Run.regionO (D := [some 16]) [true] rfl rfl rfl (fun Z hZ => ?_)
    refine QD.e ((Ev.lss rfl rfl).as (show _ = Value.bool true from congrArg Value.bool (decide_eq_true (by omega)))) (by decide) rfl ?_
    refine QD.nil (hZ _ ?_)
    clear hZ Z
    repeat (first | refine Run.seq ?_ | refine Run.skip ?_ | refine Run.block ?_ | refine Run.cond_t rfl ?_)
    refine Run.regionO (D := [some 17, some 7]) [true, true] rfl rfl rfl (fun Z hZ => ?_)
    iterate 2 refine QD.ev T (by decide) rfl rfl ?_
    refine QD.nil (hZ _ ?_)
    clear hZ Z
    refine Run.seq ?_
    refine Run.regionO (D := [some 18, some 19, some 20, some 8]) [true, true, true, true] rfl rfl rfl (fun Z hZ => ?_)
    iterate 2 refine QD.ev T (by decide) rfl rfl ?_
    refine QD.e ((Ev.indexT (s := s) T rfl rfl rfl (by omega) (by omega)).as (show _ = Value.int .u8 61 from by show Value.int .u8 (((s.getD _ 0).toNat : Nat) : Int) = _; rw [show (((i + 3 : Nat) : Int)).toNat = i + 3 by omega, show s.getD (i + 3) 0 = 61 from g3]; rfl)) (by decide) rfl ?_
    refine QD.ev T (by decide) rfl rfl ?_
    refine QD.nil (hZ _ ?_)
    clear hZ Z
    refine Run.seq ?_
    refine Run.regionO (D := [some 9]) [true] rfl rfl rfl (fun Z hZ => ?_)
    refine QD.ev T (by decide) rfl rfl ?_
    refine QD.nil (hZ _ ?_)
    clear hZ Z
    repeat (first | refine Run.seq ?_ | refine Run.block ?_)
    refine Run.regionO (D := [some 22, some 23, some 24, some 25, some 26, some 27, some 21]) [true, true, true, true, true, true, true] rfl rfl rfl (fun Z hZ => ?_)
    refine QD.ev T (by decide) rfl rfl ?_
    refine QD.e (Ev.eqlI rfl rfl) (by decide) rfl ?_
    iterate 2 refine QD.ev T (by decide) rfl rfl ?_
    refine QD.e (Ev.eqlI rfl rfl) (by decide) rfl ?_
    iterate 2 refine QD.ev T (by decide) rfl rfl ?_
    refine QD.nil (hZ _ ?_)
    clear hZ Z
    repeat (first | refine Run.seq ?_ | refine Run.cond_f rfl ?_)
    refine Run.regionO (D := [some 29, some 30, some 28]) [true, true, true] rfl rfl rfl (fun Z hZ => ?_)
    refine QD.ev T (by decide) rfl rfl ?_
    refine QD.e (Ev.eqlI rfl rfl) (by decide) rfl ?_
    refine QD.ev T (by decide) rfl rfl ?_
    refine QD.nil (hZ _ ?_)
    clear hZ Z
    repeat (first | refine Run.seq ?_ | refine Run.cond_t rfl ?_)
    refine Run.regionO (D := [some 31, some 32, some 6]) [true, true, true] rfl rfl rfl (fun Z hZ => ?_)
    refine QD.ev T (by decide) rfl rfl ?_
    refine QD.e (Ev.addI rfl rfl (wI (by first | omega | (simp only [List.length_cons, List.length_nil] ; omega) | (simp; omega)) (by first | omega | (simp only [List.length_cons, List.length_nil] ; omega) | (simp; omega)))) (by decide) rfl ?_
    refine QD.ev T (by decide) rfl rfl ?_
    refine QD.nil (hZ _ ?_)
    clear hZ Z
    refine Run.seq ?_
    refine Run.regionO (D := [some 33, some 34, some 35, some 36, some 37, some 38]) [true, true, true, true, true, true] rfl rfl rfl (fun Z hZ => ?_)
    refine QD.ev T (by decide) rfl rfl ?_
    refine QD.e (Ev.lss rfl rfl) (by decide) rfl ?_
    iterate 2 refine QD.ev T (by decide) rfl rfl ?_
    refine QD.e (Ev.gtr rfl rfl) (by decide) rfl ?_
    refine QD.ev T (by decide) rfl rfl ?_
    refine QD.nil (hZ _ ?_)
    clear hZ Z
    repeat (first | refine Run.seq ?_ | refine Run.skip ?_ | refine Run.inBlock ?_ | refine Run.cond_f rfl ?_)
    skip
    refine Run.regionP (D := [some 77, some 78, some 79, none]) [true, true, true] 3 rfl rfl rfl (by simp only [List.drop_succ_cons, List.drop_zero]; rfl) (fun Z hZ => ?_)
    iterate 2 refine QD.ev T (by decide) rfl rfl ?_
    refine QD.e (Ev.indexP T rfl rfl rfl rfl (by first | omega | (simp only [List.length_cons, List.length_nil] ; omega) | (simp; omega)) (by first | omega | (simp only [List.length_cons, List.length_nil] ; omega) | (simp; omega))) (by decide) rfl ?_
    refine QD.nil (hZ _ ?_)
    clear hZ Z
    refine Ops.store 0 rfl rfl rfl rfl rfl (T.sizeOk rfl) rfl (Nat.le_of_ble_eq_true rfl) rfl rfl ?_
    refine Ops.nil ?_
    repeat refine Run.seq ?_
    refine Run.regionO (D := [some 80, some 81, some 5]) [true, true, true] rfl rfl rfl (fun Z hZ => ?_)
    refine QD.ev T (by decide) rfl rfl ?_
    refine QD.e (Ev.addI rfl rfl (wI (by first | omega | (simp only [List.length_cons, List.length_nil] ; omega) | (simp; omega)) (by first | omega | (simp only [List.length_cons, List.length_nil] ; omega) | (simp; omega)))) (by decide) rfl ?_
    refine QD.ev T (by decide) rfl rfl ?_
    refine QD.nil (hZ _ ?_)
    clear hZ Z
    refine Run.seq ?_
    refine Run.regionO (D := [some 82, some 83]) [true, true] rfl rfl rfl (fun Z hZ => ?_)
    refine QD.ev T (by decide) rfl rfl ?_
    refine QD.e (Ev.lss rfl rfl) (by decide) rfl ?_
    refine QD.nil (hZ _ ?_)
    clear hZ Z
    repeat (first | refine Run.seq ?_ | refine Run.skip ?_ | refine Run.cond_f rfl ?_)
    generalize hf0 : a.toNat / 4 = f0 at *
    generalize hf1 : a.toNat % 4 * 16 + b.toNat / 16 = f1 at *
    generalize hf2 : b.toNat % 16 * 4 = f2 at *
    generalize hA : a.toNat = A at *
    generalize hB' : b.toNat = B at *
    obtain ⟨g0', g1', g2', g3'⟩ : (f0 = A / 4 ∧ A < 256) ∧ (f1 = A % 4 * 16 + B / 16 ∧ B < 256) ∧ (f2 = B % 16 * 4 + 0 / 64 ∧ 0 < 256) ∧ 0 = 0 % 64 := by omega
    have q1 : f0 * 4 % 256 = A / 4 * 2 ^ 2 := by omega
    have q2 : f1 / 2 ^ 4 = A % 4 := by omega
    have q3 : f1 * 16 % 256 = B / 16 * 2 ^ 4 := by omega
    have q4 : f2 / 2 ^ 2 = B % 16 := by omega
    have q5 : f2 * 64 % 256 = 0 / 64 * 2 ^ 6 := by omega
    have r1 : f0 * 4 % 256 ||| f1 / 2 ^ 4 = A := by rw [q1, q2, orSh 2 (by omega)]; try omega
    have r2 : f1 * 16 % 256 ||| f2 / 2 ^ 2 = B := by rw [q3, q4, orSh 4 (by omega)]; try omega
    have r3 : f2 * 64 % 256 ||| 0 = 0 := by rw [q5, g3', orSh 6 (by omega)]; try omega
    have s1 := shl8_2m f0
    have s2 := shl8_4m f1
    have s3 := shl8_6m f2
    have s4 := shrL f1 4
    have s5 := shrL f2 2
    generalize f0 * 4 % 256 = y1 at *
    generalize f1 * 16 % 256 = y2 at *
    generalize f2 * 64 % 256 = y3 at *
    refine Run.regionP (D := [some 84, some 85, some 86, some 87, some 88, some 89, some 90, some 91, some 92, some 93, some 94, some 95, some 96, some 97, some 98, some 99, some 100, some 101, some 102, some 103, some 104, some 10]) [true, true, true, true, true, true, true, true, true, true, true, true, true, true, true, true, true, true, true, true] 20 rfl rfl rfl (by simp only [List.drop_succ_cons, List.drop_zero]; rfl) (fun Z hZ => ?_)
    refine QD.e (Ev.indexP T rfl rfl rfl rfl (by first | omega | (simp only [List.length_cons, List.length_nil] ; omega) | (simp; omega)) (by first | omega | (simp only [List.length_cons, List.length_nil] ; omega) | (simp; omega))) (by decide) rfl ?_
    refine QD.yv (by decide) rfl (Yv.load 0 T rfl rfl rfl rfl) ?_
    refine QD.e (Ev.shlK rfl rfl (by decide) (by decide) s1) (by decide) rfl ?_
    refine QD.e (Ev.indexP T rfl rfl rfl rfl (by first | omega | (simp only [List.length_cons, List.length_nil] ; omega) | (simp; omega)) (by first | omega | (simp only [List.length_cons, List.length_nil] ; omega) | (simp; omega))) (by decide) rfl ?_
    refine QD.yv (by decide) rfl (Yv.load 0 T rfl rfl rfl rfl) ?_
    refine QD.e (Ev.shrK rfl rfl (by decide) (by decide) s4) (by decide) rfl ?_
    refine QD.e (Ev.orK (a := y1) (b := f1 / 2 ^ 4) (c := A) rfl rfl (by show _ < 256; omega) (by show _ < 256; omega) r1 (wrapN8 (by omega))) (by decide) rfl ?_
    refine QD.e (Ev.indexP T rfl rfl rfl rfl (by first | omega | (simp only [List.length_cons, List.length_nil] ; omega) | (simp; omega)) (by first | omega | (simp only [List.length_cons, List.length_nil] ; omega) | (simp; omega))) (by decide) rfl ?_
    refine QD.yv (by decide) rfl (Yv.load 0 T rfl rfl rfl rfl) ?_
    refine QD.e (Ev.shlK rfl rfl (by decide) (by decide) s2) (by decide) rfl ?_
    refine QD.e (Ev.indexP T rfl rfl rfl rfl (by first | omega | (simp only [List.length_cons, List.length_nil] ; omega) | (simp; omega)) (by first | omega | (simp only [List.length_cons, List.length_nil] ; omega) | (simp; omega))) (by decide) rfl ?_
    refine QD.yv (by decide) rfl (Yv.load 0 T rfl rfl rfl rfl) ?_
    refine QD.e (Ev.shrK rfl rfl (by decide) (by decide) s5) (by decide) rfl ?_
    refine QD.e (Ev.orK (a := y2) (b := f2 / 2 ^ 2) (c := B) rfl rfl (by show _ < 256; omega) (by show _ < 256; omega) r2 (wrapN8 (by omega))) (by decide) rfl ?_
    refine QD.e (Ev.indexP T rfl rfl rfl rfl (by first | omega | (simp only [List.length_cons, List.length_nil] ; omega) | (simp; omega)) (by first | omega | (simp only [List.length_cons, List.length_nil] ; omega) | (simp; omega))) (by decide) rfl ?_
    refine QD.yv (by decide) rfl (Yv.load 0 T rfl rfl rfl rfl) ?_
    refine QD.e (Ev.shlK rfl rfl (by decide) (by decide) s3) (by decide) rfl ?_
    refine QD.e (Ev.indexP T rfl rfl rfl rfl (by first | omega | (simp only [List.length_cons, List.length_nil] ; omega) | (simp; omega)) (by first | omega | (simp only [List.length_cons, List.length_nil] ; omega) | (simp; omega))) (by decide) rfl ?_
    refine QD.yv (by decide) rfl (Yv.load 0 T rfl rfl rfl rfl) ?_
    refine QD.e (Ev.orK (a := y3) (b := 0) (c := 0) rfl rfl (by show _ < 256; omega) (by show _ < 256; omega) r3 (wrapN8 (by omega))) (by decide) rfl ?_
    refine QD.nil (hZ _ ?_)
    clear hZ Z
    refine Ops.lit T rfl rfl rfl (by decide) rfl (by decide) (by decide) rfl rfl rfl rfl rfl (fun bq => ?_)
    refine Ops.pure T rfl (by decide) rfl ?_
    refine Ops.nil ?_
    refine Run.seq ?_
    subst hA
    subst hB'
    refine Run.regionP (D := [some 105, some 106, some 107, some 108, some 109, some 110, some 2]) [true, true, true, true, true] 5 rfl rfl rfl (by simp only [List.drop_succ_cons, List.drop_zero]; rfl) (fun Z hZ => ?_)
    iterate 3 refine QD.ev T (by decide) rfl rfl ?_
    refine QD.e (Ev.subI rfl rfl (wI (by first | omega | (simp only [List.length_cons, List.length_nil] ; omega) | (simp; omega)) (by first | omega | (simp only [List.length_cons, List.length_nil] ; omega) | (simp; omega)))) (by decide) rfl ?_
    refine QD.e (Ev.sliceHi' T rfl rfl rfl rfl (by first | omega | (simp only [List.length_cons, List.length_nil] ; omega) | (simp; omega)) (by first | omega | (simp only [List.length_cons, List.length_nil] ; omega) | (simp; omega))) (by decide) rfl ?_
    refine QD.nil (hZ _ ?_)
    clear hZ Z
    refine Ops.appBuf (M := M) (N := [(bq, _), (b4, _)]) (ys := [a, b]) btB hB rfl (by decide) rfl rfl (List.perm_append_comm (l₁ := [_, _]) (l₂ := M)) (fun W hi => src_own (pre := []) (post := [.int .u8 0]) (ys := [a, b]) btB.el.under hi List.mem_cons_self) (by simp only [List.length_cons, List.length_nil]; omega) fun v3 M3 hB3 => ?_
    refine Ops.perm (List.perm_append_comm (l₁ := M3) (l₂ := [_, _])) ?_
    refine Ops.pure T rfl (by decide) rfl ?_
    refine Ops.nil ?_
    refine Run.seq ?_
    refine Run.regionO (D := [some 5]) [true] rfl rfl rfl (fun Z hZ => ?_)
    refine QD.ev T (by decide) rfl rfl ?_
    refine QD.nil (hZ _ ?_)
    clear hZ Z
    refine Run.seq ?_
    refine Run.regionO (D := [some 111, some 112]) [true, true] rfl rfl rfl (fun Z hZ => ?_)
    refine QD.ev T (by decide) rfl rfl ?_
    refine QD.e (Ev.gtr rfl rfl) (by decide) rfl ?_
    refine QD.nil (hZ _ ?_)
    clear hZ Z
    repeat (first | refine Run.seq ?_ | refine Run.cond_t rfl ?_)
    refine Run.regionP (D := [some 113, some 114, some 115, some 116, some 117, some 118, some 119]) [true, true, true, true] 4 rfl rfl rfl (by simp only [List.drop_succ_cons, List.drop_zero]; rfl) (fun Z hZ => ?_)
    iterate 2 refine QD.ev T (by decide) rfl rfl ?_
    refine QD.e (Ev.addK (r := ((i + 4 : Nat) : Int)) rfl rfl (by rw [wI (by omega) (by omega)]; omega)) (by decide) rfl ?_
    refine QD.e ((Ev.cutSLo (j := ((i + 4 : Nat) : Int)) T rfl rfl rfl (by omega) (by omega)).as (show _ = str [] from congrArg str (List.drop_eq_nil_of_le (by omega)))) (by decide) rfl ?_
    refine QD.nil (hZ _ ?_)
    clear hZ Z
    refine Ops.convBytes T rfl (by decide) rfl rfl rfl rfl fun v4 J4 l4 hv4 => ?_
    obtain ⟨A4, c4, rfl⟩ := hv4.isSl
    iterate 2 refine Ops.pure T rfl (by decide) rfl ?_
    refine Ops.nil ?_
    refine Run.block ?_
    refine Run.loop ?_
    refine Run.seq ?_
    refine Run.regionO (D := [some 120]) [true] rfl rfl rfl (fun Z hZ => ?_)
    refine QD.e ((Ev.lss rfl rfl).as (show _ = Value.bool false from congrArg Value.bool (decide_eq_false (by simp)))) (by decide) rfl ?_
    refine QD.nil (hZ _ ?_)
    clear hZ Z
    repeat (first | refine Run.seq ?_ | refine Run.exit rfl ?_ | refine Run.cond_f rfl ?_)
    refine Run.regionO (D := [some 130, some 2, some 3]) [true, true, true] rfl rfl rfl (fun Z hZ => ?_)
    iterate 3 refine QD.ev T (by decide) rfl rfl ?_
    refine QD.nil (hZ _ ?_)
    clear hZ Z
    skip
    refine Run.keepB (M := M3) (N := [(bq, _), (b4, _)]) hB3 (List.perm_append_comm (l₁ := [_, _]) (l₂ := M3)) fun J5 l5 hv => ?_
    refine Run.fin (Run.ret2 (by rw [hCf]; exact Proofs.Tryd.func48) Proofs.Tryd.results48 rfl rfl (hR _ _ _ ?_))
    exact ⟨rfl, _, rfl, by rw [← hout]; exact hv⟩
  | a :: b :: c :: t, hd, hdl, hget, hout =>
    have g0 := hget 0
    have g1 := hget 1
    have g2 := hget 2
    have g3 := hget 3
    simp only [List.length_cons] at hdl
    have la := a.toNat_lt
    have lb := b.toNat_lt
    have lc := c.toNat_lt
    refine Run.regionO (D := [some 16]) [true] rfl rfl rfl (fun Z hZ => ?_)
    refine QD.e ((Ev.lss rfl rfl).as (show _ = Value.bool true from congrArg Value.bool (decide_eq_true (by omega)))) (by decide) rfl ?_
    refine QD.nil (hZ _ ?_)
    clear hZ Z
    repeat (first | refine Run.seq ?_ | refine Run.skip ?_ | refine Run.block ?_ | refine Run.cond_t rfl ?_)
    refine Run.regionO (D := [some 17, some 7]) [true, true] rfl rfl rfl (fun Z hZ => ?_)
    iterate 2 refine QD.ev T (by decide) rfl rfl ?_
    refine QD.nil (hZ _ ?_)
    clear hZ Z
    refine Run.seq ?_
    obtain ⟨ch, hch, hcls⟩ : ∃ ch, (b64c (a.toNat / 4)).toNat = ch ∧ cls ch (a.toNat / 4) := ⟨_, rfl, cls_c (by omega)⟩
    refine Run.regionO (D := [some 18, some 19, some 20, some 8]) [true, true, true, true] rfl rfl rfl (fun Z hZ => ?_)
    iterate 2 refine QD.ev T (by decide) rfl rfl ?_
    refine QD.e ((Ev.indexT (s := s) T rfl rfl rfl (by omega) (by omega)).as (show _ = Value.int .u8 ((ch : Nat) : Int) from by show Value.int .u8 (((s.getD _ 0).toNat : Nat) : Int) = _; rw [show (((i : Nat) : Int)).toNat = i by omega, show s.getD i 0 = b64c (a.toNat / 4) from g0, hch])) (by decide) rfl ?_
    refine QD.ev T (by decide) rfl rfl ?_
    refine QD.nil (hZ _ ?_)
    clear hZ Z
    refine Run.seq ?_
    refine Run.regionO (D := [some 9]) [true] rfl rfl rfl (fun Z hZ => ?_)
    refine QD.ev T (by decide) rfl rfl ?_
    refine QD.nil (hZ _ ?_)
    clear hZ Z
    refine Run.keep [0, 2, 4, 5, 6, 7, 8, 9, 13, 14, 15] [_, _, _, _, _, _, _, _, _, _, _] rfl ?_
    repeat (refine Run.seq ?_)
    refine Run.pieceV [0, 2, 4, 5, 6, 7, 13, 14, 15] [_, _, _, _, _, _, _, _, _] 9 (.int .u8 (((a.toNat / 4 : Nat)) : Int)) rfl (fun k' hk' => ?_) ?_
    · refine Run.block ?_
      refine Run.seq ?_
      generalize hn : (a.toNat / 4 : Nat) = n at *
      rcases hcls with hcls | hcls | hcls | hcls | hcls
      · skip
        refine Run.regionO (D := [some 22, some 23, some 24, some 25, some 26, some 27, some 21]) [true, true, true, true, true, true, true] rfl rfl rfl (fun Z hZ => ?_)
        refine QD.ev T (by decide) rfl rfl ?_
        refine QD.e ((Ev.eqlI rfl rfl).as (show _ = Value.bool false from congrArg Value.bool (decide_eq_false (by omega)))) (by decide) rfl ?_
        iterate 2 refine QD.ev T (by decide) rfl rfl ?_
        refine QD.e ((Ev.eqlI rfl rfl).as (show _ = Value.bool false from congrArg Value.bool (decide_eq_false (by omega)))) (by decide) rfl ?_
        iterate 2 refine QD.ev T (by decide) rfl rfl ?_
        refine QD.nil (hZ _ ?_)
        clear hZ Z
        repeat (first | refine Run.seq ?_ | refine Run.cond_f rfl ?_)
        refine Run.regionO (D := [some 29, some 30, some 28]) [true, true, true] rfl rfl rfl (fun Z hZ => ?_)
        refine QD.ev T (by decide) rfl rfl ?_
        refine QD.e ((Ev.eqlI rfl rfl).as (show _ = Value.bool false from congrArg Value.bool (decide_eq_false (by omega)))) (by decide) rfl ?_
        refine QD.ev T (by decide) rfl rfl ?_
        refine QD.nil (hZ _ ?_)
        clear hZ Z
        repeat (first | refine Run.seq ?_ | refine Run.cond_f rfl ?_)
        refine Run.regionO (D := [some 40, some 41, some 39]) [true, true, true] rfl rfl rfl (fun Z hZ => ?_)
        refine QD.ev T (by decide) rfl rfl ?_
        refine QD.e (Ev.gtr rfl rfl) (by decide) rfl ?_
        refine QD.ev T (by decide) rfl rfl ?_
        refine QD.nil (hZ _ ?_)
        clear hZ Z
        repeat (first | refine Run.seq ?_ | refine Run.cond_f rfl ?_)
        refine Run.regionO (D := [some 43, some 44, some 45, some 46, some 47, some 48, some 42]) [true, true, true, true, true, true, true] rfl rfl rfl (fun Z hZ => ?_)
        refine QD.ev T (by decide) rfl rfl ?_
        refine QD.e ((Ev.geq rfl rfl).as (show _ = Value.bool true from congrArg Value.bool (decide_eq_true (by omega)))) (by decide) rfl ?_
        iterate 2 refine QD.ev T (by decide) rfl rfl ?_
        refine QD.e ((Ev.leq rfl rfl).as (show _ = Value.bool true from congrArg Value.bool (decide_eq_true (by omega)))) (by decide) rfl ?_
        iterate 2 refine QD.ev T (by decide) rfl rfl ?_
        refine QD.nil (hZ _ ?_)
        clear hZ Z
        refine Run.cond_t rfl ?_
        refine Run.regionO (D := [some 49, some 50, some 9]) [true, true, true] rfl rfl rfl (fun Z hZ => ?_)
        refine QD.ev T (by decide) rfl rfl ?_
        refine QD.e (Ev.subK (r := (n : Int)) rfl rfl (by rw [wrap8]; omega)) (by decide) rfl ?_
        refine QD.ev T (by decide) rfl rfl ?_
        refine QD.nil (hZ _ ?_)
        clear hZ Z
        refine Run.inBlock ?_
        refine Run.keep [9, 0, 2, 4, 5, 6, 7, 13, 14, 15] [_, _, _, _, _, _, _, _, _, _] rfl ?_
        exact hk'
      · skip
        refine Run.regionO (D := [some 22, some 23, some 24, some 25, some 26, some 27, some 21]) [true, true, true, true, true, true, true] rfl rfl rfl (fun Z hZ => ?_)
        refine QD.ev T (by decide) rfl rfl ?_
        refine QD.e ((Ev.eqlI rfl rfl).as (show _ = Value.bool false from congrArg Value.bool (decide_eq_false (by omega)))) (by decide) rfl ?_
        iterate 2 refine QD.ev T (by decide) rfl rfl ?_
        refine QD.e ((Ev.eqlI rfl rfl).as (show _ = Value.bool false from congrArg Value.bool (decide_eq_false (by omega)))) (by decide) rfl ?_
        iterate 2 refine QD.ev T (by decide) rfl rfl ?_
        refine QD.nil (hZ _ ?_)
        clear hZ Z
        repeat (first | refine Run.seq ?_ | refine Run.cond_f rfl ?_)
        refine Run.regionO (D := [some 29, some 30, some 28]) [true, true, true] rfl rfl rfl (fun Z hZ => ?_)
        refine QD.ev T (by decide) rfl rfl ?_
        refine QD.e ((Ev.eqlI rfl rfl).as (show _ = Value.bool false from congrArg Value.bool (decide_eq_false (by omega)))) (by decide) rfl ?_
        refine QD.ev T (by decide) rfl rfl ?_
        refine QD.nil (hZ _ ?_)
        clear hZ Z
        repeat (first | refine Run.seq ?_ | refine Run.cond_f rfl ?_)
        refine Run.regionO (D := [some 40, some 41, some 39]) [true, true, true] rfl rfl rfl (fun Z hZ => ?_)
        refine QD.ev T (by decide) rfl rfl ?_
        refine QD.e (Ev.gtr rfl rfl) (by decide) rfl ?_
        refine QD.ev T (by decide) rfl rfl ?_
        refine QD.nil (hZ _ ?_)
        clear hZ Z
        repeat (first | refine Run.seq ?_ | refine Run.cond_f rfl ?_)
        refine Run.regionO (D := [some 43, some 44, some 45, some 46, some 47, some 48, some 42]) [true, true, true, true, true, true, true] rfl rfl rfl (fun Z hZ => ?_)
        refine QD.ev T (by decide) rfl rfl ?_
        refine QD.e ((Ev.geq rfl rfl).as (show _ = Value.bool true from congrArg Value.bool (decide_eq_true (by omega)))) (by decide) rfl ?_
        iterate 2 refine QD.ev T (by decide) rfl rfl ?_
        refine QD.e ((Ev.leq rfl rfl).as (show _ = Value.bool false from congrArg Value.bool (decide_eq_false (by omega)))) (by decide) rfl ?_
        iterate 2 refine QD.ev T (by decide) rfl rfl ?_
        refine QD.nil (hZ _ ?_)
        clear hZ Z
        repeat (first | refine Run.seq ?_ | refine Run.cond_f rfl ?_)
        refine Run.regionO (D := [some 52, some 53, some 54, some 55, some 56, some 57, some 51]) [true, true, true, true, true, true, true] rfl rfl rfl (fun Z hZ => ?_)
        refine QD.ev T (by decide) rfl rfl ?_
        refine QD.e ((Ev.geq rfl rfl).as (show _ = Value.bool true from congrArg Value.bool (decide_eq_true (by omega)))) (by decide) rfl ?_
        iterate 2 refine QD.ev T (by decide) rfl rfl ?_
        refine QD.e ((Ev.leq rfl rfl).as (show _ = Value.bool true from congrArg Value.bool (decide_eq_true (by omega)))) (by decide) rfl ?_
        iterate 2 refine QD.ev T (by decide) rfl rfl ?_
        refine QD.nil (hZ _ ?_)
        clear hZ Z
        refine Run.cond_t rfl ?_
        refine Run.regionO (D := [some 58, some 59, some 60, some 9]) [true, true, true, true] rfl rfl rfl (fun Z hZ => ?_)
        refine QD.ev T (by decide) rfl rfl ?_
        refine QD.e (Ev.subK (r := ((ch - 97 : Nat) : Int)) rfl rfl (by rw [wrap8]; omega)) (by decide) rfl ?_
        refine QD.e (Ev.addK (r := (n : Int)) rfl rfl (by rw [wrap8]; omega)) (by decide) rfl ?_
        refine QD.ev T (by decide) rfl rfl ?_
        refine QD.nil (hZ _ ?_)
        clear hZ Z
        refine Run.inBlock ?_
        refine Run.keep [9, 0, 2, 4, 5, 6, 7, 13, 14, 15] [_, _, _, _, _, _, _, _, _, _] rfl ?_
        exact hk'
      · skip
        refine Run.regionO (D := [some 22, some 23, some 24, some 25, some 26, some 27, some 21]) [true, true, true, true, true, true, true] rfl rfl rfl (fun Z hZ => ?_)
        refine QD.ev T (by decide) rfl rfl ?_
        refine QD.e ((Ev.eqlI rfl rfl).as (show _ = Value.bool false from congrArg Value.bool (decide_eq_false (by omega)))) (by decide) rfl ?_
        iterate 2 refine QD.ev T (by decide) rfl rfl ?_
        refine QD.e ((Ev.eqlI rfl rfl).as (show _ = Value.bool false from congrArg Value.bool (decide_eq_false (by omega)))) (by decide) rfl ?_
        iterate 2 refine QD.ev T (by decide) rfl rfl ?_
        refine QD.nil (hZ _ ?_)
        clear hZ Z
        repeat (first | refine Run.seq ?_ | refine Run.cond_f rfl ?_)
        refine Run.regionO (D := [some 29, some 30, some 28]) [true, true, true] rfl rfl rfl (fun Z hZ => ?_)
        refine QD.ev T (by decide) rfl rfl ?_
        refine QD.e ((Ev.eqlI rfl rfl).as (show _ = Value.bool false from congrArg Value.bool (decide_eq_false (by omega)))) (by decide) rfl ?_
        refine QD.ev T (by decide) rfl rfl ?_
        refine QD.nil (hZ _ ?_)
        clear hZ Z
        repeat (first | refine Run.seq ?_ | refine Run.cond_f rfl ?_)
        refine Run.regionO (D := [some 40, some 41, some 39]) [true, true, true] rfl rfl rfl (fun Z hZ => ?_)
        refine QD.ev T (by decide) rfl rfl ?_
        refine QD.e (Ev.gtr rfl rfl) (by decide) rfl ?_
        refine QD.ev T (by decide) rfl rfl ?_
        refine QD.nil (hZ _ ?_)
        clear hZ Z
        repeat (first | refine Run.seq ?_ | refine Run.cond_f rfl ?_)
        refine Run.regionO (D := [some 43, some 44, some 45, some 46, some 47, some 48, some 42]) [true, true, true, true, true, true, true] rfl rfl rfl (fun Z hZ => ?_)
        refine QD.ev T (by decide) rfl rfl ?_
        refine QD.e ((Ev.geq rfl rfl).as (show _ = Value.bool false from congrArg Value.bool (decide_eq_false (by omega)))) (by decide) rfl ?_
        refine QD.ev T (by decide) rfl rfl ?_
        iterate 2 refine QD.off (by decide) rfl ?_
        iterate 2 refine QD.ev T (by decide) rfl rfl ?_
        refine QD.nil (hZ _ ?_)
        clear hZ Z
        repeat (first | refine Run.seq ?_ | refine Run.cond_f rfl ?_)
        refine Run.regionO (D := [some 52, some 53, some 54, some 55, some 56, some 57, some 51]) [true, true, true, true, true, true, true] rfl rfl rfl (fun Z hZ => ?_)
        refine QD.ev T (by decide) rfl rfl ?_
        refine QD.e ((Ev.geq rfl rfl).as (show _ = Value.bool false from congrArg Value.bool (decide_eq_false (by omega)))) (by decide) rfl ?_
        refine QD.ev T (by decide) rfl rfl ?_
        iterate 2 refine QD.off (by decide) rfl ?_
        iterate 2 refine QD.ev T (by decide) rfl rfl ?_
        refine QD.nil (hZ _ ?_)
        clear hZ Z
        repeat (first | refine Run.seq ?_ | refine Run.cond_f rfl ?_)
        refine Run.regionO (D := [some 62, some 63, some 64, some 65, some 66, some 67, some 61]) [true, true, true, true, true, true, true] rfl rfl rfl (fun Z hZ => ?_)
        refine QD.ev T (by decide) rfl rfl ?_
        refine QD.e ((Ev.geq rfl rfl).as (show _ = Value.bool true from congrArg Value.bool (decide_eq_true (by omega)))) (by decide) rfl ?_
        iterate 2 refine QD.ev T (by decide) rfl rfl ?_
        refine QD.e ((Ev.leq rfl rfl).as (show _ = Value.bool true from congrArg Value.bool (decide_eq_true (by omega)))) (by decide) rfl ?_
        iterate 2 refine QD.ev T (by decide) rfl rfl ?_
        refine QD.nil (hZ _ ?_)
        clear hZ Z
        refine Run.cond_t rfl ?_
        refine Run.regionO (D := [some 68, some 69, some 70, some 9]) [true, true, true, true] rfl rfl rfl (fun Z hZ => ?_)
        refine QD.ev T (by decide) rfl rfl ?_
        refine QD.e (Ev.subK (r := ((ch - 48 : Nat) : Int)) rfl rfl (by rw [wrap8]; omega)) (by decide) rfl ?_
        refine QD.e (Ev.addK (r := (n : Int)) rfl rfl (by rw [wrap8]; omega)) (by decide) rfl ?_
        refine QD.ev T (by decide) rfl rfl ?_
        refine QD.nil (hZ _ ?_)
        clear hZ Z
        refine Run.inBlock ?_
        refine Run.keep [9, 0, 2, 4, 5, 6, 7, 13, 14, 15] [_, _, _, _, _, _, _, _, _, _] rfl ?_
        exact hk'
      · obtain ⟨rfl, rfl⟩ := hcls
        refine Run.regionO (D := [some 22, some 23, some 24, some 25, some 26, some 27, some 21]) [true, true, true, true, true, true, true] rfl rfl rfl (fun Z hZ => ?_)
        refine QD.ev T (by decide) rfl rfl ?_
        refine QD.e ((Ev.eqlI rfl rfl).as (show _ = Value.bool false from congrArg Value.bool (decide_eq_false (by omega)))) (by decide) rfl ?_
        iterate 2 refine QD.ev T (by decide) rfl rfl ?_
        refine QD.e ((Ev.eqlI rfl rfl).as (show _ = Value.bool false from congrArg Value.bool (decide_eq_false (by omega)))) (by decide) rfl ?_
        iterate 2 refine QD.ev T (by decide) rfl rfl ?_
        refine QD.nil (hZ _ ?_)
        clear hZ Z
        repeat (first | refine Run.seq ?_ | refine Run.cond_f rfl ?_)
        refine Run.regionO (D := [some 29, some 30, some 28]) [true, true, true] rfl rfl rfl (fun Z hZ => ?_)
        refine QD.ev T (by decide) rfl rfl ?_
        refine QD.e ((Ev.eqlI rfl rfl).as (show _ = Value.bool false from congrArg Value.bool (decide_eq_false (by omega)))) (by decide) rfl ?_
        refine QD.ev T (by decide) rfl rfl ?_
        refine QD.nil (hZ _ ?_)
        clear hZ Z
        repeat (first | refine Run.seq ?_ | refine Run.cond_f rfl ?_)
        refine Run.regionO (D := [some 40, some 41, some 39]) [true, true, true] rfl rfl rfl (fun Z hZ => ?_)
        refine QD.ev T (by decide) rfl rfl ?_
        refine QD.e (Ev.gtr rfl rfl) (by decide) rfl ?_
        refine QD.ev T (by decide) rfl rfl ?_
        refine QD.nil (hZ _ ?_)
        clear hZ Z
        repeat (first | refine Run.seq ?_ | refine Run.cond_f rfl ?_)
        refine Run.regionO (D := [some 43, some 44, some 45, some 46, some 47, some 48, some 42]) [true, true, true, true, true, true, true] rfl rfl rfl (fun Z hZ => ?_)
        refine QD.ev T (by decide) rfl rfl ?_
        refine QD.e ((Ev.geq rfl rfl).as (show _ = Value.bool false from congrArg Value.bool (decide_eq_false (by omega)))) (by decide) rfl ?_
        refine QD.ev T (by decide) rfl rfl ?_
        iterate 2 refine QD.off (by decide) rfl ?_
        iterate 2 refine QD.ev T (by decide) rfl rfl ?_
        refine QD.nil (hZ _ ?_)
        clear hZ Z
        repeat (first | refine Run.seq ?_ | refine Run.cond_f rfl ?_)
        refine Run.regionO (D := [some 52, some 53, some 54, some 55, some 56, some 57, some 51]) [true, true, true, true, true, true, true] rfl rfl rfl (fun Z hZ => ?_)
        refine QD.ev T (by decide) rfl rfl ?_
        refine QD.e ((Ev.geq rfl rfl).as (show _ = Value.bool false from congrArg Value.bool (decide_eq_false (by omega)))) (by decide) rfl ?_
        refine QD.ev T (by decide) rfl rfl ?_
        iterate 2 refine QD.off (by decide) rfl ?_
        iterate 2 refine QD.ev T (by decide) rfl rfl ?_
        refine QD.nil (hZ _ ?_)
        clear hZ Z
        repeat (first | refine Run.seq ?_ | refine Run.cond_f rfl ?_)
        refine Run.regionO (D := [some 62, some 63, some 64, some 65, some 66, some 67, some 61]) [true, true, true, true, true, true, true] rfl rfl rfl (fun Z hZ => ?_)
        refine QD.ev T (by decide) rfl rfl ?_
        refine QD.e ((Ev.geq rfl rfl).as (show _ = Value.bool false from congrArg Value.bool (decide_eq_false (by omega)))) (by decide) rfl ?_
        refine QD.ev T (by decide) rfl rfl ?_
        iterate 2 refine QD.off (by decide) rfl ?_
        iterate 2 refine QD.ev T (by decide) rfl rfl ?_
        refine QD.nil (hZ _ ?_)
        clear hZ Z
        repeat (first | refine Run.seq ?_ | refine Run.cond_f rfl ?_)
        refine Run.regionO (D := [some 72, some 73, some 71]) [true, true, true] rfl rfl rfl (fun Z hZ => ?_)
        refine QD.ev T (by decide) rfl rfl ?_
        refine QD.e (Ev.eqlI rfl rfl) (by decide) rfl ?_
        refine QD.ev T (by decide) rfl rfl ?_
        refine QD.nil (hZ _ ?_)
        clear hZ Z
        refine Run.cond_t rfl ?_
        refine Run.regionO (D := [some 9]) [true] rfl rfl rfl (fun Z hZ => ?_)
        refine QD.ev T (by decide) rfl rfl ?_
        refine QD.nil (hZ _ ?_)
        clear hZ Z
        refine Run.inBlock ?_
        refine Run.keep [9, 0, 2, 4, 5, 6, 7, 13, 14, 15] [_, _, _, _, _, _, _, _, _, _] rfl ?_
        exact hk'
      · obtain ⟨rfl, rfl⟩ := hcls
        refine Run.regionO (D := [some 22, some 23, some 24, some 25, some 26, some 27, some 21]) [true, true, true, true, true, true, true] rfl rfl rfl (fun Z hZ => ?_)
        refine QD.ev T (by decide) rfl rfl ?_
        refine QD.e ((Ev.eqlI rfl rfl).as (show _ = Value.bool false from congrArg Value.bool (decide_eq_false (by omega)))) (by decide) rfl ?_
        iterate 2 refine QD.ev T (by decide) rfl rfl ?_
        refine QD.e ((Ev.eqlI rfl rfl).as (show _ = Value.bool false from congrArg Value.bool (decide_eq_false (by omega)))) (by decide) rfl ?_
        iterate 2 refine QD.ev T (by decide) rfl rfl ?_
        refine QD.nil (hZ _ ?_)
        clear hZ Z
        repeat (first | refine Run.seq ?_ | refine Run.cond_f rfl ?_)
        refine Run.regionO (D := [some 29, some 30, some 28]) [true, true, true] rfl rfl rfl (fun Z hZ => ?_)
        refine QD.ev T (by decide) rfl rfl ?_
        refine QD.e ((Ev.eqlI rfl rfl).as (show _ = Value.bool false from congrArg Value.bool (decide_eq_false (by omega)))) (by decide) rfl ?_
        refine QD.ev T (by decide) rfl rfl ?_
        refine QD.nil (hZ _ ?_)
        clear hZ Z
        repeat (first | refine Run.seq ?_ | refine Run.cond_f rfl ?_)
        refine Run.regionO (D := [some 40, some 41, some 39]) [true, true, true] rfl rfl rfl (fun Z hZ => ?_)
        refine QD.ev T (by decide) rfl rfl ?_
        refine QD.e (Ev.gtr rfl rfl) (by decide) rfl ?_
        refine QD.ev T (by decide) rfl rfl ?_
        refine QD.nil (hZ _ ?_)
        clear hZ Z
        repeat (first | refine Run.seq ?_ | refine Run.cond_f rfl ?_)
        refine Run.regionO (D := [some 43, some 44, some 45, some 46, some 47, some 48, some 42]) [true, true, true, true, true, true, true] rfl rfl rfl (fun Z hZ => ?_)
        refine QD.ev T (by decide) rfl rfl ?_
        refine QD.e ((Ev.geq rfl rfl).as (show _ = Value.bool false from congrArg Value.bool (decide_eq_false (by omega)))) (by decide) rfl ?_
        refine QD.ev T (by decide) rfl rfl ?_
        iterate 2 refine QD.off (by decide) rfl ?_
        iterate 2 refine QD.ev T (by decide) rfl rfl ?_
        refine QD.nil (hZ _ ?_)
        clear hZ Z
        repeat (first | refine Run.seq ?_ | refine Run.cond_f rfl ?_)
        refine Run.regionO (D := [some 52, some 53, some 54, some 55, some 56, some 57, some 51]) [true, true, true, true, true, true, true] rfl rfl rfl (fun Z hZ => ?_)
        refine QD.ev T (by decide) rfl rfl ?_
        refine QD.e ((Ev.geq rfl rfl).as (show _ = Value.bool false from congrArg Value.bool (decide_eq_false (by omega)))) (by decide) rfl ?_
        refine QD.ev T (by decide) rfl rfl ?_
        iterate 2 refine QD.off (by decide) rfl ?_
        iterate 2 refine QD.ev T (by decide) rfl rfl ?_
        refine QD.nil (hZ _ ?_)
        clear hZ Z
        repeat (first | refine Run.seq ?_ | refine Run.cond_f rfl ?_)
        refine Run.regionO (D := [some 62, some 63, some 64, some 65, some 66, some 67, some 61]) [true, true, true, true, true, true, true] rfl rfl rfl (fun Z hZ => ?_)
        refine QD.ev T (by decide) rfl rfl ?_
        refine QD.e ((Ev.geq rfl rfl).as (show _ = Value.bool false from congrArg Value.bool (decide_eq_false (by omega)))) (by decide) rfl ?_
        refine QD.ev T (by decide) rfl rfl ?_
        iterate 2 refine QD.off (by decide) rfl ?_
        iterate 2 refine QD.ev T (by decide) rfl rfl ?_
        refine QD.nil (hZ _ ?_)
        clear hZ Z
        repeat (first | refine Run.seq ?_ | refine Run.cond_f rfl ?_)
        refine Run.regionO (D := [some 72, some 73, some 71]) [true, true, true] rfl rfl rfl (fun Z hZ => ?_)
        refine QD.ev T (by decide) rfl rfl ?_
        refine QD.e (Ev.eqlI rfl rfl) (by decide) rfl ?_
        refine QD.ev T (by decide) rfl rfl ?_
        refine QD.nil (hZ _ ?_)
        clear hZ Z
        repeat (first | refine Run.seq ?_ | refine Run.cond_f rfl ?_)
        refine Run.regionO (D := [some 75, some 76, some 74]) [true, true, true] rfl rfl rfl (fun Z hZ => ?_)
        refine QD.ev T (by decide) rfl rfl ?_
        refine QD.e (Ev.eqlI rfl rfl) (by decide) rfl ?_
        refine QD.ev T (by decide) rfl rfl ?_
        refine QD.nil (hZ _ ?_)
        clear hZ Z
        refine Run.cond_t rfl ?_
        refine Run.regionO (D := [some 9]) [true] rfl rfl rfl (fun Z hZ => ?_)
        refine QD.ev T (by decide) rfl rfl ?_
        refine QD.nil (hZ _ ?_)
        clear hZ Z
        refine Run.inBlock ?_
        refine Run.keep [9, 0, 2, 4, 5, 6, 7, 13, 14, 15] [_, _, _, _, _, _, _, _, _, _] rfl ?_
        exact hk'
    clear hcls hch
    clear ch
    refine Run.seq ?_
    refine Run.regionP (D := [some 77, some 78, some 79, none]) [true, true, true] 3 rfl rfl rfl (by simp only [List.drop_succ_cons, List.drop_zero]; rfl) (fun Z hZ => ?_)
    iterate 2 refine QD.ev T (by decide) rfl rfl ?_
    refine QD.e (Ev.indexP T rfl rfl rfl rfl (by first | omega | (simp only [List.length_cons, List.length_nil] ; omega) | (simp; omega)) (by first | omega | (simp only [List.length_cons, List.length_nil] ; omega) | (simp; omega))) (by decide) rfl ?_
    refine QD.nil (hZ _ ?_)
    clear hZ Z
    refine Ops.store 0 rfl rfl rfl rfl rfl (T.sizeOk rfl) rfl (Nat.le_of_ble_eq_true rfl) rfl rfl ?_
    refine Ops.nil ?_
    repeat refine Run.seq ?_
    refine Run.regionO (D := [some 80, some 81, some 5]) [true, true, true] rfl rfl rfl (fun Z hZ => ?_)
    refine QD.ev T (by decide) rfl rfl ?_
    refine QD.e (Ev.addI rfl rfl (wI (by first | omega | (simp only [List.length_cons, List.length_nil] ; omega) | (simp; omega)) (by first | omega | (simp only [List.length_cons, List.length_nil] ; omega) | (simp; omega)))) (by decide) rfl ?_
    refine QD.ev T (by decide) rfl rfl ?_
    refine QD.nil (hZ _ ?_)
    clear hZ Z
    refine Run.seq ?_
    refine Run.regionO (D := [some 82, some 83]) [true, true] rfl rfl rfl (fun Z hZ => ?_)
    refine QD.ev T (by decide) rfl rfl ?_
    refine QD.e (Ev.lss rfl rfl) (by decide) rfl ?_
    refine QD.nil (hZ _ ?_)
    clear hZ Z
    repeat (first | refine Run.exit rfl ?_ | refine Run.cond_t rfl ?_)
    refine Run.regionO (D := [some 131, some 15]) [true, true] rfl rfl rfl (fun Z hZ => ?_)
    refine QD.e (Ev.addK (r := ((i + 1 : Nat) : Int)) rfl rfl (by rw [wI (by omega) (by omega)]; omega)) (by decide) rfl ?_
    refine QD.ev T (by decide) rfl rfl ?_
    refine QD.nil (hZ _ ?_)
    clear hZ Z
    skip
    refine Run.keep [0, 2, 4, 5, 6, 13, 14, 15] [_, _, _, _, _, _, _, _] rfl ?_
    refine Run.inLoop ?_
    refine Run.seq ?_
    refine Run.regionO (D := [some 16]) [true] rfl rfl rfl (fun Z hZ => ?_)
    refine QD.e ((Ev.lss rfl rfl).as (show _ = Value.bool true from congrArg Value.bool (decide_eq_true (by omega)))) (by decide) rfl ?_
    refine QD.nil (hZ _ ?_)
    clear hZ Z
    repeat (first | refine Run.seq ?_ | refine Run.skip ?_ | refine Run.block ?_ | refine Run.cond_t rfl ?_)
    refine Run.regionO (D := [some 17, some 7]) [true, true] rfl rfl rfl (fun Z hZ => ?_)
    iterate 2 refine QD.ev T (by decide) rfl rfl ?_
    refine QD.nil (hZ _ ?_)
    clear hZ Z
    refine Run.seq ?_
    obtain ⟨ch, hch, hcls⟩ : ∃ ch, (b64c (a.toNat % 4 * 16 + b.toNat / 16)).toNat = ch ∧ cls ch (a.toNat % 4 * 16 + b.toNat / 16) := ⟨_, rfl, cls_c (by omega)⟩
    refine Run.regionO (D := [some 18, some 19, some 20, some 8]) [true, true, true, true] rfl rfl rfl (fun Z hZ => ?_)
    iterate 2 refine QD.ev T (by decide) rfl rfl ?_
    refine QD.e ((Ev.indexT (s := s) T rfl rfl rfl (by omega) (by omega)).as (show _ = Value.int .u8 ((ch : Nat) : Int) from by show Value.int .u8 (((s.getD _ 0).toNat : Nat) : Int) = _; rw [show (((i + 1 : Nat) : Int)).toNat = i + 1 by omega, show s.getD (i + 1) 0 = b64c (a.toNat % 4 * 16 + b.toNat / 16) from g1, hch])) (by decide) rfl ?_
    refine QD.ev T (by decide) rfl rfl ?_
    refine QD.nil (hZ _ ?_)
    clear hZ Z
    refine Run.seq ?_
    refine Run.regionO (D := [some 9]) [true] rfl rfl rfl (fun Z hZ => ?_)
    refine QD.ev T (by decide) rfl rfl ?_
    refine QD.nil (hZ _ ?_)
    clear hZ Z
    refine Run.keep [0, 2, 4, 5, 6, 7, 8, 9, 13, 14, 15] [_, _, _, _, _, _, _, _, _, _, _] rfl ?_
    repeat (refine Run.seq ?_)
    refine Run.pieceV [0, 2, 4, 5, 6, 7, 13, 14, 15] [_, _, _, _, _, _, _, _, _] 9 (.int .u8 (((a.toNat % 4 * 16 + b.toNat / 16 : Nat)) : Int)) rfl (fun k' hk' => ?_) ?_
    · refine Run.block ?_
      refine Run.seq ?_
      generalize hn : (a.toNat % 4 * 16 + b.toNat / 16 : Nat) = n at *
      rcases hcls with hcls | hcls | hcls | hcls | hcls
      · skip
        refine Run.regionO (D := [some 22, some 23, some 24, some 25, some 26, some 27, some 21]) [true, true, true, true, true, true, true] rfl rfl rfl (fun Z hZ => ?_)
        refine QD.ev T (by decide) rfl rfl ?_
        refine QD.e ((Ev.eqlI rfl rfl).as (show _ = Value.bool false from congrArg Value.bool (decide_eq_false (by omega)))) (by decide) rfl ?_
        iterate 2 refine QD.ev T (by decide) rfl rfl ?_
        refine QD.e ((Ev.eqlI rfl rfl).as (show _ = Value.bool false from congrArg Value.bool (decide_eq_false (by omega)))) (by decide) rfl ?_
        iterate 2 refine QD.ev T (by decide) rfl rfl ?_
        refine QD.nil (hZ _ ?_)
        clear hZ Z
        repeat (first | refine Run.seq ?_ | refine Run.cond_f rfl ?_)
        refine Run.regionO (D := [some 29, some 30, some 28]) [true, true, true] rfl rfl rfl (fun Z hZ => ?_)
        refine QD.ev T (by decide) rfl rfl ?_
        refine QD.e ((Ev.eqlI rfl rfl).as (show _ = Value.bool false from congrArg Value.bool (decide_eq_false (by omega)))) (by decide) rfl ?_
        refine QD.ev T (by decide) rfl rfl ?_
        refine QD.nil (hZ _ ?_)
        clear hZ Z
        repeat (first | refine Run.seq ?_ | refine Run.cond_f rfl ?_)
        refine Run.regionO (D := [some 40, some 41, some 39]) [true, true, true] rfl rfl rfl (fun Z hZ => ?_)
        refine QD.ev T (by decide) rfl rfl ?_
        refine QD.e (Ev.gtr rfl rfl) (by decide) rfl ?_
        refine QD.ev T (by decide) rfl rfl ?_
        refine QD.nil (hZ _ ?_)
        clear hZ Z
        repeat (first | refine Run.seq ?_ | refine Run.cond_f rfl ?_)
        refine Run.regionO (D := [some 43, some 44, some 45, some 46, some 47, some 48, some 42]) [true, true, true, true, true, true, true] rfl rfl rfl (fun Z hZ => ?_)
        refine QD.ev T (by decide) rfl rfl ?_
        refine QD.e ((Ev.geq rfl rfl).as (show _ = Value.bool true from congrArg Value.bool (decide_eq_true (by omega)))) (by decide) rfl ?_
        iterate 2 refine QD.ev T (by decide) rfl rfl ?_
        refine QD.e ((Ev.leq rfl rfl).as (show _ = Value.bool true from congrArg Value.bool (decide_eq_true (by omega)))) (by decide) rfl ?_
        iterate 2 refine QD.ev T (by decide) rfl rfl ?_
        refine QD.nil (hZ _ ?_)
        clear hZ Z
        refine Run.cond_t rfl ?_
        refine Run.regionO (D := [some 49, some 50, some 9]) [true, true, true] rfl rfl rfl (fun Z hZ => ?_)
        refine QD.ev T (by decide) rfl rfl ?_
        refine QD.e (Ev.subK (r := (n : Int)) rfl rfl (by rw [wrap8]; omega)) (by decide) rfl ?_
        refine QD.ev T (by decide) rfl rfl ?_
        refine QD.nil (hZ _ ?_)
        clear hZ Z
        refine Run.inBlock ?_
        refine Run.keep [9, 0, 2, 4, 5, 6, 7, 13, 14, 15] [_, _, _, _, _, _, _, _, _, _] rfl ?_
        exact hk'
      · skip
        refine Run.regionO (D := [some 22, some 23, some 24, some 25, some 26, some 27, some 21]) [true, true, true, true, true, true, true] rfl rfl rfl (fun Z hZ => ?_)
        refine QD.ev T (by decide) rfl rfl ?_
        refine QD.e ((Ev.eqlI rfl rfl).as (show _ = Value.bool false from congrArg Value.bool (decide_eq_false (by omega)))) (by decide) rfl ?_
        iterate 2 refine QD.ev T (by decide) rfl rfl ?_
        refine QD.e ((Ev.eqlI rfl rfl).as (show _ = Value.bool false from congrArg Value.bool (decide_eq_false (by omega)))) (by decide) rfl ?_
        iterate 2 refine QD.ev T (by decide) rfl rfl ?_
        refine QD.nil (hZ _ ?_)
        clear hZ Z
        repeat (first | refine Run.seq ?_ | refine Run.cond_f rfl ?_)
        refine Run.regionO (D := [some 29, some 30, some 28]) [true, true, true] rfl rfl rfl (fun Z hZ => ?_)
        refine QD.ev T (by decide) rfl rfl ?_
        refine QD.e ((Ev.eqlI rfl rfl).as (show _ = Value.bool false from congrArg Value.bool (decide_eq_false (by omega)))) (by decide) rfl ?_
        refine QD.ev T (by decide) rfl rfl ?_
        refine QD.nil (hZ _ ?_)
        clear hZ Z
        repeat (first | refine Run.seq ?_ | refine Run.cond_f rfl ?_)
        refine Run.regionO (D := [some 40, some 41, some 39]) [true, true, true] rfl rfl rfl (fun Z hZ => ?_)
        refine QD.ev T (by decide) rfl rfl ?_
        refine QD.e (Ev.gtr rfl rfl) (by decide) rfl ?_
        refine QD.ev T (by decide) rfl rfl ?_
        refine QD.nil (hZ _ ?_)
        clear hZ Z
        repeat (first | refine Run.seq ?_ | refine Run.cond_f rfl ?_)
        refine Run.regionO (D := [some 43, some 44, some 45, some 46, some 47, some 48, some 42]) [true, true, true, true, true, true, true] rfl rfl rfl (fun Z hZ => ?_)
        refine QD.ev T (by decide) rfl rfl ?_
        refine QD.e ((Ev.geq rfl rfl).as (show _ = Value.bool true from congrArg Value.bool (decide_eq_true (by omega)))) (by decide) rfl ?_
        iterate 2 refine QD.ev T (by decide) rfl rfl ?_
        refine QD.e ((Ev.leq rfl rfl).as (show _ = Value.bool false from congrArg Value.bool (decide_eq_false (by omega)))) (by decide) rfl ?_
        iterate 2 refine QD.ev T (by decide) rfl rfl ?_
        refine QD.nil (hZ _ ?_)
        clear hZ Z
        repeat (first | refine Run.seq ?_ | refine Run.cond_f rfl ?_)
        refine Run.regionO (D := [some 52, some 53, some 54, some 55, some 56, some 57, some 51]) [true, true, true, true, true, true, true] rfl rfl rfl (fun Z hZ => ?_)
        refine QD.ev T (by decide) rfl rfl ?_
        refine QD.e ((Ev.geq rfl rfl).as (show _ = Value.bool true from congrArg Value.bool (decide_eq_true (by omega)))) (by decide) rfl ?_
        iterate 2 refine QD.ev T (by decide) rfl rfl ?_
        refine QD.e ((Ev.leq rfl rfl).as (show _ = Value.bool true from congrArg Value.bool (decide_eq_true (by omega)))) (by decide) rfl ?_
        iterate 2 refine QD.ev T (by decide) rfl rfl ?_
        refine QD.nil (hZ _ ?_)
        clear hZ Z
        refine Run.cond_t rfl ?_
        refine Run.regionO (D := [some 58, some 59, some 60, some 9]) [true, true, true, true] rfl rfl rfl (fun Z hZ => ?_)
        refine QD.ev T (by decide) rfl rfl ?_
        refine QD.e (Ev.subK (r := ((ch - 97 : Nat) : Int)) rfl rfl (by rw [wrap8]; omega)) (by decide) rfl ?_
        refine QD.e (Ev.addK (r := (n : Int)) rfl rfl (by rw [wrap8]; omega)) (by decide) rfl ?_
        refine QD.ev T (by decide) rfl rfl ?_
        refine QD.nil (hZ _ ?_)
        clear hZ Z
        refine Run.inBlock ?_
        refine Run.keep [9, 0, 2, 4, 5, 6, 7, 13, 14, 15] [_, _, _, _, _, _, _, _, _, _] rfl ?_
        exact hk'
      · skip
        refine Run.regionO (D := [some 22, some 23, some 24, some 25, some 26, some 27, some 21]) [true, true, true, true, true, true, true] rfl rfl rfl (fun Z hZ => ?_)
        refine QD.ev T (by decide) rfl rfl ?_
        refine QD.e ((Ev.eqlI rfl rfl).as (show _ = Value.bool false from congrArg Value.bool (decide_eq_false (by omega)))) (by decide) rfl ?_
        iterate 2 refine QD.ev T (by decide) rfl rfl ?_
        refine QD.e ((Ev.eqlI rfl rfl).as (show _ = Value.bool false from congrArg Value.bool (decide_eq_false (by omega)))) (by decide) rfl ?_
        iterate 2 refine QD.ev T (by decide) rfl rfl ?_
        refine QD.nil (hZ _ ?_)
        clear hZ Z
        repeat (first | refine Run.seq ?_ | refine Run.cond_f rfl ?_)
        refine Run.regionO (D := [some 29, some 30, some 28]) [true, true, true] rfl rfl rfl (fun Z hZ => ?_)
        refine QD.ev T (by decide) rfl rfl ?_
        refine QD.e ((Ev.eqlI rfl rfl).as (show _ = Value.bool false from congrArg Value.bool (decide_eq_false (by omega)))) (by decide) rfl ?_
        refine QD.ev T (by decide) rfl rfl ?_
        refine QD.nil (hZ _ ?_)
        clear hZ Z
        repeat (first | refine Run.seq ?_ | refine Run.cond_f rfl ?_)
        refine Run.regionO (D := [some 40, some 41, some 39]) [true, true, true] rfl rfl rfl (fun Z hZ => ?_)
        refine QD.ev T (by decide) rfl rfl ?_
        refine QD.e (Ev.gtr rfl rfl) (by decide) rfl ?_
        refine QD.ev T (by decide) rfl rfl ?_
        refine QD.nil (hZ _ ?_)
        clear hZ Z
        repeat (first | refine Run.seq ?_ | refine Run.cond_f rfl ?_)
        refine Run.regionO (D := [some 43, some 44, some 45, some 46, some 47, some 48, some 42]) [true, true, true, true, true, true, true] rfl rfl rfl (fun Z hZ => ?_)
        refine QD.ev T (by decide) rfl rfl ?_
        refine QD.e ((Ev.geq rfl rfl).as (show _ = Value.bool false from congrArg Value.bool (decide_eq_false (by omega)))) (by decide) rfl ?_
        refine QD.ev T (by decide) rfl rfl ?_
        iterate 2 refine QD.off (by decide) rfl ?_
        iterate 2 refine QD.ev T (by decide) rfl rfl ?_
        refine QD.nil (hZ _ ?_)
        clear hZ Z
        repeat (first | refine Run.seq ?_ | refine Run.cond_f rfl ?_)
        refine Run.regionO (D := [some 52, some 53, some 54, some 55, some 56, some 57, some 51]) [true, true, true, true, true, true, true] rfl rfl rfl (fun Z hZ => ?_)
        refine QD.ev T (by decide) rfl rfl ?_
        refine QD.e ((Ev.geq rfl rfl).as (show _ = Value.bool false from congrArg Value.bool (decide_eq_false (by omega)))) (by decide) rfl ?_
        refine QD.ev T (by decide) rfl rfl ?_
        iterate 2 refine QD.off (by decide) rfl ?_
        iterate 2 refine QD.ev T (by decide) rfl rfl ?_
        refine QD.nil (hZ _ ?_)
        clear hZ Z
        repeat (first | refine Run.seq ?_ | refine Run.cond_f rfl ?_)
        refine Run.regionO (D := [some 62, some 63, some 64, some 65, some 66, some 67, some 61]) [true, true, true, true, true, true, true] rfl rfl rfl (fun Z hZ => ?_)
        refine QD.ev T (by decide) rfl rfl ?_
        refine QD.e ((Ev.geq rfl rfl).as (show _ = Value.bool true from congrArg Value.bool (decide_eq_true (by omega)))) (by decide) rfl ?_
        iterate 2 refine QD.ev T (by decide) rfl rfl ?_
        refine QD.e ((Ev.leq rfl rfl).as (show _ = Value.bool true from congrArg Value.bool (decide_eq_true (by omega)))) (by decide) rfl ?_
        iterate 2 refine QD.ev T (by decide) rfl rfl ?_
        refine QD.nil (hZ _ ?_)
        clear hZ Z
        refine Run.cond_t rfl ?_
        refine Run.regionO (D := [some 68, some 69, some 70, some 9]) [true, true, true, true] rfl rfl rfl (fun Z hZ => ?_)
        refine QD.ev T (by decide) rfl rfl ?_
        refine QD.e (Ev.subK (r := ((ch - 48 : Nat) : Int)) rfl rfl (by rw [wrap8]; omega)) (by decide) rfl ?_
        refine QD.e (Ev.addK (r := (n : Int)) rfl rfl (by rw [wrap8]; omega)) (by decide) rfl ?_
        refine QD.ev T (by decide) rfl rfl ?_
        refine QD.nil (hZ _ ?_)
        clear hZ Z
        refine Run.inBlock ?_
        refine Run.keep [9, 0, 2, 4, 5, 6, 7, 13, 14, 15] [_, _, _, _, _, _, _, _, _, _] rfl ?_
        exact hk'
      · obtain ⟨rfl, rfl⟩ := hcls
        refine Run.regionO (D := [some 22, some 23, some 24, some 25, some 26, some 27, some 21]) [true, true, true, true, true, true, true] rfl rfl rfl (fun Z hZ => ?_)
        refine QD.ev T (by decide) rfl rfl ?_
        refine QD.e ((Ev.eqlI rfl rfl).as (show _ = Value.bool false from congrArg Value.bool (decide_eq_false (by omega)))) (by decide) rfl ?_
        iterate 2 refine QD.ev T (by decide) rfl rfl ?_
        refine QD.e ((Ev.eqlI rfl rfl).as (show _ = Value.bool false from congrArg Value.bool (decide_eq_false (by omega)))) (by decide) rfl ?_
        iterate 2 refine QD.ev T (by decide) rfl rfl ?_
        refine QD.nil (hZ _ ?_)
        clear hZ Z
        repeat (first | refine Run.seq ?_ | refine Run.cond_f rfl ?_)
        refine Run.regionO (D := [some 29, some 30, some 28]) [true, true, true] rfl rfl rfl (fun Z hZ => ?_)
        refine QD.ev T (by decide) rfl rfl ?_
        refine QD.e ((Ev.eqlI rfl rfl).as (show _ = Value.bool false from congrArg Value.bool (decide_eq_false (by omega)))) (by decide) rfl ?_
        refine QD.ev T (by decide) rfl rfl ?_
        refine QD.nil (hZ _ ?_)
        clear hZ Z
        repeat (first | refine Run.seq ?_ | refine Run.cond_f rfl ?_)
        refine Run.regionO (D := [some 40, some 41, some 39]) [true, true, true] rfl rfl rfl (fun Z hZ => ?_)
        refine QD.ev T (by decide) rfl rfl ?_
        refine QD.e (Ev.gtr rfl rfl) (by decide) rfl ?_
        refine QD.ev T (by decide) rfl rfl ?_
        refine QD.nil (hZ _ ?_)
        clear hZ Z
        repeat (first | refine Run.seq ?_ | refine Run.cond_f rfl ?_)
        refine Run.regionO (D := [some 43, some 44, some 45, some 46, some 47, some 48, some 42]) [true, true, true, true, true, true, true] rfl rfl rfl (fun Z hZ => ?_)
        refine QD.ev T (by decide) rfl rfl ?_
        refine QD.e ((Ev.geq rfl rfl).as (show _ = Value.bool false from congrArg Value.bool (decide_eq_false (by omega)))) (by decide) rfl ?_
        refine QD.ev T (by decide) rfl rfl ?_
        iterate 2 refine QD.off (by decide) rfl ?_
        iterate 2 refine QD.ev T (by decide) rfl rfl ?_
        refine QD.nil (hZ _ ?_)
        clear hZ Z
        repeat (first | refine Run.seq ?_ | refine Run.cond_f rfl ?_)
        refine Run.regionO (D := [some 52, some 53, some 54, some 55, some 56, some 57, some 51]) [true, true, true, true, true, true, true] rfl rfl rfl (fun Z hZ => ?_)
        refine QD.ev T (by decide) rfl rfl ?_
        refine QD.e ((Ev.geq rfl rfl).as (show _ = Value.bool false from congrArg Value.bool (decide_eq_false (by omega)))) (by decide) rfl ?_
        refine QD.ev T (by decide) rfl rfl ?_
        iterate 2 refine QD.off (by decide) rfl ?_
        iterate 2 refine QD.ev T (by decide) rfl rfl ?_
        refine QD.nil (hZ _ ?_)
        clear hZ Z
        repeat (first | refine Run.seq ?_ | refine Run.cond_f rfl ?_)
        refine Run.regionO (D := [some 62, some 63, some 64, some 65, some 66, some 67, some 61]) [true, true, true, true, true, true, true] rfl rfl rfl (fun Z hZ => ?_)
        refine QD.ev T (by decide) rfl rfl ?_
        refine QD.e ((Ev.geq rfl rfl).as (show _ = Value.bool false from congrArg Value.bool (decide_eq_false (by omega)))) (by decide) rfl ?_
        refine QD.ev T (by decide) rfl rfl ?_
        iterate 2 refine QD.off (by decide) rfl ?_
        iterate 2 refine QD.ev T (by decide) rfl rfl ?_
        refine QD.nil (hZ _ ?_)
        clear hZ Z
        repeat (first | refine Run.seq ?_ | refine Run.cond_f rfl ?_)
        refine Run.regionO (D := [some 72, some 73, some 71]) [true, true, true] rfl rfl rfl (fun Z hZ => ?_)
        refine QD.ev T (by decide) rfl rfl ?_
        refine QD.e (Ev.eqlI rfl rfl) (by decide) rfl ?_
        refine QD.ev T (by decide) rfl rfl ?_
        refine QD.nil (hZ _ ?_)
        clear hZ Z
        refine Run.cond_t rfl ?_
        refine Run.regionO (D := [some 9]) [true] rfl rfl rfl (fun Z hZ => ?_)
        refine QD.ev T (by decide) rfl rfl ?_
        refine QD.nil (hZ _ ?_)
        clear hZ Z
        refine Run.inBlock ?_
        refine Run.keep [9, 0, 2, 4, 5, 6, 7, 13, 14, 15] [_, _, _, _, _, _, _, _, _, _] rfl ?_
        exact hk'
      · obtain ⟨rfl, rfl⟩ := hcls
        refine Run.regionO (D := [some 22, some 23, some 24, some 25, some 26, some 27, some 21]) [true, true, true, true, true, true, true] rfl rfl rfl (fun Z hZ => ?_)
        refine QD.ev T (by decide) rfl rfl ?_
        refine QD.e ((Ev.eqlI rfl rfl).as (show _ = Value.bool false from congrArg Value.bool (decide_eq_false (by omega)))) (by decide) rfl ?_
        iterate 2 refine QD.ev T (by decide) rfl rfl ?_
        refine QD.e ((Ev.eqlI rfl rfl).as (show _ = Value.bool false from congrArg Value.bool (decide_eq_false (by omega)))) (by decide) rfl ?_
        iterate 2 refine QD.ev T (by decide) rfl rfl ?_
        refine QD.nil (hZ _ ?_)
        clear hZ Z
        repeat (first | refine Run.seq ?_ | refine Run.cond_f rfl ?_)
        refine Run.regionO (D := [some 29, some 30, some 28]) [true, true, true] rfl rfl rfl (fun Z hZ => ?_)
        refine QD.ev T (by decide) rfl rfl ?_
        refine QD.e ((Ev.eqlI rfl rfl).as (show _ = Value.bool false from congrArg Value.bool (decide_eq_false (by omega)))) (by decide) rfl ?_
        refine QD.ev T (by decide) rfl rfl ?_
        refine QD.nil (hZ _ ?_)
        clear hZ Z
        repeat (first | refine Run.seq ?_ | refine Run.cond_f rfl ?_)
        refine Run.regionO (D := [some 40, some 41, some 39]) [true, true, true] rfl rfl rfl (fun Z hZ => ?_)
        refine QD.ev T (by decide) rfl rfl ?_
        refine QD.e (Ev.gtr rfl rfl) (by decide) rfl ?_
        refine QD.ev T (by decide) rfl rfl ?_
        refine QD.nil (hZ _ ?_)
        clear hZ Z
        repeat (first | refine Run.seq ?_ | refine Run.cond_f rfl ?_)
        refine Run.regionO (D := [some 43, some 44, some 45, some 46, some 47, some 48, some 42]) [true, true, true, true, true, true, true] rfl rfl rfl (fun Z hZ => ?_)
        refine QD.ev T (by decide) rfl rfl ?_
        refine QD.e ((Ev.geq rfl rfl).as (show _ = Value.bool false from congrArg Value.bool (decide_eq_false (by omega)))) (by decide) rfl ?_
        refine QD.ev T (by decide) rfl rfl ?_
        iterate 2 refine QD.off (by decide) rfl ?_
        iterate 2 refine QD.ev T (by decide) rfl rfl ?_
        refine QD.nil (hZ _ ?_)
        clear hZ Z
        repeat (first | refine Run.seq ?_ | refine Run.cond_f rfl ?_)
        refine Run.regionO (D := [some 52, some 53, some 54, some 55, some 56, some 57, some 51]) [true, true, true, true, true, true, true] rfl rfl rfl (fun Z hZ => ?_)
        refine QD.ev T (by decide) rfl rfl ?_
        refine QD.e ((Ev.geq rfl rfl).as (show _ = Value.bool false from congrArg Value.bool (decide_eq_false (by omega)))) (by decide) rfl ?_
        refine QD.ev T (by decide) rfl rfl ?_
        iterate 2 refine QD.off (by decide) rfl ?_
        iterate 2 refine QD.ev T (by decide) rfl rfl ?_
        refine QD.nil (hZ _ ?_)
        clear hZ Z
        repeat (first | refine Run.seq ?_ | refine Run.cond_f rfl ?_)
        refine Run.regionO (D := [some 62, some 63, some 64, some 65, some 66, some 67, some 61]) [true, true, true, true, true, true, true] rfl rfl rfl (fun Z hZ => ?_)
        refine QD.ev T (by decide) rfl rfl ?_
        refine QD.e ((Ev.geq rfl rfl).as (show _ = Value.bool false from congrArg Value.bool (decide_eq_false (by omega)))) (by decide) rfl ?_
        refine QD.ev T (by decide) rfl rfl ?_
        iterate 2 refine QD.off (by decide) rfl ?_
        iterate 2 refine QD.ev T (by decide) rfl rfl ?_
        refine QD.nil (hZ _ ?_)
        clear hZ Z
        repeat (first | refine Run.seq ?_ | refine Run.cond_f rfl ?_)
        refine Run.regionO (D := [some 72, some 73, some 71]) [true, true, true] rfl rfl rfl (fun Z hZ => ?_)
        refine QD.ev T (by decide) rfl rfl ?_
        refine QD.e (Ev.eqlI rfl rfl) (by decide) rfl ?_
        refine QD.ev T (by decide) rfl rfl ?_
        refine QD.nil (hZ _ ?_)
        clear hZ Z
        repeat (first | refine Run.seq ?_ | refine Run.cond_f rfl ?_)
        refine Run.regionO (D := [some 75, some 76, some 74]) [true, true, true] rfl rfl rfl (fun Z hZ => ?_)
        refine QD.ev T (by decide) rfl rfl ?_
        refine QD.e (Ev.eqlI rfl rfl) (by decide) rfl ?_
        refine QD.ev T (by decide) rfl rfl ?_
        refine QD.nil (hZ _ ?_)
        clear hZ Z
        refine Run.cond_t rfl ?_
        refine Run.regionO (D := [some 9]) [true] rfl rfl rfl (fun Z hZ => ?_)
        refine QD.ev T (by decide) rfl rfl ?_
        refine QD.nil (hZ _ ?_)
        clear hZ Z
        refine Run.inBlock ?_
        refine Run.keep [9, 0, 2, 4, 5, 6, 7, 13, 14, 15] [_, _, _, _, _, _, _, _, _, _] rfl ?_
        exact hk'
    clear hcls hch
    clear ch
    refine Run.seq ?_
    refine Run.regionP (D := [some 77, some 78, some 79, none]) [true, true, true] 3 rfl rfl rfl (by simp only [List.drop_succ_cons, List.drop_zero]; rfl) (fun Z hZ => ?_)
    iterate 2 refine QD.ev T (by decide) rfl rfl ?_
    refine QD.e (Ev.indexP T rfl rfl rfl rfl (by first | omega | (simp only [List.length_cons, List.length_nil] ; omega) | (simp; omega)) (by first | omega | (simp only [List.length_cons, List.length_nil] ; omega) | (simp; omega))) (by decide) rfl ?_
    refine QD.nil (hZ _ ?_)
    clear hZ Z
    refine Ops.store 0 rfl rfl rfl rfl rfl (T.sizeOk rfl) rfl (Nat.le_of_ble_eq_true rfl) rfl rfl ?_
    refine Ops.nil ?_
    repeat refine Run.seq ?_
    refine Run.regionO (D := [some 80, some 81, some 5]) [true, true, true] rfl rfl rfl (fun Z hZ => ?_)
    refine QD.ev T (by decide) rfl rfl ?_
    refine QD.e (Ev.addI rfl rfl (wI (by first | omega | (simp only [List.length_cons, List.length_nil] ; omega) | (simp; omega)) (by first | omega | (simp only [List.length_cons, List.length_nil] ; omega) | (simp; omega)))) (by decide) rfl ?_
    refine QD.ev T (by decide) rfl rfl ?_
    refine QD.nil (hZ _ ?_)
    clear hZ Z
    refine Run.seq ?_
    refine Run.regionO (D := [some 82, some 83]) [true, true] rfl rfl rfl (fun Z hZ => ?_)
    refine QD.ev T (by decide) rfl rfl ?_
    refine QD.e (Ev.lss rfl rfl) (by decide) rfl ?_
    refine QD.nil (hZ _ ?_)
    clear hZ Z
    repeat (first | refine Run.exit rfl ?_ | refine Run.cond_t rfl ?_)
    refine Run.regionO (D := [some 131, some 15]) [true, true] rfl rfl rfl (fun Z hZ => ?_)
    refine QD.e (Ev.addK (r := ((i + 2 : Nat) : Int)) rfl rfl (by rw [wI (by omega) (by omega)]; omega)) (by decide) rfl ?_
    refine QD.ev T (by decide) rfl rfl ?_
    refine QD.nil (hZ _ ?_)
    clear hZ Z
    skip
    refine Run.keep [0, 2, 4, 5, 6, 13, 14, 15] [_, _, _, _, _, _, _, _] rfl ?_
    refine Run.inLoop ?_
    refine Run.seq ?_
    refine Run.regionO (D := [some 16]) [true] rfl rfl rfl (fun Z hZ => ?_)
    refine QD.e ((Ev.lss rfl rfl).as (show _ = Value.bool true from congrArg Value.bool (decide_eq_true (by omega)))) (by decide) rfl ?_
    refine QD.nil (hZ _ ?_)
    clear hZ Z
    repeat (first | refine Run.seq ?_ | refine Run.skip ?_ | refine Run.block ?_ | refine Run.cond_t rfl ?_)
    refine Run.regionO (D := [some 17, some 7]) [true, true] rfl rfl rfl (fun Z hZ => ?_)
    iterate 2 refine QD.ev T (by decide) rfl rfl ?_
    refine QD.nil (hZ _ ?_)
    clear hZ Z
    refine Run.seq ?_
    obtain ⟨ch, hch, hcls⟩ : ∃ ch, (b64c (b.toNat % 16 * 4 + c.toNat / 64)).toNat = ch ∧ cls ch (b.toNat % 16 * 4 + c.toNat / 64) := ⟨_, rfl, cls_c (by omega)⟩
    refine Run.regionO (D := [some 18, some 19, some 20, some 8]) [true, true, true, true] rfl rfl rfl (fun Z hZ => ?_)
    iterate 2 refine QD.ev T (by decide) rfl rfl ?_
    refine QD.e ((Ev.indexT (s := s) T rfl rfl rfl (by omega) (by omega)).as (show _ = Value.int .u8 ((ch : Nat) : Int) from by show Value.int .u8 (((s.getD _ 0).toNat : Nat) : Int) = _; rw [show (((i + 2 : Nat) : Int)).toNat = i + 2 by omega, show s.getD (i + 2) 0 = b64c (b.toNat % 16 * 4 + c.toNat / 64) from g2, hch])) (by decide) rfl ?_
    refine QD.ev T (by decide) rfl rfl ?_
    refine QD.nil (hZ _ ?_)
    clear hZ Z
    refine Run.seq ?_
    refine Run.regionO (D := [some 9]) [true] rfl rfl rfl (fun Z hZ => ?_)
    refine QD.ev T (by decide) rfl rfl ?_
    refine QD.nil (hZ _ ?_)
    clear hZ Z
    refine Run.keep [0, 2, 4, 5, 6, 7, 8, 9, 13, 14, 15] [_, _, _, _, _, _, _, _, _, _, _] rfl ?_
    repeat (refine Run.seq ?_)
    refine Run.pieceV [0, 2, 4, 5, 6, 7, 13, 14, 15] [_, _, _, _, _, _, _, _, _] 9 (.int .u8 (((b.toNat % 16 * 4 + c.toNat / 64 : Nat)) : Int)) rfl (fun k' hk' => ?_) ?_
    · refine Run.block ?_
      refine Run.seq ?_
      generalize hn : (b.toNat % 16 * 4 + c.toNat / 64 : Nat) = n at *
      rcases hcls with hcls | hcls | hcls | hcls | hcls
      · skip
        refine Run.regionO (D := [some 22, some 23, some 24, some 25, some 26, some 27, some 21]) [true, true, true, true, true, true, true] rfl rfl rfl (fun Z hZ => ?_)
        refine QD.ev T (by decide) rfl rfl ?_
        refine QD.e ((Ev.eqlI rfl rfl).as (show _ = Value.bool false from congrArg Value.bool (decide_eq_false (by omega)))) (by decide) rfl ?_
        iterate 2 refine QD.ev T (by decide) rfl rfl ?_
        refine QD.e ((Ev.eqlI rfl rfl).as (show _ = Value.bool false from congrArg Value.bool (decide_eq_false (by omega)))) (by decide) rfl ?_
        iterate 2 refine QD.ev T (by decide) rfl rfl ?_
        refine QD.nil (hZ _ ?_)
        clear hZ Z
        repeat (first | refine Run.seq ?_ | refine Run.cond_f rfl ?_)
        refine Run.regionO (D := [some 29, some 30, some 28]) [true, true, true] rfl rfl rfl (fun Z hZ => ?_)
        refine QD.ev T (by decide) rfl rfl ?_
        refine QD.e ((Ev.eqlI rfl rfl).as (show _ = Value.bool false from congrArg Value.bool (decide_eq_false (by omega)))) (by decide) rfl ?_
        refine QD.ev T (by decide) rfl rfl ?_
        refine QD.nil (hZ _ ?_)
        clear hZ Z
        repeat (first | refine Run.seq ?_ | refine Run.cond_f rfl ?_)
        refine Run.regionO (D := [some 40, some 41, some 39]) [true, true, true] rfl rfl rfl (fun Z hZ => ?_)
        refine QD.ev T (by decide) rfl rfl ?_
        refine QD.e (Ev.gtr rfl rfl) (by decide) rfl ?_
        refine QD.ev T (by decide) rfl rfl ?_
        refine QD.nil (hZ _ ?_)
        clear hZ Z
        repeat (first | refine Run.seq ?_ | refine Run.cond_f rfl ?_)
        refine Run.regionO (D := [some 43, some 44, some 45, some 46, some 47, some 48, some 42]) [true, true, true, true, true, true, true] rfl rfl rfl (fun Z hZ => ?_)
        refine QD.ev T (by decide) rfl rfl ?_
        refine QD.e ((Ev.geq rfl rfl).as (show _ = Value.bool true from congrArg Value.bool (decide_eq_true (by omega)))) (by decide) rfl ?_
        iterate 2 refine QD.ev T (by decide) rfl rfl ?_
        refine QD.e ((Ev.leq rfl rfl).as (show _ = Value.bool true from congrArg Value.bool (decide_eq_true (by omega)))) (by decide) rfl ?_
        iterate 2 refine QD.ev T (by decide) rfl rfl ?_
        refine QD.nil (hZ _ ?_)
        clear hZ Z
        refine Run.cond_t rfl ?_
        refine Run.regionO (D := [some 49, some 50, some 9]) [true, true, true] rfl rfl rfl (fun Z hZ => ?_)
        refine QD.ev T (by decide) rfl rfl ?_
        refine QD.e (Ev.subK (r := (n : Int)) rfl rfl (by rw [wrap8]; omega)) (by decide) rfl ?_
        refine QD.ev T (by decide) rfl rfl ?_
        refine QD.nil (hZ _ ?_)
        clear hZ Z
        refine Run.inBlock ?_
        refine Run.keep [9, 0, 2, 4, 5, 6, 7, 13, 14, 15] [_, _, _, _, _, _, _, _, _, _] rfl ?_
        exact hk'
      · skip
        refine Run.regionO (D := [some 22, some 23, some 24, some 25, some 26, some 27, some 21]) [true, true, true, true, true, true, true] rfl rfl rfl (fun Z hZ => ?_)
        refine QD.ev T (by decide) rfl rfl ?_
        refine QD.e ((Ev.eqlI rfl rfl).as (show _ = Value.bool false from congrArg Value.bool (decide_eq_false (by omega)))) (by decide) rfl ?_
        iterate 2 refine QD.ev T (by decide) rfl rfl ?_
        refine QD.e ((Ev.eqlI rfl rfl).as (show _ = Value.bool false from congrArg Value.bool (decide_eq_false (by omega)))) (by decide) rfl ?_
        iterate 2 refine QD.ev T (by decide) rfl rfl ?_
        refine QD.nil (hZ _ ?_)
        clear hZ Z
        repeat (first | refine Run.seq ?_ | refine Run.cond_f rfl ?_)
        refine Run.regionO (D := [some 29, some 30, some 28]) [true, true, true] rfl rfl rfl (fun Z hZ => ?_)
        refine QD.ev T (by decide) rfl rfl ?_
        refine QD.e ((Ev.eqlI rfl rfl).as (show _ = Value.bool false from congrArg Value.bool (decide_eq_false (by omega)))) (by decide) rfl ?_
        refine QD.ev T (by decide) rfl rfl ?_
        refine QD.nil (hZ _ ?_)
        clear hZ Z
        repeat (first | refine Run.seq ?_ | refine Run.cond_f rfl ?_)
        refine Run.regionO (D := [some 40, some 41, some 39]) [true, true, true] rfl rfl rfl (fun Z hZ => ?_)
        refine QD.ev T (by decide) rfl rfl ?_
        refine QD.e (Ev.gtr rfl rfl) (by decide) rfl ?_
        refine QD.ev T (by decide) rfl rfl ?_
        refine QD.nil (hZ _ ?_)
        clear hZ Z
        repeat (first | refine Run.seq ?_ | refine Run.cond_f rfl ?_)
        refine Run.regionO (D := [some 43, some 44, some 45, some 46, some 47, some 48, some 42]) [true, true, true, true, true, true, true] rfl rfl rfl (fun Z hZ => ?_)
        refine QD.ev T (by decide) rfl rfl ?_
        refine QD.e ((Ev.geq rfl rfl).as (show _ = Value.bool true from congrArg Value.bool (decide_eq_true (by omega)))) (by decide) rfl ?_
        iterate 2 refine QD.ev T (by decide) rfl rfl ?_
        refine QD.e ((Ev.leq rfl rfl).as (show _ = Value.bool false from congrArg Value.bool (decide_eq_false (by omega)))) (by decide) rfl ?_
        iterate 2 refine QD.ev T (by decide) rfl rfl ?_
        refine QD.nil (hZ _ ?_)
        clear hZ Z
        repeat (first | refine Run.seq ?_ | refine Run.cond_f rfl ?_)
        refine Run.regionO (D := [some 52, some 53, some 54, some 55, some 56, some 57, some 51]) [true, true, true, true, true, true, true] rfl rfl rfl (fun Z hZ => ?_)
        refine QD.ev T (by decide) rfl rfl ?_
        refine QD.e ((Ev.geq rfl rfl).as (show _ = Value.bool true from congrArg Value.bool (decide_eq_true (by omega)))) (by decide) rfl ?_
        iterate 2 refine QD.ev T (by decide) rfl rfl ?_
        refine QD.e ((Ev.leq rfl rfl).as (show _ = Value.bool true from congrArg Value.bool (decide_eq_true (by omega)))) (by decide) rfl ?_
        iterate 2 refine QD.ev T (by decide) rfl rfl ?_
        refine QD.nil (hZ _ ?_)
        clear hZ Z
        refine Run.cond_t rfl ?_
        refine Run.regionO (D := [some 58, some 59, some 60, some 9]) [true, true, true, true] rfl rfl rfl (fun Z hZ => ?_)
        refine QD.ev T (by decide) rfl rfl ?_
        refine QD.e (Ev.subK (r := ((ch - 97 : Nat) : Int)) rfl rfl (by rw [wrap8]; omega)) (by decide) rfl ?_
        refine QD.e (Ev.addK (r := (n : Int)) rfl rfl (by rw [wrap8]; omega)) (by decide) rfl ?_
        refine QD.ev T (by decide) rfl rfl ?_
        refine QD.nil (hZ _ ?_)
        clear hZ Z
        refine Run.inBlock ?_
        refine Run.keep [9, 0, 2, 4, 5, 6, 7, 13, 14, 15] [_, _, _, _, _, _, _, _, _, _] rfl ?_
        exact hk'
      · skip
        refine Run.regionO (D := [some 22, some 23, some 24, some 25, some 26, some 27, some 21]) [true, true, true, true, true, true, true] rfl rfl rfl (fun Z hZ => ?_)
        refine QD.ev T (by decide) rfl rfl ?_
        refine QD.e ((Ev.eqlI rfl rfl).as (show _ = Value.bool false from congrArg Value.bool (decide_eq_false (by omega)))) (by decide) rfl ?_
        iterate 2 refine QD.ev T (by decide) rfl rfl ?_
        refine QD.e ((Ev.eqlI rfl rfl).as (show _ = Value.bool false from congrArg Value.bool (decide_eq_false (by omega)))) (by decide) rfl ?_
        iterate 2 refine QD.ev T (by decide) rfl rfl ?_
        refine QD.nil (hZ _ ?_)
        clear hZ Z
        repeat (first | refine Run.seq ?_ | refine Run.cond_f rfl ?_)
        refine Run.regionO (D := [some 29, some 30, some 28]) [true, true, true] rfl rfl rfl (fun Z hZ => ?_)
        refine QD.ev T (by decide) rfl rfl ?_
        refine QD.e ((Ev.eqlI rfl rfl).as (show _ = Value.bool false from congrArg Value.bool (decide_eq_false (by omega)))) (by decide) rfl ?_
        refine QD.ev T (by decide) rfl rfl ?_
        refine QD.nil (hZ _ ?_)
        clear hZ Z
        repeat (first | refine Run.seq ?_ | refine Run.cond_f rfl ?_)
        refine Run.regionO (D := [some 40, some 41, some 39]) [true, true, true] rfl rfl rfl (fun Z hZ => ?_)
        refine QD.ev T (by decide) rfl rfl ?_
        refine QD.e (Ev.gtr rfl rfl) (by decide) rfl ?_
        refine QD.ev T (by decide) rfl rfl ?_
        refine QD.nil (hZ _ ?_)
        clear hZ Z
        repeat (first | refine Run.seq ?_ | refine Run.cond_f rfl ?_)
        refine Run.regionO (D := [some 43, some 44, some 45, some 46, some 47, some 48, some 42]) [true, true, true, true, true, true, true] rfl rfl rfl (fun Z hZ => ?_)
        refine QD.ev T (by decide) rfl rfl ?_
        refine QD.e ((Ev.geq rfl rfl).as (show _ = Value.bool false from congrArg Value.bool (decide_eq_false (by omega)))) (by decide) rfl ?_
        refine QD.ev T (by decide) rfl rfl ?_
        iterate 2 refine QD.off (by decide) rfl ?_
        iterate 2 refine QD.ev T (by decide) rfl rfl ?_
        refine QD.nil (hZ _ ?_)
        clear hZ Z
        repeat (first | refine Run.seq ?_ | refine Run.cond_f rfl ?_)
        refine Run.regionO (D := [some 52, some 53, some 54, some 55, some 56, some 57, some 51]) [true, true, true, true, true, true, true] rfl rfl rfl (fun Z hZ => ?_)
        refine QD.ev T (by decide) rfl rfl ?_
        refine QD.e ((Ev.geq rfl rfl).as (show _ = Value.bool false from congrArg Value.bool (decide_eq_false (by omega)))) (by decide) rfl ?_
        refine QD.ev T (by decide) rfl rfl ?_
        iterate 2 refine QD.off (by decide) rfl ?_
        iterate 2 refine QD.ev T (by decide) rfl rfl ?_
        refine QD.nil (hZ _ ?_)
        clear hZ Z
        repeat (first | refine Run.seq ?_ | refine Run.cond_f rfl ?_)
        refine Run.regionO (D := [some 62, some 63, some 64, some 65, some 66, some 67, some 61]) [true, true, true, true, true, true, true] rfl rfl rfl (fun Z hZ => ?_)
        refine QD.ev T (by decide) rfl rfl ?_
        refine QD.e ((Ev.geq rfl rfl).as (show _ = Value.bool true from congrArg Value.bool (decide_eq_true (by omega)))) (by decide) rfl ?_
        iterate 2 refine QD.ev T (by decide) rfl rfl ?_
        refine QD.e ((Ev.leq rfl rfl).as (show _ = Value.bool true from congrArg Value.bool (decide_eq_true (by omega)))) (by decide) rfl ?_
        iterate 2 refine QD.ev T (by decide) rfl rfl ?_
        refine QD.nil (hZ _ ?_)
        clear hZ Z
        refine Run.cond_t rfl ?_
        refine Run.regionO (D := [some 68, some 69, some 70, some 9]) [true, true, true, true] rfl rfl rfl (fun Z hZ => ?_)
        refine QD.ev T (by decide) rfl rfl ?_
        refine QD.e (Ev.subK (r := ((ch - 48 : Nat) : Int)) rfl rfl (by rw [wrap8]; omega)) (by decide) rfl ?_
        refine QD.e (Ev.addK (r := (n : Int)) rfl rfl (by rw [wrap8]; omega)) (by decide) rfl ?_
        refine QD.ev T (by decide) rfl rfl ?_
        refine QD.nil (hZ _ ?_)
        clear hZ Z
        refine Run.inBlock ?_
        refine Run.keep [9, 0, 2, 4, 5, 6, 7, 13, 14, 15] [_, _, _, _, _, _, _, _, _, _] rfl ?_
        exact hk'
      · obtain ⟨rfl, rfl⟩ := hcls
        refine Run.regionO (D := [some 22, some 23, some 24, some 25, some 26, some 27, some 21]) [true, true, true, true, true, true, true] rfl rfl rfl (fun Z hZ => ?_)
        refine QD.ev T (by decide) rfl rfl ?_
        refine QD.e ((Ev.eqlI rfl rfl).as (show _ = Value.bool false from congrArg Value.bool (decide_eq_false (by omega)))) (by decide) rfl ?_
        iterate 2 refine QD.ev T (by decide) rfl rfl ?_
        refine QD.e ((Ev.eqlI rfl rfl).as (show _ = Value.bool false from congrArg Value.bool (decide_eq_false (by omega)))) (by decide) rfl ?_
        iterate 2 refine QD.ev T (by decide) rfl rfl ?_
        refine QD.nil (hZ _ ?_)
        clear hZ Z
        repeat (first | refine Run.seq ?_ | refine Run.cond_f rfl ?_)
        refine Run.regionO (D := [some 29, some 30, some 28]) [true, true, true] rfl rfl rfl (fun Z hZ => ?_)
        refine QD.ev T (by decide) rfl rfl ?_
        refine QD.e ((Ev.eqlI rfl rfl).as (show _ = Value.bool false from congrArg Value.bool (decide_eq_false (by omega)))) (by decide) rfl ?_
        refine QD.ev T (by decide) rfl rfl ?_
        refine QD.nil (hZ _ ?_)
        clear hZ Z
        repeat (first | refine Run.seq ?_ | refine Run.cond_f rfl ?_)
        refine Run.regionO (D := [some 40, some 41, some 39]) [true, true, true] rfl rfl rfl (fun Z hZ => ?_)
        refine QD.ev T (by decide) rfl rfl ?_
        refine QD.e (Ev.gtr rfl rfl) (by decide) rfl ?_
        refine QD.ev T (by decide) rfl rfl ?_
        refine QD.nil (hZ _ ?_)
        clear hZ Z
        repeat (first | refine Run.seq ?_ | refine Run.cond_f rfl ?_)
        refine Run.regionO (D := [some 43, some 44, some 45, some 46, some 47, some 48, some 42]) [true, true, true, true, true, true, true] rfl rfl rfl (fun Z hZ => ?_)
        refine QD.ev T (by decide) rfl rfl ?_
        refine QD.e ((Ev.geq rfl rfl).as (show _ = Value.bool false from congrArg Value.bool (decide_eq_false (by omega)))) (by decide) rfl ?_
        refine QD.ev T (by decide) rfl rfl ?_
        iterate 2 refine QD.off (by decide) rfl ?_
        iterate 2 refine QD.ev T (by decide) rfl rfl ?_
        refine QD.nil (hZ _ ?_)
        clear hZ Z
        repeat (first | refine Run.seq ?_ | refine Run.cond_f rfl ?_)
        refine Run.regionO (D := [some 52, some 53, some 54, some 55, some 56, some 57, some 51]) [true, true, true, true, true, true, true] rfl rfl rfl (fun Z hZ => ?_)
        refine QD.ev T (by decide) rfl rfl ?_
        refine QD.e ((Ev.geq rfl rfl).as (show _ = Value.bool false from congrArg Value.bool (decide_eq_false (by omega)))) (by decide) rfl ?_
        refine QD.ev T (by decide) rfl rfl ?_
        iterate 2 refine QD.off (by decide) rfl ?_
        iterate 2 refine QD.ev T (by decide) rfl rfl ?_
        refine QD.nil (hZ _ ?_)
        clear hZ Z
        repeat (first | refine Run.seq ?_ | refine Run.cond_f rfl ?_)
        refine Run.regionO (D := [some 62, some 63, some 64, some 65, some 66, some 67, some 61]) [true, true, true, true, true, true, true] rfl rfl rfl (fun Z hZ => ?_)
        refine QD.ev T (by decide) rfl rfl ?_
        refine QD.e ((Ev.geq rfl rfl).as (show _ = Value.bool false from congrArg Value.bool (decide_eq_false (by omega)))) (by decide) rfl ?_
        refine QD.ev T (by decide) rfl rfl ?_
        iterate 2 refine QD.off (by decide) rfl ?_
        iterate 2 refine QD.ev T (by decide) rfl rfl ?_
        refine QD.nil (hZ _ ?_)
        clear hZ Z
        repeat (first | refine Run.seq ?_ | refine Run.cond_f rfl ?_)
        refine Run.regionO (D := [some 72, some 73, some 71]) [true, true, true] rfl rfl rfl (fun Z hZ => ?_)
        refine QD.ev T (by decide) rfl rfl ?_
        refine QD.e (Ev.eqlI rfl rfl) (by decide) rfl ?_
        refine QD.ev T (by decide) rfl rfl ?_
        refine QD.nil (hZ _ ?_)
        clear hZ Z
        refine Run.cond_t rfl ?_
        refine Run.regionO (D := [some 9]) [true] rfl rfl rfl (fun Z hZ => ?_)
        refine QD.ev T (by decide) rfl rfl ?_
        refine QD.nil (hZ _ ?_)
        clear hZ Z
        refine Run.inBlock ?_
        refine Run.keep [9, 0, 2, 4, 5, 6, 7, 13, 14, 15] [_, _, _, _, _, _, _, _, _, _] rfl ?_
        exact hk'
      · obtain ⟨rfl, rfl⟩ := hcls
        refine Run.regionO (D := [some 22, some 23, some 24, some 25, some 26, some 27, some 21]) [true, true, true, true, true, true, true] rfl rfl rfl (fun Z hZ => ?_)
        refine QD.ev T (by decide) rfl rfl ?_
        refine QD.e ((Ev.eqlI rfl rfl).as (show _ = Value.bool false from congrArg Value.bool (decide_eq_false (by omega)))) (by decide) rfl ?_
        iterate 2 refine QD.ev T (by decide) rfl rfl ?_
        refine QD.e ((Ev.eqlI rfl rfl).as (show _ = Value.bool false from congrArg Value.bool (decide_eq_false (by omega)))) (by decide) rfl ?_
        iterate 2 refine QD.ev T (by decide) rfl rfl ?_
        refine QD.nil (hZ _ ?_)
        clear hZ Z
        repeat (first | refine Run.seq ?_ | refine Run.cond_f rfl ?_)
        refine Run.regionO (D := [some 29, some 30, some 28]) [true, true, true] rfl rfl rfl (fun Z hZ => ?_)
        refine QD.ev T (by decide) rfl rfl ?_
        refine QD.e ((Ev.eqlI rfl rfl).as (show _ = Value.bool false from congrArg Value.bool (decide_eq_false (by omega)))) (by decide) rfl ?_
        refine QD.ev T (by decide) rfl rfl ?_
        refine QD.nil (hZ _ ?_)
        clear hZ Z
        repeat (first | refine Run.seq ?_ | refine Run.cond_f rfl ?_)
        refine Run.regionO (D := [some 40, some 41, some 39]) [true, true, true] rfl rfl rfl (fun Z hZ => ?_)
        refine QD.ev T (by decide) rfl rfl ?_
        refine QD.e (Ev.gtr rfl rfl) (by decide) rfl ?_
        refine QD.ev T (by decide) rfl rfl ?_
        refine QD.nil (hZ _ ?_)
        clear hZ Z
        repeat (first | refine Run.seq ?_ | refine Run.cond_f rfl ?_)
        refine Run.regionO (D := [some 43, some 44, some 45, some 46, some 47, some 48, some 42]) [true, true, true, true, true, true, true] rfl rfl rfl (fun Z hZ => ?_)
        refine QD.ev T (by decide) rfl rfl ?_
        refine QD.e ((Ev.geq rfl rfl).as (show _ = Value.bool false from congrArg Value.bool (decide_eq_false (by omega)))) (by decide) rfl ?_
        refine QD.ev T (by decide) rfl rfl ?_
        iterate 2 refine QD.off (by decide) rfl ?_
        iterate 2 refine QD.ev T (by decide) rfl rfl ?_
        refine QD.nil (hZ _ ?_)
        clear hZ Z
        repeat (first | refine Run.seq ?_ | refine Run.cond_f rfl ?_)
        refine Run.regionO (D := [some 52, some 53, some 54, some 55, some 56, some 57, some 51]) [true, true, true, true, true, true, true] rfl rfl rfl (fun Z hZ => ?_)
        refine QD.ev T (by decide) rfl rfl ?_
        refine QD.e ((Ev.geq rfl rfl).as (show _ = Value.bool false from congrArg Value.bool (decide_eq_false (by omega)))) (by decide) rfl ?_
        refine QD.ev T (by decide) rfl rfl ?_
        iterate 2 refine QD.off (by decide) rfl ?_
        iterate 2 refine QD.ev T (by decide) rfl rfl ?_
        refine QD.nil (hZ _ ?_)
        clear hZ Z
        repeat (first | refine Run.seq ?_ | refine Run.cond_f rfl ?_)
        refine Run.regionO (D := [some 62, some 63, some 64, some 65, some 66, some 67, some 61]) [true, true, true, true, true, true, true] rfl rfl rfl (fun Z hZ => ?_)
        refine QD.ev T (by decide) rfl rfl ?_
        refine QD.e ((Ev.geq rfl rfl).as (show _ = Value.bool false from congrArg Value.bool (decide_eq_false (by omega)))) (by decide) rfl ?_
        refine QD.ev T (by decide) rfl rfl ?_
        iterate 2 refine QD.off (by decide) rfl ?_
        iterate 2 refine QD.ev T (by decide) rfl rfl ?_
        refine QD.nil (hZ _ ?_)
        clear hZ Z
        repeat (first | refine Run.seq ?_ | refine Run.cond_f rfl ?_)
        refine Run.regionO (D := [some 72, some 73, some 71]) [true, true, true] rfl rfl rfl (fun Z hZ => ?_)
        refine QD.ev T (by decide) rfl rfl ?_
        refine QD.e (Ev.eqlI rfl rfl) (by decide) rfl ?_
        refine QD.ev T (by decide) rfl rfl ?_
        refine QD.nil (hZ _ ?_)
        clear hZ Z
        repeat (first | refine Run.seq ?_ | refine Run.cond_f rfl ?_)
        refine Run.regionO (D := [some 75, some 76, some 74]) [true, true, true] rfl rfl rfl (fun Z hZ => ?_)
        refine QD.ev T (by decide) rfl rfl ?_
        refine QD.e (Ev.eqlI rfl rfl) (by decide) rfl ?_
        refine QD.ev T (by decide) rfl rfl ?_
        refine QD.nil (hZ _ ?_)
        clear hZ Z
        refine Run.cond_t rfl ?_
        refine Run.regionO (D := [some 9]) [true] rfl rfl rfl (fun Z hZ => ?_)
        refine QD.ev T (by decide) rfl rfl ?_
        refine QD.nil (hZ _ ?_)
        clear hZ Z
        refine Run.inBlock ?_
        refine Run.keep [9, 0, 2, 4, 5, 6, 7, 13, 14, 15] [_, _, _, _, _, _, _, _, _, _] rfl ?_
        exact hk'
    clear hcls hch
    clear ch
    refine Run.seq ?_
    refine Run.regionP (D := [some 77, some 78, some 79, none]) [true, true, true] 3 rfl rfl rfl (by simp only [List.drop_succ_cons, List.drop_zero]; rfl) (fun Z hZ => ?_)
    iterate 2 refine QD.ev T (by decide) rfl rfl ?_
    refine QD.e (Ev.indexP T rfl rfl rfl rfl (by first | omega | (simp only [List.length_cons, List.length_nil] ; omega) | (simp; omega)) (by first | omega | (simp only [List.length_cons, List.length_nil] ; omega) | (simp; omega))) (by decide) rfl ?_
    refine QD.nil (hZ _ ?_)
    clear hZ Z
    refine Ops.store 0 rfl rfl rfl rfl rfl (T.sizeOk rfl) rfl (Nat.le_of_ble_eq_true rfl) rfl rfl ?_
    refine Ops.nil ?_
    repeat refine Run.seq ?_
    refine Run.regionO (D := [some 80, some 81, some 5]) [true, true, true] rfl rfl rfl (fun Z hZ => ?_)
    refine QD.ev T (by decide) rfl rfl ?_
    refine QD.e (Ev.addI rfl rfl (wI (by first | omega | (simp only [List.length_cons, List.length_nil] ; omega) | (simp; omega)) (by first | omega | (simp only [List.length_cons, List.length_nil] ; omega) | (simp; omega)))) (by decide) rfl ?_
    refine QD.ev T (by decide) rfl rfl ?_
    refine QD.nil (hZ _ ?_)
    clear hZ Z
    refine Run.seq ?_
    refine Run.regionO (D := [some 82, some 83]) [true, true] rfl rfl rfl (fun Z hZ => ?_)
    refine QD.ev T (by decide) rfl rfl ?_
    refine QD.e (Ev.lss rfl rfl) (by decide) rfl ?_
    refine QD.nil (hZ _ ?_)
    clear hZ Z
    repeat (first | refine Run.exit rfl ?_ | refine Run.cond_t rfl ?_)
    refine Run.regionO (D := [some 131, some 15]) [true, true] rfl rfl rfl (fun Z hZ => ?_)
    refine QD.e (Ev.addK (r := ((i + 3 : Nat) : Int)) rfl rfl (by rw [wI (by omega) (by omega)]; omega)) (by decide) rfl ?_
    refine QD.ev T (by decide) rfl rfl ?_
    refine QD.nil (hZ _ ?_)
    clear hZ Z
    skip
    refine Run.keep [0, 2, 4, 5, 6, 13, 14, 15] [_, _, _, _, _, _, _, _] rfl ?_
    refine Run.inLoop ?_
    refine Run.seq ?_
    refine Run.regionO (D := [some 16]) [true] rfl rfl rfl (fun Z hZ => ?_)
    refine QD.e ((Ev.lss rfl rfl).as (show _ = Value.bool true from congrArg Value.bool (decide_eq_true (by omega)))) (by decide) rfl ?_
    refine QD.nil (hZ _ ?_)
    clear hZ Z
    repeat (first | refine Run.seq ?_ | refine Run.skip ?_ | refine Run.block ?_ | refine Run.cond_t rfl ?_)
    refine Run.regionO (D := [some 17, some 7]) [true, true] rfl rfl rfl (fun Z hZ => ?_)
    iterate 2 refine QD.ev T (by decide) rfl rfl ?_
    refine QD.nil (hZ _ ?_)
    clear hZ Z
    refine Run.seq ?_
    obtain ⟨ch, hch, hcls⟩ : ∃ ch, (b64c (c.toNat % 64)).toNat = ch ∧ cls ch (c.toNat % 64) := ⟨_, rfl, cls_c (by omega)⟩
    refine Run.regionO (D := [some 18, some 19, some 20, some 8]) [true, true, true, true] rfl rfl rfl (fun Z hZ => ?_)
    iterate 2 refine QD.ev T (by decide) rfl rfl ?_
    refine QD.e ((Ev.indexT (s := s) T rfl rfl rfl (by omega) (by omega)).as (show _ = Value.int .u8 ((ch : Nat) : Int) from by show Value.int .u8 (((s.getD _ 0).toNat : Nat) : Int) = _; rw [show (((i + 3 : Nat) : Int)).toNat = i + 3 by omega, show s.getD (i + 3) 0 = b64c (c.toNat % 64) from g3, hch])) (by decide) rfl ?_
    refine QD.ev T (by decide) rfl rfl ?_
    refine QD.nil (hZ _ ?_)
    clear hZ Z
    refine Run.seq ?_
    refine Run.regionO (D := [some 9]) [true] rfl rfl rfl (fun Z hZ => ?_)
    refine QD.ev T (by decide) rfl rfl ?_
    refine QD.nil (hZ _ ?_)
    clear hZ Z
    refine Run.keep [0, 2, 4, 5, 6, 7, 8, 9, 13, 14, 15] [_, _, _, _, _, _, _, _, _, _, _] rfl ?_
    repeat (refine Run.seq ?_)
    refine Run.pieceV [0, 2, 4, 5, 6, 7, 13, 14, 15] [_, _, _, _, _, _, _, _, _] 9 (.int .u8 (((c.toNat % 64 : Nat)) : Int)) rfl (fun k' hk' => ?_) ?_
    · refine Run.block ?_
      refine Run.seq ?_
      generalize hn : (c.toNat % 64 : Nat) = n at *
      rcases hcls with hcls | hcls | hcls | hcls | hcls
      · skip
        refine Run.regionO (D := [some 22, some 23, some 24, some 25, some 26, some 27, some 21]) [true, true, true, true, true, true, true] rfl rfl rfl (fun Z hZ => ?_)
        refine QD.ev T (by decide) rfl rfl ?_
        refine QD.e ((Ev.eqlI rfl rfl).as (show _ = Value.bool false from congrArg Value.bool (decide_eq_false (by omega)))) (by decide) rfl ?_
        iterate 2 refine QD.ev T (by decide) rfl rfl ?_
        refine QD.e ((Ev.eqlI rfl rfl).as (show _ = Value.bool false from congrArg Value.bool (decide_eq_false (by omega)))) (by decide) rfl ?_
        iterate 2 refine QD.ev T (by decide) rfl rfl ?_
        refine QD.nil (hZ _ ?_)
        clear hZ Z
        repeat (first | refine Run.seq ?_ | refine Run.cond_f rfl ?_)
        refine Run.regionO (D := [some 29, some 30, some 28]) [true, true, true] rfl rfl rfl (fun Z hZ => ?_)
        refine QD.ev T (by decide) rfl rfl ?_
        refine QD.e ((Ev.eqlI rfl rfl).as (show _ = Value.bool false from congrArg Value.bool (decide_eq_false (by omega)))) (by decide) rfl ?_
        refine QD.ev T (by decide) rfl rfl ?_
        refine QD.nil (hZ _ ?_)
        clear hZ Z
        repeat (first | refine Run.seq ?_ | refine Run.cond_f rfl ?_)
        refine Run.regionO (D := [some 40, some 41, some 39]) [true, true, true] rfl rfl rfl (fun Z hZ => ?_)
        refine QD.ev T (by decide) rfl rfl ?_
        refine QD.e (Ev.gtr rfl rfl) (by decide) rfl ?_
        refine QD.ev T (by decide) rfl rfl ?_
        refine QD.nil (hZ _ ?_)
        clear hZ Z
        repeat (first | refine Run.seq ?_ | refine Run.cond_f rfl ?_)
        refine Run.regionO (D := [some 43, some 44, some 45, some 46, some 47, some 48, some 42]) [true, true, true, true, true, true, true] rfl rfl rfl (fun Z hZ => ?_)
        refine QD.ev T (by decide) rfl rfl ?_
        refine QD.e ((Ev.geq rfl rfl).as (show _ = Value.bool true from congrArg Value.bool (decide_eq_true (by omega)))) (by decide) rfl ?_
        iterate 2 refine QD.ev T (by decide) rfl rfl ?_
        refine QD.e ((Ev.leq rfl rfl).as (show _ = Value.bool true from congrArg Value.bool (decide_eq_true (by omega)))) (by decide) rfl ?_
        iterate 2 refine QD.ev T (by decide) rfl rfl ?_
        refine QD.nil (hZ _ ?_)
        clear hZ Z
        refine Run.cond_t rfl ?_
        refine Run.regionO (D := [some 49, some 50, some 9]) [true, true, true] rfl rfl rfl (fun Z hZ => ?_)
        refine QD.ev T (by decide) rfl rfl ?_
        refine QD.e (Ev.subK (r := (n : Int)) rfl rfl (by rw [wrap8]; omega)) (by decide) rfl ?_
        refine QD.ev T (by decide) rfl rfl ?_
        refine QD.nil (hZ _ ?_)
        clear hZ Z
        refine Run.inBlock ?_
        refine Run.keep [9, 0, 2, 4, 5, 6, 7, 13, 14, 15] [_, _, _, _, _, _, _, _, _, _] rfl ?_
        exact hk'
      · skip
        refine Run.regionO (D := [some 22, some 23, some 24, some 25, some 26, some 27, some 21]) [true, true, true, true, true, true, true] rfl rfl rfl (fun Z hZ => ?_)
        refine QD.ev T (by decide) rfl rfl ?_
        refine QD.e ((Ev.eqlI rfl rfl).as (show _ = Value.bool false from congrArg Value.bool (decide_eq_false (by omega)))) (by decide) rfl ?_
        iterate 2 refine QD.ev T (by decide) rfl rfl ?_
        refine QD.e ((Ev.eqlI rfl rfl).as (show _ = Value.bool false from congrArg Value.bool (decide_eq_false (by omega)))) (by decide) rfl ?_
        iterate 2 refine QD.ev T (by decide) rfl rfl ?_
        refine QD.nil (hZ _ ?_)
        clear hZ Z
        repeat (first | refine Run.seq ?_ | refine Run.cond_f rfl ?_)
        refine Run.regionO (D := [some 29, some 30, some 28]) [true, true, true] rfl rfl rfl (fun Z hZ => ?_)
        refine QD.ev T (by decide) rfl rfl ?_
        refine QD.e ((Ev.eqlI rfl rfl).as (show _ = Value.bool false from congrArg Value.bool (decide_eq_false (by omega)))) (by decide) rfl ?_
        refine QD.ev T (by decide) rfl rfl ?_
        refine QD.nil (hZ _ ?_)
        clear hZ Z
        repeat (first | refine Run.seq ?_ | refine Run.cond_f rfl ?_)
        refine Run.regionO (D := [some 40, some 41, some 39]) [true, true, true] rfl rfl rfl (fun Z hZ => ?_)
        refine QD.ev T (by decide) rfl rfl ?_
        refine QD.e (Ev.gtr rfl rfl) (by decide) rfl ?_
        refine QD.ev T (by decide) rfl rfl ?_
        refine QD.nil (hZ _ ?_)
        clear hZ Z
        repeat (first | refine Run.seq ?_ | refine Run.cond_f rfl ?_)
        refine Run.regionO (D := [some 43, some 44, some 45, some 46, some 47, some 48, some 42]) [true, true, true, true, true, true, true] rfl rfl rfl (fun Z hZ => ?_)
        refine QD.ev T (by decide) rfl rfl ?_
        refine QD.e ((Ev.geq rfl rfl).as (show _ = Value.bool true from congrArg Value.bool (decide_eq_true (by omega)))) (by decide) rfl ?_
        iterate 2 refine QD.ev T (by decide) rfl rfl ?_
        refine QD.e ((Ev.leq rfl rfl).as (show _ = Value.bool false from congrArg Value.bool (decide_eq_false (by omega)))) (by decide) rfl ?_
        iterate 2 refine QD.ev T (by decide) rfl rfl ?_
        refine QD.nil (hZ _ ?_)
        clear hZ Z
        repeat (first | refine Run.seq ?_ | refine Run.cond_f rfl ?_)
        refine Run.regionO (D := [some 52, some 53, some 54, some 55, some 56, some 57, some 51]) [true, true, true, true, true, true, true] rfl rfl rfl (fun Z hZ => ?_)
        refine QD.ev T (by decide) rfl rfl ?_
        refine QD.e ((Ev.geq rfl rfl).as (show _ = Value.bool true from congrArg Value.bool (decide_eq_true (by omega)))) (by decide) rfl ?_
        iterate 2 refine QD.ev T (by decide) rfl rfl ?_
        refine QD.e ((Ev.leq rfl rfl).as (show _ = Value.bool true from congrArg Value.bool (decide_eq_true (by omega)))) (by decide) rfl ?_
        iterate 2 refine QD.ev T (by decide) rfl rfl ?_
        refine QD.nil (hZ _ ?_)
        clear hZ Z
        refine Run.cond_t rfl ?_
        refine Run.regionO (D := [some 58, some 59, some 60, some 9]) [true, true, true, true] rfl rfl rfl (fun Z hZ => ?_)
        refine QD.ev T (by decide) rfl rfl ?_
        refine QD.e (Ev.subK (r := ((ch - 97 : Nat) : Int)) rfl rfl (by rw [wrap8]; omega)) (by decide) rfl ?_
        refine QD.e (Ev.addK (r := (n : Int)) rfl rfl (by rw [wrap8]; omega)) (by decide) rfl ?_
        refine QD.ev T (by decide) rfl rfl ?_
        refine QD.nil (hZ _ ?_)
        clear hZ Z
        refine Run.inBlock ?_
        refine Run.keep [9, 0, 2, 4, 5, 6, 7, 13, 14, 15] [_, _, _, _, _, _, _, _, _, _] rfl ?_
        exact hk'
      · skip
        refine Run.regionO (D := [some 22, some 23, some 24, some 25, some 26, some 27, some 21]) [true, true, true, true, true, true, true] rfl rfl rfl (fun Z hZ => ?_)
        refine QD.ev T (by decide) rfl rfl ?_
        refine QD.e ((Ev.eqlI rfl rfl).as (show _ = Value.bool false from congrArg Value.bool (decide_eq_false (by omega)))) (by decide) rfl ?_
        iterate 2 refine QD.ev T (by decide) rfl rfl ?_
        refine QD.e ((Ev.eqlI rfl rfl).as (show _ = Value.bool false from congrArg Value.bool (decide_eq_false (by omega)))) (by decide) rfl ?_
        iterate 2 refine QD.ev T (by decide) rfl rfl ?_
        refine QD.nil (hZ _ ?_)
        clear hZ Z
        repeat (first | refine Run.seq ?_ | refine Run.cond_f rfl ?_)
        refine Run.regionO (D := [some 29, some 30, some 28]) [true, true, true] rfl rfl rfl (fun Z hZ => ?_)
        refine QD.ev T (by decide) rfl rfl ?_
        refine QD.e ((Ev.eqlI rfl rfl).as (show _ = Value.bool false from congrArg Value.bool (decide_eq_false (by omega)))) (by decide) rfl ?_
        refine QD.ev T (by decide) rfl rfl ?_
        refine QD.nil (hZ _ ?_)
        clear hZ Z
        repeat (first | refine Run.seq ?_ | refine Run.cond_f rfl ?_)
        refine Run.regionO (D := [some 40, some 41, some 39]) [true, true, true] rfl rfl rfl (fun Z hZ => ?_)
        refine QD.ev T (by decide) rfl rfl ?_
        refine QD.e (Ev.gtr rfl rfl) (by decide) rfl ?_
        refine QD.ev T (by decide) rfl rfl ?_
        refine QD.nil (hZ _ ?_)
        clear hZ Z
        repeat (first | refine Run.seq ?_ | refine Run.cond_f rfl ?_)
        refine Run.regionO (D := [some 43, some 44, some 45, some 46, some 47, some 48, some 42]) [true, true, true, true, true, true, true] rfl rfl rfl (fun Z hZ => ?_)
        refine QD.ev T (by decide) rfl rfl ?_
        refine QD.e ((Ev.geq rfl rfl).as (show _ = Value.bool false from congrArg Value.bool (decide_eq_false (by omega)))) (by decide) rfl ?_
        refine QD.ev T (by decide) rfl rfl ?_
        iterate 2 refine QD.off (by decide) rfl ?_
        iterate 2 refine QD.ev T (by decide) rfl rfl ?_
        refine QD.nil (hZ _ ?_)
        clear hZ Z
        repeat (first | refine Run.seq ?_ | refine Run.cond_f rfl ?_)
        refine Run.regionO (D := [some 52, some 53, some 54, some 55, some 56, some 57, some 51]) [true, true, true, true, true, true, true] rfl rfl rfl (fun Z hZ => ?_)
        refine QD.ev T (by decide) rfl rfl ?_
        refine QD.e ((Ev.geq rfl rfl).as (show _ = Value.bool false from congrArg Value.bool (decide_eq_false (by omega)))) (by decide) rfl ?_
        refine QD.ev T (by decide) rfl rfl ?_
        iterate 2 refine QD.off (by decide) rfl ?_
        iterate 2 refine QD.ev T (by decide) rfl rfl ?_
        refine QD.nil (hZ _ ?_)
        clear hZ Z
        repeat (first | refine Run.seq ?_ | refine Run.cond_f rfl ?_)
        refine Run.regionO (D := [some 62, some 63, some 64, some 65, some 66, some 67, some 61]) [true, true, true, true, true, true, true] rfl rfl rfl (fun Z hZ => ?_)
        refine QD.ev T (by decide) rfl rfl ?_
        refine QD.e ((Ev.geq rfl rfl).as (show _ = Value.bool true from congrArg Value.bool (decide_eq_true (by omega)))) (by decide) rfl ?_
        iterate 2 refine QD.ev T (by decide) rfl rfl ?_
        refine QD.e ((Ev.leq rfl rfl).as (show _ = Value.bool true from congrArg Value.bool (decide_eq_true (by omega)))) (by decide) rfl ?_
        iterate 2 refine QD.ev T (by decide) rfl rfl ?_
        refine QD.nil (hZ _ ?_)
        clear hZ Z
        refine Run.cond_t rfl ?_
        refine Run.regionO (D := [some 68, some 69, some 70, some 9]) [true, true, true, true] rfl rfl rfl (fun Z hZ => ?_)
        refine QD.ev T (by decide) rfl rfl ?_
        refine QD.e (Ev.subK (r := ((ch - 48 : Nat) : Int)) rfl rfl (by rw [wrap8]; omega)) (by decide) rfl ?_
        refine QD.e (Ev.addK (r := (n : Int)) rfl rfl (by rw [wrap8]; omega)) (by decide) rfl ?_
        refine QD.ev T (by decide) rfl rfl ?_
        refine QD.nil (hZ _ ?_)
        clear hZ Z
        refine Run.inBlock ?_
        refine Run.keep [9, 0, 2, 4, 5, 6, 7, 13, 14, 15] [_, _, _, _, _, _, _, _, _, _] rfl ?_
        exact hk'
      · obtain ⟨rfl, rfl⟩ := hcls
        refine Run.regionO (D := [some 22, some 23, some 24, some 25, some 26, some 27, some 21]) [true, true, true, true, true, true, true] rfl rfl rfl (fun Z hZ => ?_)
        refine QD.ev T (by decide) rfl rfl ?_
        refine QD.e ((Ev.eqlI rfl rfl).as (show _ = Value.bool false from congrArg Value.bool (decide_eq_false (by omega)))) (by decide) rfl ?_
        iterate 2 refine QD.ev T (by decide) rfl rfl ?_
        refine QD.e ((Ev.eqlI rfl rfl).as (show _ = Value.bool false from congrArg Value.bool (decide_eq_false (by omega)))) (by decide) rfl ?_
        iterate 2 refine QD.ev T (by decide) rfl rfl ?_
        refine QD.nil (hZ _ ?_)
        clear hZ Z
        repeat (first | refine Run.seq ?_ | refine Run.cond_f rfl ?_)
        refine Run.regionO (D := [some 29, some 30, some 28]) [true, true, true] rfl rfl rfl (fun Z hZ => ?_)
        refine QD.ev T (by decide) rfl rfl ?_
        refine QD.e ((Ev.eqlI rfl rfl).as (show _ = Value.bool false from congrArg Value.bool (decide_eq_false (by omega)))) (by decide) rfl ?_
        refine QD.ev T (by decide) rfl rfl ?_
        refine QD.nil (hZ _ ?_)
        clear hZ Z
        repeat (first | refine Run.seq ?_ | refine Run.cond_f rfl ?_)
        refine Run.regionO (D := [some 40, some 41, some 39]) [true, true, true] rfl rfl rfl (fun Z hZ => ?_)
        refine QD.ev T (by decide) rfl rfl ?_
        refine QD.e (Ev.gtr rfl rfl) (by decide) rfl ?_
        refine QD.ev T (by decide) rfl rfl ?_
        refine QD.nil (hZ _ ?_)
        clear hZ Z
        repeat (first | refine Run.seq ?_ | refine Run.cond_f rfl ?_)
        refine Run.regionO (D := [some 43, some 44, some 45, some 46, some 47, some 48, some 42]) [true, true, true, true, true, true, true] rfl rfl rfl (fun Z hZ => ?_)
        refine QD.ev T (by decide) rfl rfl ?_
        refine QD.e ((Ev.geq rfl rfl).as (show _ = Value.bool false from congrArg Value.bool (decide_eq_false (by omega)))) (by decide) rfl ?_
        refine QD.ev T (by decide) rfl rfl ?_
        iterate 2 refine QD.off (by decide) rfl ?_
        iterate 2 refine QD.ev T (by decide) rfl rfl ?_
        refine QD.nil (hZ _ ?_)
        clear hZ Z
        repeat (first | refine Run.seq ?_ | refine Run.cond_f rfl ?_)
        refine Run.regionO (D := [some 52, some 53, some 54, some 55, some 56, some 57, some 51]) [true, true, true, true, true, true, true] rfl rfl rfl (fun Z hZ => ?_)
        refine QD.ev T (by decide) rfl rfl ?_
        refine QD.e ((Ev.geq rfl rfl).as (show _ = Value.bool false from congrArg Value.bool (decide_eq_false (by omega)))) (by decide) rfl ?_
        refine QD.ev T (by decide) rfl rfl ?_
        iterate 2 refine QD.off (by decide) rfl ?_
        iterate 2 refine QD.ev T (by decide) rfl rfl ?_
        refine QD.nil (hZ _ ?_)
        clear hZ Z
        repeat (first | refine Run.seq ?_ | refine Run.cond_f rfl ?_)
        refine Run.regionO (D := [some 62, some 63, some 64, some 65, some 66, some 67, some 61]) [true, true, true, true, true, true, true] rfl rfl rfl (fun Z hZ => ?_)
        refine QD.ev T (by decide) rfl rfl ?_
        refine QD.e ((Ev.geq rfl rfl).as (show _ = Value.bool false from congrArg Value.bool (decide_eq_false (by omega)))) (by decide) rfl ?_
        refine QD.ev T (by decide) rfl rfl ?_
        iterate 2 refine QD.off (by decide) rfl ?_
        iterate 2 refine QD.ev T (by decide) rfl rfl ?_
        refine QD.nil (hZ _ ?_)
        clear hZ Z
        repeat (first | refine Run.seq ?_ | refine Run.cond_f rfl ?_)
        refine Run.regionO (D := [some 72, some 73, some 71]) [true, true, true] rfl rfl rfl (fun Z hZ => ?_)
        refine QD.ev T (by decide) rfl rfl ?_
        refine QD.e (Ev.eqlI rfl rfl) (by decide) rfl ?_
        refine QD.ev T (by decide) rfl rfl ?_
        refine QD.nil (hZ _ ?_)
        clear hZ Z
        refine Run.cond_t rfl ?_
        refine Run.regionO (D := [some 9]) [true] rfl rfl rfl (fun Z hZ => ?_)
        refine QD.ev T (by decide) rfl rfl ?_
        refine QD.nil (hZ _ ?_)
        clear hZ Z
        refine Run.inBlock ?_
        refine Run.keep [9, 0, 2, 4, 5, 6, 7, 13, 14, 15] [_, _, _, _, _, _, _, _, _, _] rfl ?_
        exact hk'
      · obtain ⟨rfl, rfl⟩ := hcls
        refine Run.regionO (D := [some 22, some 23, some 24, some 25, some 26, some 27, some 21]) [true, true, true, true, true, true, true] rfl rfl rfl (fun Z hZ => ?_)
        refine QD.ev T (by decide) rfl rfl ?_
        refine QD.e ((Ev.eqlI rfl rfl).as (show _ = Value.bool false from congrArg Value.bool (decide_eq_false (by omega)))) (by decide) rfl ?_
        iterate 2 refine QD.ev T (by decide) rfl rfl ?_
        refine QD.e ((Ev.eqlI rfl rfl).as (show _ = Value.bool false from congrArg Value.bool (decide_eq_false (by omega)))) (by decide) rfl ?_
        iterate 2 refine QD.ev T (by decide) rfl rfl ?_
        refine QD.nil (hZ _ ?_)
        clear hZ Z
        repeat (first | refine Run.seq ?_ | refine Run.cond_f rfl ?_)
        refine Run.regionO (D := [some 29, some 30, some 28]) [true, true, true] rfl rfl rfl (fun Z hZ => ?_)
        refine QD.ev T (by decide) rfl rfl ?_
        refine QD.e ((Ev.eqlI rfl rfl).as (show _ = Value.bool false from congrArg Value.bool (decide_eq_false (by omega)))) (by decide) rfl ?_
        refine QD.ev T (by decide) rfl rfl ?_
        refine QD.nil (hZ _ ?_)
        clear hZ Z
        repeat (first | refine Run.seq ?_ | refine Run.cond_f rfl ?_)
        refine Run.regionO (D := [some 40, some 41, some 39]) [true, true, true] rfl rfl rfl (fun Z hZ => ?_)
        refine QD.ev T (by decide) rfl rfl ?_
        refine QD.e (Ev.gtr rfl rfl) (by decide) rfl ?_
        refine QD.ev T (by decide) rfl rfl ?_
        refine QD.nil (hZ _ ?_)
        clear hZ Z
        repeat (first | refine Run.seq ?_ | refine Run.cond_f rfl ?_)
        refine Run.regionO (D := [some 43, some 44, some 45, some 46, some 47, some 48, some 42]) [true, true, true, true, true, true, true] rfl rfl rfl (fun Z hZ => ?_)
        refine QD.ev T (by decide) rfl rfl ?_
        refine QD.e ((Ev.geq rfl rfl).as (show _ = Value.bool false from congrArg Value.bool (decide_eq_false (by omega)))) (by decide) rfl ?_
        refine QD.ev T (by decide) rfl rfl ?_
        iterate 2 refine QD.off (by decide) rfl ?_
        iterate 2 refine QD.ev T (by decide) rfl rfl ?_
        refine QD.nil (hZ _ ?_)
        clear hZ Z
        repeat (first | refine Run.seq ?_ | refine Run.cond_f rfl ?_)
        refine Run.regionO (D := [some 52, some 53, some 54, some 55, some 56, some 57, some 51]) [true, true, true, true, true, true, true] rfl rfl rfl (fun Z hZ => ?_)
        refine QD.ev T (by decide) rfl rfl ?_
        refine QD.e ((Ev.geq rfl rfl).as (show _ = Value.bool false from congrArg Value.bool (decide_eq_false (by omega)))) (by decide) rfl ?_
        refine QD.ev T (by decide) rfl rfl ?_
        iterate 2 refine QD.off (by decide) rfl ?_
        iterate 2 refine QD.ev T (by decide) rfl rfl ?_
        refine QD.nil (hZ _ ?_)
        clear hZ Z
        repeat (first | refine Run.seq ?_ | refine Run.cond_f rfl ?_)
        refine Run.regionO (D := [some 62, some 63, some 64, some 65, some 66, some 67, some 61]) [true, true, true, true, true, true, true] rfl rfl rfl (fun Z hZ => ?_)
        refine QD.ev T (by decide) rfl rfl ?_
        refine QD.e ((Ev.geq rfl rfl).as (show _ = Value.bool false from congrArg Value.bool (decide_eq_false (by omega)))) (by decide) rfl ?_
        refine QD.ev T (by decide) rfl rfl ?_
        iterate 2 refine QD.off (by decide) rfl ?_
        iterate 2 refine QD.ev T (by decide) rfl rfl ?_
        refine QD.nil (hZ _ ?_)
        clear hZ Z
        repeat (first | refine Run.seq ?_ | refine Run.cond_f rfl ?_)
        refine Run.regionO (D := [some 72, some 73, some 71]) [true, true, true] rfl rfl rfl (fun Z hZ => ?_)
        refine QD.ev T (by decide) rfl rfl ?_
        refine QD.e (Ev.eqlI rfl rfl) (by decide) rfl ?_
        refine QD.ev T (by decide) rfl rfl ?_
        refine QD.nil (hZ _ ?_)
        clear hZ Z
        repeat (first | refine Run.seq ?_ | refine Run.cond_f rfl ?_)
        refine Run.regionO (D := [some 75, some 76, some 74]) [true, true, true] rfl rfl rfl (fun Z hZ => ?_)
        refine QD.ev T (by decide) rfl rfl ?_
        refine QD.e (Ev.eqlI rfl rfl) (by decide) rfl ?_
        refine QD.ev T (by decide) rfl rfl ?_
        refine QD.nil (hZ _ ?_)
        clear hZ Z
        refine Run.cond_t rfl ?_
        refine Run.regionO (D := [some 9]) [true] rfl rfl rfl (fun Z hZ => ?_)
        refine QD.ev T (by decide) rfl rfl ?_
        refine QD.nil (hZ _ ?_)
        clear hZ Z
        refine Run.inBlock ?_
        refine Run.keep [9, 0, 2, 4, 5, 6, 7, 13, 14, 15] [_, _, _, _, _, _, _, _, _, _] rfl ?_
        exact hk'
    clear hcls hch
    clear ch
    refine Run.seq ?_
    refine Run.regionP (D := [some 77, some 78, some 79, none]) [true, true, true] 3 rfl rfl rfl (by simp only [List.drop_succ_cons, List.drop_zero]; rfl) (fun Z hZ => ?_)
    iterate 2 refine QD.ev T (by decide) rfl rfl ?_
    refine QD.e (Ev.indexP T rfl rfl rfl rfl (by first | omega | (simp only [List.length_cons, List.length_nil] ; omega) | (simp; omega)) (by first | omega | (simp only [List.length_cons, List.length_nil] ; omega) | (simp; omega))) (by decide) rfl ?_
    refine QD.nil (hZ _ ?_)
    clear hZ Z
    refine Ops.store 0 rfl rfl rfl rfl rfl (T.sizeOk rfl) rfl (Nat.le_of_ble_eq_true rfl) rfl rfl ?_
    refine Ops.nil ?_
    repeat refine Run.seq ?_
    refine Run.regionO (D := [some 80, some 81, some 5]) [true, true, true] rfl rfl rfl (fun Z hZ => ?_)
    refine QD.ev T (by decide) rfl rfl ?_
    refine QD.e (Ev.addI rfl rfl (wI (by first | omega | (simp only [List.length_cons, List.length_nil] ; omega) | (simp; omega)) (by first | omega | (simp only [List.length_cons, List.length_nil] ; omega) | (simp; omega)))) (by decide) rfl ?_
    refine QD.ev T (by decide) rfl rfl ?_
    refine QD.nil (hZ _ ?_)
    clear hZ Z
    refine Run.seq ?_
    refine Run.regionO (D := [some 82, some 83]) [true, true] rfl rfl rfl (fun Z hZ => ?_)
    refine QD.ev T (by decide) rfl rfl ?_
    refine QD.e (Ev.lss rfl rfl) (by decide) rfl ?_
    refine QD.nil (hZ _ ?_)
    clear hZ Z
    repeat (first | refine Run.seq ?_ | refine Run.skip ?_ | refine Run.cond_f rfl ?_)
    generalize hf0 : a.toNat / 4 = f0 at *
    generalize hf1 : a.toNat % 4 * 16 + b.toNat / 16 = f1 at *
    generalize hf2 : b.toNat % 16 * 4 + c.toNat / 64 = f2 at *
    generalize hf3 : c.toNat % 64 = f3 at *
    generalize hA : a.toNat = A at *
    generalize hB' : b.toNat = B at *
    generalize hC' : c.toNat = C at *
    obtain ⟨g0', g1', g2', g3'⟩ : (f0 = A / 4 ∧ A < 256) ∧ (f1 = A % 4 * 16 + B / 16 ∧ B < 256) ∧ (f2 = B % 16 * 4 + C / 64 ∧ C < 256) ∧ f3 = C % 64 := by omega
    have q1 : f0 * 4 % 256 = A / 4 * 2 ^ 2 := by omega
    have q2 : f1 / 2 ^ 4 = A % 4 := by omega
    have q3 : f1 * 16 % 256 = B / 16 * 2 ^ 4 := by omega
    have q4 : f2 / 2 ^ 2 = B % 16 := by omega
    have q5 : f2 * 64 % 256 = C / 64 * 2 ^ 6 := by omega
    have r1 : f0 * 4 % 256 ||| f1 / 2 ^ 4 = A := by rw [q1, q2, orSh 2 (by omega)]; try omega
    have r2 : f1 * 16 % 256 ||| f2 / 2 ^ 2 = B := by rw [q3, q4, orSh 4 (by omega)]; try omega
    have r3 : f2 * 64 % 256 ||| f3 = C := by rw [q5, g3', orSh 6 (by omega)]; try omega
    have s1 := shl8_2m f0
    have s2 := shl8_4m f1
    have s3 := shl8_6m f2
    have s4 := shrL f1 4
    have s5 := shrL f2 2
    generalize f0 * 4 % 256 = y1 at *
    generalize f1 * 16 % 256 = y2 at *
    generalize f2 * 64 % 256 = y3 at *
    refine Run.regionP (D := [some 84, some 85, some 86, some 87, some 88, some 89, some 90, some 91, some 92, some 93, some 94, some 95, some 96, some 97, some 98, some 99, some 100, some 101, some 102, some 103, some 104, some 10]) [true, true, true, true, true, true, true, true, true, true, true, true, true, true, true, true, true, true, true, true] 20 rfl rfl rfl (by simp only [List.drop_succ_cons, List.drop_zero]; rfl) (fun Z hZ => ?_)
    refine QD.e (Ev.indexP T rfl rfl rfl rfl (by first | omega | (simp only [List.length_cons, List.length_nil] ; omega) | (simp; omega)) (by first | omega | (simp only [List.length_cons, List.length_nil] ; omega) | (simp; omega))) (by decide) rfl ?_
    refine QD.yv (by decide) rfl (Yv.load 0 T rfl rfl rfl rfl) ?_
    refine QD.e (Ev.shlK rfl rfl (by decide) (by decide) s1) (by decide) rfl ?_
    refine QD.e (Ev.indexP T rfl rfl rfl rfl (by first | omega | (simp only [List.length_cons, List.length_nil] ; omega) | (simp; omega)) (by first | omega | (simp only [List.length_cons, List.length_nil] ; omega) | (simp; omega))) (by decide) rfl ?_
    refine QD.yv (by decide) rfl (Yv.load 0 T rfl rfl rfl rfl) ?_
    refine QD.e (Ev.shrK rfl rfl (by decide) (by decide) s4) (by decide) rfl ?_
    refine QD.e (Ev.orK (a := y1) (b := f1 / 2 ^ 4) (c := A) rfl rfl (by show _ < 256; omega) (by show _ < 256; omega) r1 (wrapN8 (by omega))) (by decide) rfl ?_
    refine QD.e (Ev.indexP T rfl rfl rfl rfl (by first | omega | (simp only [List.length_cons, List.length_nil] ; omega) | (simp; omega)) (by first | omega | (simp only [List.length_cons, List.length_nil] ; omega) | (simp; omega))) (by decide) rfl ?_
    refine QD.yv (by decide) rfl (Yv.load 0 T rfl rfl rfl rfl) ?_
    refine QD.e (Ev.shlK rfl rfl (by decide) (by decide) s2) (by decide) rfl ?_
    refine QD.e (Ev.indexP T rfl rfl rfl rfl (by first | omega | (simp only [List.length_cons, List.length_nil] ; omega) | (simp; omega)) (by first | omega | (simp only [List.length_cons, List.length_nil] ; omega) | (simp; omega))) (by decide) rfl ?_
    refine QD.yv (by decide) rfl (Yv.load 0 T rfl rfl rfl rfl) ?_
    refine QD.e (Ev.shrK rfl rfl (by decide) (by decide) s5) (by decide) rfl ?_
    refine QD.e (Ev.orK (a := y2) (b := f2 / 2 ^ 2) (c := B) rfl rfl (by show _ < 256; omega) (by show _ < 256; omega) r2 (wrapN8 (by omega))) (by decide) rfl ?_
    refine QD.e (Ev.indexP T rfl rfl rfl rfl (by first | omega | (simp only [List.length_cons, List.length_nil] ; omega) | (simp; omega)) (by first | omega | (simp only [List.length_cons, List.length_nil] ; omega) | (simp; omega))) (by decide) rfl ?_
    refine QD.yv (by decide) rfl (Yv.load 0 T rfl rfl rfl rfl) ?_
    refine QD.e (Ev.shlK rfl rfl (by decide) (by decide) s3) (by decide) rfl ?_
    refine QD.e (Ev.indexP T rfl rfl rfl rfl (by first | omega | (simp only [List.length_cons, List.length_nil] ; omega) | (simp; omega)) (by first | omega | (simp only [List.length_cons, List.length_nil] ; omega) | (simp; omega))) (by decide) rfl ?_
    refine QD.yv (by decide) rfl (Yv.load 0 T rfl rfl rfl rfl) ?_
    refine QD.e (Ev.orK (a := y3) (b := f3) (c := C) rfl rfl (by show _ < 256; omega) (by show _ < 256; omega) r3 (wrapN8 (by omega))) (by decide) rfl ?_
    refine QD.nil (hZ _ ?_)
    clear hZ Z
    refine Ops.lit T rfl rfl rfl (by decide) rfl (by decide) (by decide) rfl rfl rfl rfl rfl (fun bq => ?_)
    refine Ops.pure T rfl (by decide) rfl ?_
    refine Ops.nil ?_
    refine Run.seq ?_
    subst hA
    subst hB'
    subst hC'
    refine Run.le fun J3 l3 e3 => ?_
    refine Run.regionP (D := [some 105, some 106, some 107, some 108, some 109, some 110, some 2]) [true, true, true, true, true] 5 rfl rfl rfl (by simp only [List.drop_succ_cons, List.drop_zero]; rfl) (fun Z hZ => ?_)
    iterate 3 refine QD.ev T (by decide) rfl rfl ?_
    refine QD.e (Ev.subI rfl rfl (wI (by first | omega | (simp only [List.length_cons, List.length_nil] ; omega) | (simp; omega)) (by first | omega | (simp only [List.length_cons, List.length_nil] ; omega) | (simp; omega)))) (by decide) rfl ?_
    refine QD.e (Ev.sliceHi' T rfl rfl rfl rfl (by first | omega | (simp only [List.length_cons, List.length_nil] ; omega) | (simp; omega)) (by first | omega | (simp only [List.length_cons, List.length_nil] ; omega) | (simp; omega))) (by decide) rfl ?_
    refine QD.nil (hZ _ ?_)
    clear hZ Z
    refine Ops.appBuf (M := M) (N := [(bq, _), (b4, _)]) (ys := [a, b, c]) btB hB rfl (by decide) rfl rfl (List.perm_append_comm (l₁ := [_, _]) (l₂ := M)) (fun W hi => src_own (pre := []) (post := []) (ys := [a, b, c]) btB.el.under hi List.mem_cons_self) (by simp only [List.length_cons, List.length_nil]; omega) fun v3 M3 hB3 => ?_
    refine Ops.perm (List.perm_append_comm (l₁ := M3) (l₂ := [_, _])) ?_
    refine Ops.pure T rfl (by decide) rfl ?_
    refine Ops.nil ?_
    refine Run.seq ?_
    refine Run.regionO (D := [some 5]) [true] rfl rfl rfl (fun Z hZ => ?_)
    refine QD.ev T (by decide) rfl rfl ?_
    refine QD.nil (hZ _ ?_)
    clear hZ Z
    refine Run.seq ?_
    refine Run.regionO (D := [some 111, some 112]) [true, true] rfl rfl rfl (fun Z hZ => ?_)
    refine QD.ev T (by decide) rfl rfl ?_
    refine QD.e (Ev.gtr rfl rfl) (by decide) rfl ?_
    refine QD.nil (hZ _ ?_)
    clear hZ Z
    repeat (first | refine Run.skip ?_ | refine Run.inBlock ?_ | refine Run.cond_f rfl ?_)
    refine Run.regionO (D := [some 131, some 15]) [true, true] rfl rfl rfl (fun Z hZ => ?_)
    refine QD.e (Ev.addK (r := ((i + 4 : Nat) : Int)) rfl rfl (by rw [wI (by omega) (by omega)]; omega)) (by decide) rfl ?_
    refine QD.ev T (by decide) rfl rfl ?_
    refine QD.nil (hZ _ ?_)
    clear hZ Z
    skip
    refine Run.keep [0, 2, 4, 5, 6, 13, 14, 15] [_, _, _, _, _, _, _, _] rfl ?_
    refine Run.dropL (List.sublist_cons_self _ _) ?_
    exact ih t.length _ _ _ (by simp only [List.length_cons]; omega) ⟨i + 4, t, out ++ [a, b, c], _, M3, _, _, _, _, rfl, (by rw [← List.drop_drop, hd]; rfl), by omega, by rw [← hout]; simp, hB3, rfl, rfl, e3.symm⟩
end Go.V
