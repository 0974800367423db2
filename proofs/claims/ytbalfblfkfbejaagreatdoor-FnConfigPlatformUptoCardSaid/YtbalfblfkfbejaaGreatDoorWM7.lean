import Derived.Test.YtbalfblfkfbejaaGreatDoorWM6
import Derived.Test.YtbalfblfkfbejaaGreatDoorWM4
import Derived.Lib.RuneBytes
import Derived.Lib.ValidU
import Derived.Shelf.Unicode.ValidAny
import Derived.Test.YtbalfblfkfbejaaGreatDoorProg
import Derived.KernelRfl
import Derived.Shelf.Unicode.DecodeAny
import Derived.Shelf.Spec.DecodeRune
namespace Go.V
open Go.Proofs.Tryz
open Go.RowKit
set_option linter.unusedVariables false
set_option linter.unusedSimpArgs false
set_option maxRecDepth 10000
attribute [local irreducible] Run Ops QD
set_option maxHeartbeats 2000000 in
theorem reader_word (w : Bs) (I : Imm) (xs : Bs) (v : Value) (db off c r p d : Nat) (hR0 : Rd I v xs db off c) (hp : p ≤ xs.length) (hl : xs.length ≤ 1099511627776) (hw : w ≠ []) (hw2 : w.length ≤ 1000) :
    Spec prog 142 [.pointer (some ⟨r, 0, none⟩), str w] I [(r, rdr v p d)] fun x J M => J = I ∧
      x = .bool (wordR w (xs.drop p)).isSome ∧ M = [(r, rdr v (xs.length - ((wordR w (xs.drop p)).getD (xs.drop p)).length) d)] := by
  obtain rfl := hR0.eq
  have hcap := hR0.cap
  have hwl : 0 < w.length := List.length_pos_iff.2 hw
  have hpd : xs.length - (xs.drop p).length = p := by rw [List.length_drop]; omega
  refine Spec.enter 48 [(0, _), (1, _)] func142 rfl ntmps142 (by simp) rfl ?_
  intro C hCf hR hCI
  repeat (first | refine Run.seq ?_)
  refine Run.regionO (D := [some 4]) [true] rfl rfl rfl (fun Z hZ => ?_)
  refine QD.ev T (by decide) rfl rfl ?_
  refine QD.nil (hZ _ ?_)
  clear hZ Z
  repeat (first | refine Run.seq ?_)
  by_cases hlt : xs.length < p + w.length
  · have hno : wordR w (xs.drop p) = none := by
      unfold wordR
      rw [if_neg]
      intro e
      have := congrArg List.length e
      simp at this; omega
    refine Run.regionQ (D := [some 5, some 6, some 7, some 8, some 9, some 10, some 11, some 12, some 13, some 14, some 15, some 16, some 17, some 18, some 19, some 20, some 21, some 22, some 23, some 24, some 25, some 26, some 27, some 28, some 29, some 30, some 31, some 32, some 33, some 34, some 35, some 36, some 37, some 38]) [true, true, true, true, true, true, true, true, true, true, true, true, true, true, true, true, true, true, true, true, true, true, true, true, true, true, true, true, true, true, true, true, true, true] (bl 34 17179869183) (by kernel_rfl) (by kernel_rfl) (by kernel_rfl) (by kernel_rfl) rfl (fun Z hZ => ?_)
    refine QD.ev T (by decide) rfl rfl ?_
    refine QD.ev T (by decide) rfl rfl ?_
    refine QD.ev T (by decide) rfl rfl ?_
    first | refine QD.yv (by decide) rfl (Yv.load 0 T rfl rfl rfl rfl) ?_ | refine QD.yv (by decide) rfl (Yv.load 1 T rfl rfl rfl rfl) ?_ | refine QD.yv (by decide) rfl (Yv.load 2 T rfl rfl rfl rfl) ?_
    refine QD.ev T (by decide) rfl rfl ?_
    refine QD.e (Ev.lenS T rfl rfl) (by decide) rfl ?_
    refine QD.e (Ev.addK (r := ((p + w.length : Nat) : Int)) rfl rfl (by rw [wI (by omega) (by omega)]; omega)) (by decide) rfl ?_
    refine QD.ev T (by decide) rfl rfl ?_
    refine QD.ev T (by decide) rfl rfl ?_
    refine QD.ev T (by decide) rfl rfl ?_
    first | refine QD.yv (by decide) rfl (Yv.load 0 T rfl rfl rfl rfl) ?_ | refine QD.yv (by decide) rfl (Yv.load 1 T rfl rfl rfl rfl) ?_ | refine QD.yv (by decide) rfl (Yv.load 2 T rfl rfl rfl rfl) ?_
    refine QD.ev T (by decide) rfl rfl ?_
    refine QD.e ((Ev.gtr rfl rfl).as (show _ = Value.bool true from congrArg Value.bool (decide_eq_true (by omega)))) (by decide) rfl ?_
    refine QD.ev T (by decide) rfl rfl ?_
    first | refine QD.ev T (by decide) rfl rfl ?_ | refine QD.off (by decide) rfl ?_
    first | refine QD.ev T (by decide) rfl rfl ?_ | refine QD.off (by decide) rfl ?_
    first | refine QD.ev T (by decide) rfl rfl ?_ | refine QD.off (by decide) rfl ?_
    first | refine QD.yv (by decide) rfl (Yv.load 0 T rfl rfl rfl rfl) ?_ | refine QD.yv (by decide) rfl (Yv.load 1 T rfl rfl rfl rfl) ?_ | refine QD.yv (by decide) rfl (Yv.load 2 T rfl rfl rfl rfl) ?_ | refine QD.off (by decide) rfl ?_
    first | refine QD.ev T (by decide) rfl rfl ?_ | refine QD.off (by decide) rfl ?_
    first | refine QD.ev T (by decide) rfl rfl ?_ | refine QD.off (by decide) rfl ?_
    first | refine QD.ev T (by decide) rfl rfl ?_ | refine QD.off (by decide) rfl ?_
    first | refine QD.yv (by decide) rfl (Yv.load 0 T rfl rfl rfl rfl) ?_ | refine QD.yv (by decide) rfl (Yv.load 1 T rfl rfl rfl rfl) ?_ | refine QD.yv (by decide) rfl (Yv.load 2 T rfl rfl rfl rfl) ?_ | refine QD.off (by decide) rfl ?_
    first | refine QD.ev T (by decide) rfl rfl ?_ | refine QD.off (by decide) rfl ?_
    first | refine QD.ev T (by decide) rfl rfl ?_ | refine QD.off (by decide) rfl ?_
    first | refine QD.ev T (by decide) rfl rfl ?_ | refine QD.off (by decide) rfl ?_
    first | refine QD.yv (by decide) rfl (Yv.load 0 T rfl rfl rfl rfl) ?_ | refine QD.yv (by decide) rfl (Yv.load 1 T rfl rfl rfl rfl) ?_ | refine QD.yv (by decide) rfl (Yv.load 2 T rfl rfl rfl rfl) ?_ | refine QD.off (by decide) rfl ?_
    first | refine QD.ev T (by decide) rfl rfl ?_ | refine QD.off (by decide) rfl ?_
    first | refine QD.e (Ev.lenS T rfl rfl) (by decide) rfl ?_ | refine QD.off (by decide) rfl ?_
    first | refine QD.e (Ev.addI rfl rfl (wI (by first | omega | (simp only [List.length_cons, List.length_nil] ; omega) | (simp; omega)) (by first | omega | (simp only [List.length_cons, List.length_nil] ; omega) | (simp; omega)))) (by decide) rfl ?_ | refine QD.off (by decide) rfl ?_
    refine QD.off (by decide) rfl ?_
    refine QD.off (by decide) rfl ?_
    first | refine QD.ev T (by decide) rfl rfl ?_ | refine QD.off (by decide) rfl ?_
    first | refine QD.e (Ev.neqS rfl rfl) (by decide) rfl ?_ | refine QD.off (by decide) rfl ?_
    refine QD.ev T (by decide) rfl rfl ?_
    refine QD.nil (hZ _ ?_)
    clear hZ Z
    repeat (first | refine Run.seq ?_ | refine Run.cond_t rfl ?_)
    refine Run.regionO (D := [some 4]) [true] rfl rfl rfl (fun Z hZ => ?_)
    refine QD.ev T (by decide) rfl rfl ?_
    refine QD.nil (hZ _ ?_)
    clear hZ Z
    skip
    refine Run.ret1 (by rw [hCf]; exact func142) results142 rfl (hR _ _ _ ?_)
    rw [hno]
    exact ⟨rfl, rfl, by rw [Option.getD_none, hpd]⟩
  · have hcut := (hR0.cut (p := p) (q := p + w.length) (by omega) (by omega) (by omega)).sl
    have ht : (xs.take (p + w.length)).drop p = (xs.drop p).take w.length := by rw [List.drop_take]; congr 1; omega
    rw [ht] at hcut
    have hcut2 : Sl tU8 I (.slice (if c = p then some ⟨db, off, none⟩ else (some (⟨db, off, none⟩ : Addr)).map (·.add (p * 1))) (p + w.length - p) (c - p)) ((xs.drop p).take w.length) := hcut
    by_cases he : (xs.drop p).take w.length = w
    · have hyes : wordR w (xs.drop p) = some ((xs.drop p).drop w.length) := by unfold wordR; rw [if_pos he]
      have hend : xs.length - ((xs.drop p).drop w.length).length = p + w.length := by simp only [List.length_drop]; omega
      refine Run.regionQ (D := [some 5, some 6, some 7, some 8, some 9, some 10, some 11, some 12, some 13, some 14, some 15, some 16, some 17, some 18, some 19, some 20, some 21, some 22, some 23, some 24, some 25, some 26, some 27, some 28, some 29, some 30, some 31, some 32, some 33, some 34, some 35, some 36, some 37, some 38]) [true, true, true, true, true, true, true, true, true, true, true, true, true, true, true, true, true, true, true, true, true, true, true, true, true, true, true, true, true, true, true, true, true, true] (bl 34 17179869183) (by kernel_rfl) (by kernel_rfl) (by kernel_rfl) (by kernel_rfl) rfl (fun Z hZ => ?_)
      refine QD.ev T (by decide) rfl rfl ?_
      refine QD.ev T (by decide) rfl rfl ?_
      refine QD.ev T (by decide) rfl rfl ?_
      first | refine QD.yv (by decide) rfl (Yv.load 0 T rfl rfl rfl rfl) ?_ | refine QD.yv (by decide) rfl (Yv.load 1 T rfl rfl rfl rfl) ?_ | refine QD.yv (by decide) rfl (Yv.load 2 T rfl rfl rfl rfl) ?_
      refine QD.ev T (by decide) rfl rfl ?_
      refine QD.e (Ev.lenS T rfl rfl) (by decide) rfl ?_
      refine QD.e (Ev.addK (r := ((p + w.length : Nat) : Int)) rfl rfl (by rw [wI (by omega) (by omega)]; omega)) (by decide) rfl ?_
      refine QD.ev T (by decide) rfl rfl ?_
      refine QD.ev T (by decide) rfl rfl ?_
      refine QD.ev T (by decide) rfl rfl ?_
      first | refine QD.yv (by decide) rfl (Yv.load 0 T rfl rfl rfl rfl) ?_ | refine QD.yv (by decide) rfl (Yv.load 1 T rfl rfl rfl rfl) ?_ | refine QD.yv (by decide) rfl (Yv.load 2 T rfl rfl rfl rfl) ?_
      refine QD.ev T (by decide) rfl rfl ?_
      refine QD.e ((Ev.gtr rfl rfl).as (show _ = Value.bool false from congrArg Value.bool (decide_eq_false (by omega)))) (by decide) rfl ?_
      refine QD.ev T (by decide) rfl rfl ?_
      first | refine QD.ev T (by decide) rfl rfl ?_ | refine QD.off (by decide) rfl ?_
      first | refine QD.ev T (by decide) rfl rfl ?_ | refine QD.off (by decide) rfl ?_
      first | refine QD.ev T (by decide) rfl rfl ?_ | refine QD.off (by decide) rfl ?_
      first | refine QD.yv (by decide) rfl (Yv.load 0 T rfl rfl rfl rfl) ?_ | refine QD.yv (by decide) rfl (Yv.load 1 T rfl rfl rfl rfl) ?_ | refine QD.yv (by decide) rfl (Yv.load 2 T rfl rfl rfl rfl) ?_ | refine QD.off (by decide) rfl ?_
      first | refine QD.ev T (by decide) rfl rfl ?_ | refine QD.off (by decide) rfl ?_
      first | refine QD.ev T (by decide) rfl rfl ?_ | refine QD.off (by decide) rfl ?_
      first | refine QD.ev T (by decide) rfl rfl ?_ | refine QD.off (by decide) rfl ?_
      first | refine QD.yv (by decide) rfl (Yv.load 0 T rfl rfl rfl rfl) ?_ | refine QD.yv (by decide) rfl (Yv.load 1 T rfl rfl rfl rfl) ?_ | refine QD.yv (by decide) rfl (Yv.load 2 T rfl rfl rfl rfl) ?_ | refine QD.off (by decide) rfl ?_
      first | refine QD.ev T (by decide) rfl rfl ?_ | refine QD.off (by decide) rfl ?_
      first | refine QD.ev T (by decide) rfl rfl ?_ | refine QD.off (by decide) rfl ?_
      first | refine QD.ev T (by decide) rfl rfl ?_ | refine QD.off (by decide) rfl ?_
      first | refine QD.yv (by decide) rfl (Yv.load 0 T rfl rfl rfl rfl) ?_ | refine QD.yv (by decide) rfl (Yv.load 1 T rfl rfl rfl rfl) ?_ | refine QD.yv (by decide) rfl (Yv.load 2 T rfl rfl rfl rfl) ?_ | refine QD.off (by decide) rfl ?_
      first | refine QD.ev T (by decide) rfl rfl ?_ | refine QD.off (by decide) rfl ?_
      first | refine QD.e (Ev.lenS T rfl rfl) (by decide) rfl ?_ | refine QD.off (by decide) rfl ?_
      refine QD.e (Ev.addK (r := ((p + w.length : Nat) : Int)) rfl rfl (by rw [wI (by omega) (by omega)]; omega)) (by decide) rfl ?_
      refine QD.e (Ev.sliceLH (p := p) (q := p + w.length) T rfl rfl rfl rfl rfl (by omega) (by omega)) (by decide) rfl ?_
      refine QD.yv (by decide) rfl (Yv.bytesSl T hcut2 rfl rfl rfl rfl) ?_
      first | refine QD.ev T (by decide) rfl rfl ?_ | refine QD.off (by decide) rfl ?_
      refine QD.e ((Ev.neqS rfl rfl).as (show _ = Value.bool false from congrArg Value.bool (by rw [decide_eq_true he]; rfl))) (by decide) rfl ?_
      refine QD.ev T (by decide) rfl rfl ?_
      refine QD.nil (hZ _ ?_)
      clear hZ Z
      repeat (first | refine Run.seq ?_ | refine Run.skip ?_ | refine Run.cond_f rfl ?_)
      refine Run.regionP (D := [some 39, some 40, some 41, some 42, some 43, some 44, some 45, some 46, some 47, none]) [true, true, true, true, true, true, true, true, true] 9 rfl rfl rfl (by simp only [List.drop_succ_cons, List.drop_zero]; rfl) (fun Z hZ => ?_)
      refine QD.ev T (by decide) rfl rfl ?_
      refine QD.ev T (by decide) rfl rfl ?_
      refine QD.ev T (by decide) rfl rfl ?_
      first | refine QD.yv (by decide) rfl (Yv.load 0 T rfl rfl rfl rfl) ?_ | refine QD.yv (by decide) rfl (Yv.load 1 T rfl rfl rfl rfl) ?_ | refine QD.yv (by decide) rfl (Yv.load 2 T rfl rfl rfl rfl) ?_
      refine QD.ev T (by decide) rfl rfl ?_
      refine QD.e (Ev.lenS T rfl rfl) (by decide) rfl ?_
      refine QD.e (Ev.addK (r := ((p + w.length : Nat) : Int)) rfl rfl (by rw [wI (by omega) (by omega)]; omega)) (by decide) rfl ?_
      refine QD.ev T (by decide) rfl rfl ?_
      refine QD.ev T (by decide) rfl rfl ?_
      refine QD.nil (hZ _ ?_)
      clear hZ Z
      first | refine Ops.store 0 rfl rfl rfl rfl rfl (T.sizeOk rfl) rfl (Nat.le_of_ble_eq_true rfl) rfl rfl ?_ | refine Ops.store 1 rfl rfl rfl rfl rfl (T.sizeOk rfl) rfl (Nat.le_of_ble_eq_true rfl) rfl rfl ?_ | refine Ops.store 2 rfl rfl rfl rfl rfl (T.sizeOk rfl) rfl (Nat.le_of_ble_eq_true rfl) rfl rfl ?_
      refine Ops.nil ?_
      repeat (first | refine Run.seq ?_)
      refine Run.regionO (D := [some 4]) [true] rfl rfl rfl (fun Z hZ => ?_)
      refine QD.ev T (by decide) rfl rfl ?_
      refine QD.nil (hZ _ ?_)
      clear hZ Z
      skip
      refine Run.ret1 (by rw [hCf]; exact func142) results142 rfl (hR _ _ _ ?_)
      rw [hyes]
      exact ⟨rfl, rfl, by rw [Option.getD_some, hend]; rfl⟩
    · have hno : wordR w (xs.drop p) = none := by unfold wordR; rw [if_neg he]
      refine Run.regionQ (D := [some 5, some 6, some 7, some 8, some 9, some 10, some 11, some 12, some 13, some 14, some 15, some 16, some 17, some 18, some 19, some 20, some 21, some 22, some 23, some 24, some 25, some 26, some 27, some 28, some 29, some 30, some 31, some 32, some 33, some 34, some 35, some 36, some 37, some 38]) [true, true, true, true, true, true, true, true, true, true, true, true, true, true, true, true, true, true, true, true, true, true, true, true, true, true, true, true, true, true, true, true, true, true] (bl 34 17179869183) (by kernel_rfl) (by kernel_rfl) (by kernel_rfl) (by kernel_rfl) rfl (fun Z hZ => ?_)
      refine QD.ev T (by decide) rfl rfl ?_
      refine QD.ev T (by decide) rfl rfl ?_
      refine QD.ev T (by decide) rfl rfl ?_
      first | refine QD.yv (by decide) rfl (Yv.load 0 T rfl rfl rfl rfl) ?_ | refine QD.yv (by decide) rfl (Yv.load 1 T rfl rfl rfl rfl) ?_ | refine QD.yv (by decide) rfl (Yv.load 2 T rfl rfl rfl rfl) ?_
      refine QD.ev T (by decide) rfl rfl ?_
      refine QD.e (Ev.lenS T rfl rfl) (by decide) rfl ?_
      refine QD.e (Ev.addK (r := ((p + w.length : Nat) : Int)) rfl rfl (by rw [wI (by omega) (by omega)]; omega)) (by decide) rfl ?_
      refine QD.ev T (by decide) rfl rfl ?_
      refine QD.ev T (by decide) rfl rfl ?_
      refine QD.ev T (by decide) rfl rfl ?_
      first | refine QD.yv (by decide) rfl (Yv.load 0 T rfl rfl rfl rfl) ?_ | refine QD.yv (by decide) rfl (Yv.load 1 T rfl rfl rfl rfl) ?_ | refine QD.yv (by decide) rfl (Yv.load 2 T rfl rfl rfl rfl) ?_
      refine QD.ev T (by decide) rfl rfl ?_
      refine QD.e ((Ev.gtr rfl rfl).as (show _ = Value.bool false from congrArg Value.bool (decide_eq_false (by omega)))) (by decide) rfl ?_
      refine QD.ev T (by decide) rfl rfl ?_
      first | refine QD.ev T (by decide) rfl rfl ?_ | refine QD.off (by decide) rfl ?_
      first | refine QD.ev T (by decide) rfl rfl ?_ | refine QD.off (by decide) rfl ?_
      first | refine QD.ev T (by decide) rfl rfl ?_ | refine QD.off (by decide) rfl ?_
      first | refine QD.yv (by decide) rfl (Yv.load 0 T rfl rfl rfl rfl) ?_ | refine QD.yv (by decide) rfl (Yv.load 1 T rfl rfl rfl rfl) ?_ | refine QD.yv (by decide) rfl (Yv.load 2 T rfl rfl rfl rfl) ?_ | refine QD.off (by decide) rfl ?_
      first | refine QD.ev T (by decide) rfl rfl ?_ | refine QD.off (by decide) rfl ?_
      first | refine QD.ev T (by decide) rfl rfl ?_ | refine QD.off (by decide) rfl ?_
      first | refine QD.ev T (by decide) rfl rfl ?_ | refine QD.off (by decide) rfl ?_
      first | refine QD.yv (by decide) rfl (Yv.load 0 T rfl rfl rfl rfl) ?_ | refine QD.yv (by decide) rfl (Yv.load 1 T rfl rfl rfl rfl) ?_ | refine QD.yv (by decide) rfl (Yv.load 2 T rfl rfl rfl rfl) ?_ | refine QD.off (by decide) rfl ?_
      first | refine QD.ev T (by decide) rfl rfl ?_ | refine QD.off (by decide) rfl ?_
      first | refine QD.ev T (by decide) rfl rfl ?_ | refine QD.off (by decide) rfl ?_
      first | refine QD.ev T (by decide) rfl rfl ?_ | refine QD.off (by decide) rfl ?_
      first | refine QD.yv (by decide) rfl (Yv.load 0 T rfl rfl rfl rfl) ?_ | refine QD.yv (by decide) rfl (Yv.load 1 T rfl rfl rfl rfl) ?_ | refine QD.yv (by decide) rfl (Yv.load 2 T rfl rfl rfl rfl) ?_ | refine QD.off (by decide) rfl ?_
      first | refine QD.ev T (by decide) rfl rfl ?_ | refine QD.off (by decide) rfl ?_
      first | refine QD.e (Ev.lenS T rfl rfl) (by decide) rfl ?_ | refine QD.off (by decide) rfl ?_
      refine QD.e (Ev.addK (r := ((p + w.length : Nat) : Int)) rfl rfl (by rw [wI (by omega) (by omega)]; omega)) (by decide) rfl ?_
      refine QD.e (Ev.sliceLH (p := p) (q := p + w.length) T rfl rfl rfl rfl rfl (by omega) (by omega)) (by decide) rfl ?_
      refine QD.yv (by decide) rfl (Yv.bytesSl T hcut2 rfl rfl rfl rfl) ?_
      first | refine QD.ev T (by decide) rfl rfl ?_ | refine QD.off (by decide) rfl ?_
      refine QD.e ((Ev.neqS rfl rfl).as (show _ = Value.bool true from congrArg Value.bool (by rw [decide_eq_false he]; rfl))) (by decide) rfl ?_
      refine QD.ev T (by decide) rfl rfl ?_
      refine QD.nil (hZ _ ?_)
      clear hZ Z
      repeat (first | refine Run.seq ?_ | refine Run.cond_t rfl ?_)
      refine Run.regionO (D := [some 4]) [true] rfl rfl rfl (fun Z hZ => ?_)
      refine QD.ev T (by decide) rfl rfl ?_
      refine QD.nil (hZ _ ?_)
      clear hZ Z
      skip
      refine Run.ret1 (by rw [hCf]; exact func142) results142 rfl (hR _ _ _ ?_)
      rw [hno]
      exact ⟨rfl, rfl, by rw [Option.getD_none, hpd]⟩
abbrev posR (xs t : Bs) : Nat := xs.length - t.length
theorem digs_some {s t : Bs} (h : digsR s = some t) : t = s.dropWhile isDg := by
  unfold digsR at h
  split at h
  · cases h
  · split at h
    · rename_i hd
      cases h
      rw [List.dropWhile_cons, if_pos hd]
    · cases h
theorem digs_end {xs : Bs} {p q : Nat} (hpq : p ≤ q) (hq : q ≤ xs.length) (hs : (xs.drop q).dropWhile isDg = (xs.drop p).dropWhile isDg) (hyes : p < q → ∃ t, digsR (xs.drop p) = some t)
    (hst : ∀ h : q < xs.length, isDg (xs.getD q 0) = false) : (digsR (xs.drop p)).isSome = decide (p < q) ∧ posR xs ((digsR (xs.drop p)).getD (xs.drop p)) = q := by
  have hd : (xs.drop q).dropWhile isDg = xs.drop q := by
    by_cases h : q < xs.length
    · rw [drop_at h, List.dropWhile_cons, if_neg (by rw [hst h]; decide)]
    · rw [List.drop_eq_nil_of_le (by omega)]; rfl
  rcases Nat.eq_or_lt_of_le hpq with e | e
  · subst e
    have : digsR (xs.drop p) = none := by
      by_cases h : p < xs.length
      · rw [drop_at h, digsR, if_neg (by rw [hst h]; decide)]
      · rw [List.drop_eq_nil_of_le (by omega)]; rfl
    rw [this]
    refine ⟨by simp, ?_⟩
    simp only [posR, Option.getD_none, List.length_drop]; omega
  · obtain ⟨t, ht⟩ := hyes e
    rw [ht]
    have := digs_some ht
    rw [← hs, hd] at this
    subst this
    refine ⟨by simp [e], ?_⟩
    simp only [posR, Option.getD_some, List.length_drop]; omega
set_option maxHeartbeats 4000000 in
theorem reader_digits (I : Imm) (xs : Bs) (v : Value) (db off c r p d : Nat) (hR0 : Rd I v xs db off c) (hp : p ≤ xs.length) (hl : xs.length ≤ 1099511627776) :
    Spec prog 150 [.pointer (some ⟨r, 0, none⟩)] I [(r, rdr v p d)] fun x J M => J = I ∧ x = .bool (digsR (xs.drop p)).isSome ∧ M = [(r, rdr v (posR xs ((digsR (xs.drop p)).getD (xs.drop p))) d)] := by
  obtain rfl := hR0.eq
  have hcap := hR0.cap
  refine Spec.enter 57 [(0, _)] func150 rfl ntmps150 (by simp) rfl ?_
  intro C hCf hR hCI
  repeat (first | refine Run.seq ?_)
  refine Run.regionO (D := [some 2]) [true] rfl rfl rfl (fun Z hZ => ?_)
  refine QD.ev T (by decide) rfl rfl ?_
  refine QD.nil (hZ _ ?_)
  clear hZ Z
  repeat (first | refine Run.seq ?_)
  refine Run.regionO (D := [some 4, some 5, some 6, some 7, some 3]) [true, true, true, true, true] rfl rfl rfl (fun Z hZ => ?_)
  refine QD.ev T (by decide) rfl rfl ?_
  refine QD.ev T (by decide) rfl rfl ?_
  refine QD.ev T (by decide) rfl rfl ?_
  first | refine QD.yv (by decide) rfl (Yv.load 0 T rfl rfl rfl rfl) ?_ | refine QD.yv (by decide) rfl (Yv.load 1 T rfl rfl rfl rfl) ?_ | refine QD.yv (by decide) rfl (Yv.load 2 T rfl rfl rfl rfl) ?_
  refine QD.ev T (by decide) rfl rfl ?_
  refine QD.nil (hZ _ ?_)
  clear hZ Z
  repeat (first | refine Run.seq ?_ | refine Run.block ?_)
  refine Run.keep [0, 3] [_, _] rfl ?_
  refine Run.rounds (fun m env L J => ∃ q, m = xs.length - q ∧ p ≤ q ∧ q ≤ xs.length ∧ (xs.drop q).dropWhile isDg = (xs.drop p).dropWhile isDg ∧ (p < q → ∃ t, digsR (xs.drop p) = some t) ∧ env = [(0, .pointer (some ⟨r, 0, none⟩)), (3, .int .i64 (p : Int))] ∧
    L = [(r, rdr (.slice (some ⟨db, off, none⟩) xs.length c) q d)] ∧ J = I) (xs.length - p) ⟨p, rfl, Nat.le_refl _, hp, rfl, fun h => by omega, rfl, rfl, rfl⟩ ?_
  rintro m env L J ⟨q, rfl, hpq, hq, hs, hyes, rfl, rfl, rfl⟩ ih
  by_cases hlt : q < xs.length
  · have hA := hR0.at' q hlt
    by_cases h1 : 48 ≤ (xs.getD q 0).toNat
    · by_cases h2 : (xs.getD q 0).toNat ≤ 57
      · have hd : isDg (xs.getD q 0) = true := by simp only [isDg, Bool.and_eq_true, decide_eq_true_eq]; exact ⟨h1, h2⟩
        have key : (xs.drop (q + 1)).dropWhile isDg = (xs.drop p).dropWhile isDg := by rw [← hs, drop_at hlt, List.dropWhile_cons, if_pos hd]
        have key2 : p < q + 1 → ∃ t, digsR (xs.drop p) = some t := fun _ => by
          rcases Nat.eq_or_lt_of_le hpq with e | e
          · subst e; rw [drop_at hlt, digsR, if_pos hd]; exact ⟨_, rfl⟩
          · exact hyes e
        generalize xs.getD q 0 = b at hA h1 h2
        repeat (first | refine Run.seq ?_)
        refine Run.regionQ (D := [some 8, some 9, some 10, some 11, some 12, some 13, some 14, some 15, some 16, some 17, some 18, some 19, some 20, some 21, some 22, some 23, some 24, some 25, some 26, some 27, some 28, some 29, some 30, some 31, some 32, some 33, some 34, some 35, some 36, some 37, some 38, some 39, some 40, some 41, some 42, some 43]) [true, true, true, true, true, true, true, true, true, true, true, true, true, true, true, true, true, true, true, true, true, true, true, true, true, true, true, true, true, true, true, true, true, true, true, true] (bl 36 68719476735) (by kernel_rfl) (by kernel_rfl) (by kernel_rfl) (by kernel_rfl) rfl (fun Z hZ => ?_)
        refine QD.ev T (by decide) rfl rfl ?_
        refine QD.ev T (by decide) rfl rfl ?_
        refine QD.ev T (by decide) rfl rfl ?_
        first | refine QD.yv (by decide) rfl (Yv.load 0 T rfl rfl rfl rfl) ?_ | refine QD.yv (by decide) rfl (Yv.load 1 T rfl rfl rfl rfl) ?_ | refine QD.yv (by decide) rfl (Yv.load 2 T rfl rfl rfl rfl) ?_ | refine QD.yv (by decide) rfl (Yv.loadI T hA rfl rfl) ?_
        refine QD.ev T (by decide) rfl rfl ?_
        refine QD.ev T (by decide) rfl rfl ?_
        refine QD.ev T (by decide) rfl rfl ?_
        first | refine QD.yv (by decide) rfl (Yv.load 0 T rfl rfl rfl rfl) ?_ | refine QD.yv (by decide) rfl (Yv.load 1 T rfl rfl rfl rfl) ?_ | refine QD.yv (by decide) rfl (Yv.load 2 T rfl rfl rfl rfl) ?_ | refine QD.yv (by decide) rfl (Yv.loadI T hA rfl rfl) ?_
        refine QD.ev T (by decide) rfl rfl ?_
        refine QD.e ((Ev.lss rfl rfl).as (show _ = Value.bool true from congrArg Value.bool (decide_eq_true (by omega)))) (by decide) rfl ?_
        refine QD.ev T (by decide) rfl rfl ?_
        first | refine QD.ev T (by decide) rfl rfl ?_ | refine QD.off (by decide) rfl ?_
        first | refine QD.ev T (by decide) rfl rfl ?_ | refine QD.off (by decide) rfl ?_
        first | refine QD.ev T (by decide) rfl rfl ?_ | refine QD.off (by decide) rfl ?_
        first | refine QD.yv (by decide) rfl (Yv.load 0 T rfl rfl rfl rfl) ?_ | refine QD.yv (by decide) rfl (Yv.load 1 T rfl rfl rfl rfl) ?_ | refine QD.yv (by decide) rfl (Yv.load 2 T rfl rfl rfl rfl) ?_ | refine QD.yv (by decide) rfl (Yv.loadI T hA rfl rfl) ?_ | refine QD.off (by decide) rfl ?_
        first | refine QD.ev T (by decide) rfl rfl ?_ | refine QD.off (by decide) rfl ?_
        first | refine QD.ev T (by decide) rfl rfl ?_ | refine QD.off (by decide) rfl ?_
        first | refine QD.ev T (by decide) rfl rfl ?_ | refine QD.off (by decide) rfl ?_
        first | refine QD.yv (by decide) rfl (Yv.load 0 T rfl rfl rfl rfl) ?_ | refine QD.yv (by decide) rfl (Yv.load 1 T rfl rfl rfl rfl) ?_ | refine QD.yv (by decide) rfl (Yv.load 2 T rfl rfl rfl rfl) ?_ | refine QD.yv (by decide) rfl (Yv.loadI T hA rfl rfl) ?_ | refine QD.off (by decide) rfl ?_
        first | refine QD.e (Ev.indexS T rfl rfl rfl rfl (by first | omega | (simp only [List.length_cons, List.length_nil] ; omega) | (simp; omega)) (by first | omega | (simp only [List.length_cons, List.length_nil] ; omega) | (simp; omega))) (by decide) rfl ?_ | refine QD.off (by decide) rfl ?_
        first | refine QD.yv (by decide) rfl (Yv.load 0 T rfl rfl rfl rfl) ?_ | refine QD.yv (by decide) rfl (Yv.load 1 T rfl rfl rfl rfl) ?_ | refine QD.yv (by decide) rfl (Yv.load 2 T rfl rfl rfl rfl) ?_ | refine QD.yv (by decide) rfl (Yv.loadI T hA rfl rfl) ?_ | refine QD.off (by decide) rfl ?_
        refine QD.e ((Ev.geq rfl rfl).as (show _ = Value.bool true from congrArg Value.bool (decide_eq_true (by omega)))) (by decide) rfl ?_
        refine QD.ev T (by decide) rfl rfl ?_
        refine QD.ev T (by decide) rfl rfl ?_
        first | refine QD.ev T (by decide) rfl rfl ?_ | refine QD.off (by decide) rfl ?_
        first | refine QD.ev T (by decide) rfl rfl ?_ | refine QD.off (by decide) rfl ?_
        first | refine QD.ev T (by decide) rfl rfl ?_ | refine QD.off (by decide) rfl ?_
        first | refine QD.yv (by decide) rfl (Yv.load 0 T rfl rfl rfl rfl) ?_ | refine QD.yv (by decide) rfl (Yv.load 1 T rfl rfl rfl rfl) ?_ | refine QD.yv (by decide) rfl (Yv.load 2 T rfl rfl rfl rfl) ?_ | refine QD.yv (by decide) rfl (Yv.loadI T hA rfl rfl) ?_ | refine QD.off (by decide) rfl ?_
        first | refine QD.ev T (by decide) rfl rfl ?_ | refine QD.off (by decide) rfl ?_
        first | refine QD.ev T (by decide) rfl rfl ?_ | refine QD.off (by decide) rfl ?_
        first | refine QD.ev T (by decide) rfl rfl ?_ | refine QD.off (by decide) rfl ?_
        first | refine QD.yv (by decide) rfl (Yv.load 0 T rfl rfl rfl rfl) ?_ | refine QD.yv (by decide) rfl (Yv.load 1 T rfl rfl rfl rfl) ?_ | refine QD.yv (by decide) rfl (Yv.load 2 T rfl rfl rfl rfl) ?_ | refine QD.yv (by decide) rfl (Yv.loadI T hA rfl rfl) ?_ | refine QD.off (by decide) rfl ?_
        first | refine QD.e (Ev.indexS T rfl rfl rfl rfl (by first | omega | (simp only [List.length_cons, List.length_nil] ; omega) | (simp; omega)) (by first | omega | (simp only [List.length_cons, List.length_nil] ; omega) | (simp; omega))) (by decide) rfl ?_ | refine QD.off (by decide) rfl ?_
        first | refine QD.yv (by decide) rfl (Yv.load 0 T rfl rfl rfl rfl) ?_ | refine QD.yv (by decide) rfl (Yv.load 1 T rfl rfl rfl rfl) ?_ | refine QD.yv (by decide) rfl (Yv.load 2 T rfl rfl rfl rfl) ?_ | refine QD.yv (by decide) rfl (Yv.loadI T hA rfl rfl) ?_ | refine QD.off (by decide) rfl ?_
        refine QD.e ((Ev.leq rfl rfl).as (show _ = Value.bool true from congrArg Value.bool (decide_eq_true (by omega)))) (by decide) rfl ?_
        refine QD.ev T (by decide) rfl rfl ?_
        refine QD.nil (hZ _ ?_)
        clear hZ Z
        repeat (first | refine Run.skip ?_ | refine Run.block ?_ | refine Run.cond_t rfl ?_)
        refine Run.regionP (D := [some 44, some 45, some 46, some 47, some 48, some 49, some 50, none]) [true, true, true, true, true, true, true] 7 rfl rfl rfl (by simp only [List.drop_succ_cons, List.drop_zero]; rfl) (fun Z hZ => ?_)
        refine QD.ev T (by decide) rfl rfl ?_
        refine QD.ev T (by decide) rfl rfl ?_
        refine QD.ev T (by decide) rfl rfl ?_
        first | refine QD.yv (by decide) rfl (Yv.load 0 T rfl rfl rfl rfl) ?_ | refine QD.yv (by decide) rfl (Yv.load 1 T rfl rfl rfl rfl) ?_ | refine QD.yv (by decide) rfl (Yv.load 2 T rfl rfl rfl rfl) ?_
        refine QD.e (Ev.addK (r := ((q + 1 : Nat) : Int)) rfl rfl (by rw [wI (by omega) (by omega)]; omega)) (by decide) rfl ?_
        refine QD.ev T (by decide) rfl rfl ?_
        refine QD.ev T (by decide) rfl rfl ?_
        refine QD.nil (hZ _ ?_)
        clear hZ Z
        first | refine Ops.store 0 rfl rfl rfl rfl rfl (T.sizeOk rfl) rfl (Nat.le_of_ble_eq_true rfl) rfl rfl ?_ | refine Ops.store 1 rfl rfl rfl rfl rfl (T.sizeOk rfl) rfl (Nat.le_of_ble_eq_true rfl) rfl rfl ?_ | refine Ops.store 2 rfl rfl rfl rfl rfl (T.sizeOk rfl) rfl (Nat.le_of_ble_eq_true rfl) rfl rfl ?_
        refine Ops.nil ?_
        repeat (first | refine Run.inBlock ?_)
        refine Run.keep [0, 3] [_, _] rfl ?_
        exact ih (xs.length - (q + 1)) _ _ _ (by omega) ⟨q + 1, rfl, by omega, by omega, key, key2, rfl, rfl, rfl⟩
      · have hd : isDg (xs.getD q 0) = false := by simp only [isDg, Bool.and_eq_false_iff, decide_eq_false_iff_not]; exact .inr h2
        generalize hb : xs.getD q 0 = b at hA h1 h2
        repeat (first | refine Run.seq ?_)
        refine Run.regionQ (D := [some 8, some 9, some 10, some 11, some 12, some 13, some 14, some 15, some 16, some 17, some 18, some 19, some 20, some 21, some 22, some 23, some 24, some 25, some 26, some 27, some 28, some 29, some 30, some 31, some 32, some 33, some 34, some 35, some 36, some 37, some 38, some 39, some 40, some 41, some 42, some 43]) [true, true, true, true, true, true, true, true, true, true, true, true, true, true, true, true, true, true, true, true, true, true, true, true, true, true, true, true, true, true, true, true, true, true, true, true] (bl 36 68719476735) (by kernel_rfl) (by kernel_rfl) (by kernel_rfl) (by kernel_rfl) rfl (fun Z hZ => ?_)
        refine QD.ev T (by decide) rfl rfl ?_
        refine QD.ev T (by decide) rfl rfl ?_
        refine QD.ev T (by decide) rfl rfl ?_
        first | refine QD.yv (by decide) rfl (Yv.load 0 T rfl rfl rfl rfl) ?_ | refine QD.yv (by decide) rfl (Yv.load 1 T rfl rfl rfl rfl) ?_ | refine QD.yv (by decide) rfl (Yv.load 2 T rfl rfl rfl rfl) ?_ | refine QD.yv (by decide) rfl (Yv.loadI T hA rfl rfl) ?_
        refine QD.ev T (by decide) rfl rfl ?_
        refine QD.ev T (by decide) rfl rfl ?_
        refine QD.ev T (by decide) rfl rfl ?_
        first | refine QD.yv (by decide) rfl (Yv.load 0 T rfl rfl rfl rfl) ?_ | refine QD.yv (by decide) rfl (Yv.load 1 T rfl rfl rfl rfl) ?_ | refine QD.yv (by decide) rfl (Yv.load 2 T rfl rfl rfl rfl) ?_ | refine QD.yv (by decide) rfl (Yv.loadI T hA rfl rfl) ?_
        refine QD.ev T (by decide) rfl rfl ?_
        refine QD.e ((Ev.lss rfl rfl).as (show _ = Value.bool true from congrArg Value.bool (decide_eq_true (by omega)))) (by decide) rfl ?_
        refine QD.ev T (by decide) rfl rfl ?_
        first | refine QD.ev T (by decide) rfl rfl ?_ | refine QD.off (by decide) rfl ?_
        first | refine QD.ev T (by decide) rfl rfl ?_ | refine QD.off (by decide) rfl ?_
        first | refine QD.ev T (by decide) rfl rfl ?_ | refine QD.off (by decide) rfl ?_
        first | refine QD.yv (by decide) rfl (Yv.load 0 T rfl rfl rfl rfl) ?_ | refine QD.yv (by decide) rfl (Yv.load 1 T rfl rfl rfl rfl) ?_ | refine QD.yv (by decide) rfl (Yv.load 2 T rfl rfl rfl rfl) ?_ | refine QD.yv (by decide) rfl (Yv.loadI T hA rfl rfl) ?_ | refine QD.off (by decide) rfl ?_
        first | refine QD.ev T (by decide) rfl rfl ?_ | refine QD.off (by decide) rfl ?_
        first | refine QD.ev T (by decide) rfl rfl ?_ | refine QD.off (by decide) rfl ?_
        first | refine QD.ev T (by decide) rfl rfl ?_ | refine QD.off (by decide) rfl ?_
        first | refine QD.yv (by decide) rfl (Yv.load 0 T rfl rfl rfl rfl) ?_ | refine QD.yv (by decide) rfl (Yv.load 1 T rfl rfl rfl rfl) ?_ | refine QD.yv (by decide) rfl (Yv.load 2 T rfl rfl rfl rfl) ?_ | refine QD.yv (by decide) rfl (Yv.loadI T hA rfl rfl) ?_ | refine QD.off (by decide) rfl ?_
        first | refine QD.e (Ev.indexS T rfl rfl rfl rfl (by first | omega | (simp only [List.length_cons, List.length_nil] ; omega) | (simp; omega)) (by first | omega | (simp only [List.length_cons, List.length_nil] ; omega) | (simp; omega))) (by decide) rfl ?_ | refine QD.off (by decide) rfl ?_
        first | refine QD.yv (by decide) rfl (Yv.load 0 T rfl rfl rfl rfl) ?_ | refine QD.yv (by decide) rfl (Yv.load 1 T rfl rfl rfl rfl) ?_ | refine QD.yv (by decide) rfl (Yv.load 2 T rfl rfl rfl rfl) ?_ | refine QD.yv (by decide) rfl (Yv.loadI T hA rfl rfl) ?_ | refine QD.off (by decide) rfl ?_
        refine QD.e ((Ev.geq rfl rfl).as (show _ = Value.bool true from congrArg Value.bool (decide_eq_true (by omega)))) (by decide) rfl ?_
        refine QD.ev T (by decide) rfl rfl ?_
        refine QD.ev T (by decide) rfl rfl ?_
        first | refine QD.ev T (by decide) rfl rfl ?_ | refine QD.off (by decide) rfl ?_
        first | refine QD.ev T (by decide) rfl rfl ?_ | refine QD.off (by decide) rfl ?_
        first | refine QD.ev T (by decide) rfl rfl ?_ | refine QD.off (by decide) rfl ?_
        first | refine QD.yv (by decide) rfl (Yv.load 0 T rfl rfl rfl rfl) ?_ | refine QD.yv (by decide) rfl (Yv.load 1 T rfl rfl rfl rfl) ?_ | refine QD.yv (by decide) rfl (Yv.load 2 T rfl rfl rfl rfl) ?_ | refine QD.yv (by decide) rfl (Yv.loadI T hA rfl rfl) ?_ | refine QD.off (by decide) rfl ?_
        first | refine QD.ev T (by decide) rfl rfl ?_ | refine QD.off (by decide) rfl ?_
        first | refine QD.ev T (by decide) rfl rfl ?_ | refine QD.off (by decide) rfl ?_
        first | refine QD.ev T (by decide) rfl rfl ?_ | refine QD.off (by decide) rfl ?_
        first | refine QD.yv (by decide) rfl (Yv.load 0 T rfl rfl rfl rfl) ?_ | refine QD.yv (by decide) rfl (Yv.load 1 T rfl rfl rfl rfl) ?_ | refine QD.yv (by decide) rfl (Yv.load 2 T rfl rfl rfl rfl) ?_ | refine QD.yv (by decide) rfl (Yv.loadI T hA rfl rfl) ?_ | refine QD.off (by decide) rfl ?_
        first | refine QD.e (Ev.indexS T rfl rfl rfl rfl (by first | omega | (simp only [List.length_cons, List.length_nil] ; omega) | (simp; omega)) (by first | omega | (simp only [List.length_cons, List.length_nil] ; omega) | (simp; omega))) (by decide) rfl ?_ | refine QD.off (by decide) rfl ?_
        first | refine QD.yv (by decide) rfl (Yv.load 0 T rfl rfl rfl rfl) ?_ | refine QD.yv (by decide) rfl (Yv.load 1 T rfl rfl rfl rfl) ?_ | refine QD.yv (by decide) rfl (Yv.load 2 T rfl rfl rfl rfl) ?_ | refine QD.yv (by decide) rfl (Yv.loadI T hA rfl rfl) ?_ | refine QD.off (by decide) rfl ?_
        refine QD.e ((Ev.leq rfl rfl).as (show _ = Value.bool false from congrArg Value.bool (decide_eq_false (by omega)))) (by decide) rfl ?_
        refine QD.ev T (by decide) rfl rfl ?_
        refine QD.nil (hZ _ ?_)
        clear hZ Z
        repeat (first | refine Run.seq ?_ | refine Run.exit rfl ?_ | refine Run.cond_f rfl ?_)
        refine Run.regionO (D := [some 51, some 52, some 53, some 54, some 55, some 56, some 2]) [true, true, true, true, true, true, true] rfl rfl rfl (fun Z hZ => ?_)
        refine QD.ev T (by decide) rfl rfl ?_
        refine QD.ev T (by decide) rfl rfl ?_
        refine QD.ev T (by decide) rfl rfl ?_
        first | refine QD.yv (by decide) rfl (Yv.load 0 T rfl rfl rfl rfl) ?_ | refine QD.yv (by decide) rfl (Yv.load 1 T rfl rfl rfl rfl) ?_ | refine QD.yv (by decide) rfl (Yv.load 2 T rfl rfl rfl rfl) ?_
        refine QD.ev T (by decide) rfl rfl ?_
        refine QD.e (Ev.gtr rfl rfl) (by decide) rfl ?_
        refine QD.ev T (by decide) rfl rfl ?_
        refine QD.nil (hZ _ ?_)
        clear hZ Z
        skip
        refine Run.ret1 (by rw [hCf]; exact func150) results150 rfl (hR _ _ _ ?_)
        obtain ⟨f1, f2⟩ := digs_end hpq hq hs hyes (by exact fun _ => hd)
        rw [f1, f2]
        exact ⟨rfl, congrArg Value.bool (by simp), rfl⟩
    · have hd : isDg (xs.getD q 0) = false := by simp only [isDg, Bool.and_eq_false_iff, decide_eq_false_iff_not]; exact .inl h1
      generalize hb : xs.getD q 0 = b at hA h1
      repeat (first | refine Run.seq ?_)
      refine Run.regionQ (D := [some 8, some 9, some 10, some 11, some 12, some 13, some 14, some 15, some 16, some 17, some 18, some 19, some 20, some 21, some 22, some 23, some 24, some 25, some 26, some 27, some 28, some 29, some 30, some 31, some 32, some 33, some 34, some 35, some 36, some 37, some 38, some 39, some 40, some 41, some 42, some 43]) [true, true, true, true, true, true, true, true, true, true, true, true, true, true, true, true, true, true, true, true, true, true, true, true, true, true, true, true, true, true, true, true, true, true, true, true] (bl 36 68719476735) (by kernel_rfl) (by kernel_rfl) (by kernel_rfl) (by kernel_rfl) rfl (fun Z hZ => ?_)
      refine QD.ev T (by decide) rfl rfl ?_
      refine QD.ev T (by decide) rfl rfl ?_
      refine QD.ev T (by decide) rfl rfl ?_
      first | refine QD.yv (by decide) rfl (Yv.load 0 T rfl rfl rfl rfl) ?_ | refine QD.yv (by decide) rfl (Yv.load 1 T rfl rfl rfl rfl) ?_ | refine QD.yv (by decide) rfl (Yv.load 2 T rfl rfl rfl rfl) ?_ | refine QD.yv (by decide) rfl (Yv.loadI T hA rfl rfl) ?_
      refine QD.ev T (by decide) rfl rfl ?_
      refine QD.ev T (by decide) rfl rfl ?_
      refine QD.ev T (by decide) rfl rfl ?_
      first | refine QD.yv (by decide) rfl (Yv.load 0 T rfl rfl rfl rfl) ?_ | refine QD.yv (by decide) rfl (Yv.load 1 T rfl rfl rfl rfl) ?_ | refine QD.yv (by decide) rfl (Yv.load 2 T rfl rfl rfl rfl) ?_ | refine QD.yv (by decide) rfl (Yv.loadI T hA rfl rfl) ?_
      refine QD.ev T (by decide) rfl rfl ?_
      refine QD.e ((Ev.lss rfl rfl).as (show _ = Value.bool true from congrArg Value.bool (decide_eq_true (by omega)))) (by decide) rfl ?_
      refine QD.ev T (by decide) rfl rfl ?_
      first | refine QD.ev T (by decide) rfl rfl ?_ | refine QD.off (by decide) rfl ?_
      first | refine QD.ev T (by decide) rfl rfl ?_ | refine QD.off (by decide) rfl ?_
      first | refine QD.ev T (by decide) rfl rfl ?_ | refine QD.off (by decide) rfl ?_
      first | refine QD.yv (by decide) rfl (Yv.load 0 T rfl rfl rfl rfl) ?_ | refine QD.yv (by decide) rfl (Yv.load 1 T rfl rfl rfl rfl) ?_ | refine QD.yv (by decide) rfl (Yv.load 2 T rfl rfl rfl rfl) ?_ | refine QD.yv (by decide) rfl (Yv.loadI T hA rfl rfl) ?_ | refine QD.off (by decide) rfl ?_
      first | refine QD.ev T (by decide) rfl rfl ?_ | refine QD.off (by decide) rfl ?_
      first | refine QD.ev T (by decide) rfl rfl ?_ | refine QD.off (by decide) rfl ?_
      first | refine QD.ev T (by decide) rfl rfl ?_ | refine QD.off (by decide) rfl ?_
      first | refine QD.yv (by decide) rfl (Yv.load 0 T rfl rfl rfl rfl) ?_ | refine QD.yv (by decide) rfl (Yv.load 1 T rfl rfl rfl rfl) ?_ | refine QD.yv (by decide) rfl (Yv.load 2 T rfl rfl rfl rfl) ?_ | refine QD.yv (by decide) rfl (Yv.loadI T hA rfl rfl) ?_ | refine QD.off (by decide) rfl ?_
      first | refine QD.e (Ev.indexS T rfl rfl rfl rfl (by first | omega | (simp only [List.length_cons, List.length_nil] ; omega) | (simp; omega)) (by first | omega | (simp only [List.length_cons, List.length_nil] ; omega) | (simp; omega))) (by decide) rfl ?_ | refine QD.off (by decide) rfl ?_
      first | refine QD.yv (by decide) rfl (Yv.load 0 T rfl rfl rfl rfl) ?_ | refine QD.yv (by decide) rfl (Yv.load 1 T rfl rfl rfl rfl) ?_ | refine QD.yv (by decide) rfl (Yv.load 2 T rfl rfl rfl rfl) ?_ | refine QD.yv (by decide) rfl (Yv.loadI T hA rfl rfl) ?_ | refine QD.off (by decide) rfl ?_
      refine QD.e ((Ev.geq rfl rfl).as (show _ = Value.bool false from congrArg Value.bool (decide_eq_false (by omega)))) (by decide) rfl ?_
      refine QD.ev T (by decide) rfl rfl ?_
      refine QD.ev T (by decide) rfl rfl ?_
      first | refine QD.ev T (by decide) rfl rfl ?_ | refine QD.off (by decide) rfl ?_
      first | refine QD.ev T (by decide) rfl rfl ?_ | refine QD.off (by decide) rfl ?_
      first | refine QD.ev T (by decide) rfl rfl ?_ | refine QD.off (by decide) rfl ?_
      first | refine QD.yv (by decide) rfl (Yv.load 0 T rfl rfl rfl rfl) ?_ | refine QD.yv (by decide) rfl (Yv.load 1 T rfl rfl rfl rfl) ?_ | refine QD.yv (by decide) rfl (Yv.load 2 T rfl rfl rfl rfl) ?_ | refine QD.yv (by decide) rfl (Yv.loadI T hA rfl rfl) ?_ | refine QD.off (by decide) rfl ?_
      first | refine QD.ev T (by decide) rfl rfl ?_ | refine QD.off (by decide) rfl ?_
      first | refine QD.ev T (by decide) rfl rfl ?_ | refine QD.off (by decide) rfl ?_
      first | refine QD.ev T (by decide) rfl rfl ?_ | refine QD.off (by decide) rfl ?_
      first | refine QD.yv (by decide) rfl (Yv.load 0 T rfl rfl rfl rfl) ?_ | refine QD.yv (by decide) rfl (Yv.load 1 T rfl rfl rfl rfl) ?_ | refine QD.yv (by decide) rfl (Yv.load 2 T rfl rfl rfl rfl) ?_ | refine QD.yv (by decide) rfl (Yv.loadI T hA rfl rfl) ?_ | refine QD.off (by decide) rfl ?_
      first | refine QD.e (Ev.indexS T rfl rfl rfl rfl (by first | omega | (simp only [List.length_cons, List.length_nil] ; omega) | (simp; omega)) (by first | omega | (simp only [List.length_cons, List.length_nil] ; omega) | (simp; omega))) (by decide) rfl ?_ | refine QD.off (by decide) rfl ?_
      first | refine QD.yv (by decide) rfl (Yv.load 0 T rfl rfl rfl rfl) ?_ | refine QD.yv (by decide) rfl (Yv.load 1 T rfl rfl rfl rfl) ?_ | refine QD.yv (by decide) rfl (Yv.load 2 T rfl rfl rfl rfl) ?_ | refine QD.yv (by decide) rfl (Yv.loadI T hA rfl rfl) ?_ | refine QD.off (by decide) rfl ?_
      first | refine QD.e (Ev.leq rfl rfl) (by decide) rfl ?_ | refine QD.off (by decide) rfl ?_
      refine QD.ev T (by decide) rfl rfl ?_
      refine QD.nil (hZ _ ?_)
      clear hZ Z
      repeat (first | refine Run.seq ?_ | refine Run.exit rfl ?_ | refine Run.cond_f rfl ?_)
      refine Run.regionO (D := [some 51, some 52, some 53, some 54, some 55, some 56, some 2]) [true, true, true, true, true, true, true] rfl rfl rfl (fun Z hZ => ?_)
      refine QD.ev T (by decide) rfl rfl ?_
      refine QD.ev T (by decide) rfl rfl ?_
      refine QD.ev T (by decide) rfl rfl ?_
      first | refine QD.yv (by decide) rfl (Yv.load 0 T rfl rfl rfl rfl) ?_ | refine QD.yv (by decide) rfl (Yv.load 1 T rfl rfl rfl rfl) ?_ | refine QD.yv (by decide) rfl (Yv.load 2 T rfl rfl rfl rfl) ?_
      refine QD.ev T (by decide) rfl rfl ?_
      refine QD.e (Ev.gtr rfl rfl) (by decide) rfl ?_
      refine QD.ev T (by decide) rfl rfl ?_
      refine QD.nil (hZ _ ?_)
      clear hZ Z
      skip
      refine Run.ret1 (by rw [hCf]; exact func150) results150 rfl (hR _ _ _ ?_)
      obtain ⟨f1, f2⟩ := digs_end hpq hq hs hyes (by exact fun _ => hd)
      rw [f1, f2]
      exact ⟨rfl, congrArg Value.bool (by simp), rfl⟩
  · skip
    repeat (first | refine Run.seq ?_)
    refine Run.regionQ (D := [some 8, some 9, some 10, some 11, some 12, some 13, some 14, some 15, some 16, some 17, some 18, some 19, some 20, some 21, some 22, some 23, some 24, some 25, some 26, some 27, some 28, some 29, some 30, some 31, some 32, some 33, some 34, some 35, some 36, some 37, some 38, some 39, some 40, some 41, some 42, some 43]) [true, true, true, true, true, true, true, true, true, true, true, true, true, true, true, true, true, true, true, true, true, true, true, true, true, true, true, true, true, true, true, true, true, true, true, true] (bl 36 68719476735) (by kernel_rfl) (by kernel_rfl) (by kernel_rfl) (by kernel_rfl) rfl (fun Z hZ => ?_)
    refine QD.ev T (by decide) rfl rfl ?_
    refine QD.ev T (by decide) rfl rfl ?_
    refine QD.ev T (by decide) rfl rfl ?_
    first | refine QD.yv (by decide) rfl (Yv.load 0 T rfl rfl rfl rfl) ?_ | refine QD.yv (by decide) rfl (Yv.load 1 T rfl rfl rfl rfl) ?_ | refine QD.yv (by decide) rfl (Yv.load 2 T rfl rfl rfl rfl) ?_
    refine QD.ev T (by decide) rfl rfl ?_
    refine QD.ev T (by decide) rfl rfl ?_
    refine QD.ev T (by decide) rfl rfl ?_
    first | refine QD.yv (by decide) rfl (Yv.load 0 T rfl rfl rfl rfl) ?_ | refine QD.yv (by decide) rfl (Yv.load 1 T rfl rfl rfl rfl) ?_ | refine QD.yv (by decide) rfl (Yv.load 2 T rfl rfl rfl rfl) ?_
    refine QD.ev T (by decide) rfl rfl ?_
    refine QD.e ((Ev.lss rfl rfl).as (show _ = Value.bool false from congrArg Value.bool (decide_eq_false (by omega)))) (by decide) rfl ?_
    refine QD.ev T (by decide) rfl rfl ?_
    first | refine QD.ev T (by decide) rfl rfl ?_ | refine QD.off (by decide) rfl ?_
    first | refine QD.ev T (by decide) rfl rfl ?_ | refine QD.off (by decide) rfl ?_
    first | refine QD.ev T (by decide) rfl rfl ?_ | refine QD.off (by decide) rfl ?_
    first | refine QD.yv (by decide) rfl (Yv.load 0 T rfl rfl rfl rfl) ?_ | refine QD.yv (by decide) rfl (Yv.load 1 T rfl rfl rfl rfl) ?_ | refine QD.yv (by decide) rfl (Yv.load 2 T rfl rfl rfl rfl) ?_ | refine QD.off (by decide) rfl ?_
    first | refine QD.ev T (by decide) rfl rfl ?_ | refine QD.off (by decide) rfl ?_
    first | refine QD.ev T (by decide) rfl rfl ?_ | refine QD.off (by decide) rfl ?_
    first | refine QD.ev T (by decide) rfl rfl ?_ | refine QD.off (by decide) rfl ?_
    first | refine QD.yv (by decide) rfl (Yv.load 0 T rfl rfl rfl rfl) ?_ | refine QD.yv (by decide) rfl (Yv.load 1 T rfl rfl rfl rfl) ?_ | refine QD.yv (by decide) rfl (Yv.load 2 T rfl rfl rfl rfl) ?_ | refine QD.off (by decide) rfl ?_
    first | refine QD.e (Ev.indexS T rfl rfl rfl rfl (by first | omega | (simp only [List.length_cons, List.length_nil] ; omega) | (simp; omega)) (by first | omega | (simp only [List.length_cons, List.length_nil] ; omega) | (simp; omega))) (by decide) rfl ?_ | refine QD.off (by decide) rfl ?_
    first | refine QD.yv (by decide) rfl (Yv.load 0 T rfl rfl rfl rfl) ?_ | refine QD.yv (by decide) rfl (Yv.load 1 T rfl rfl rfl rfl) ?_ | refine QD.yv (by decide) rfl (Yv.load 2 T rfl rfl rfl rfl) ?_ | refine QD.off (by decide) rfl ?_
    first | refine QD.e (Ev.geq rfl rfl) (by decide) rfl ?_ | refine QD.off (by decide) rfl ?_
    refine QD.ev T (by decide) rfl rfl ?_
    refine QD.ev T (by decide) rfl rfl ?_
    first | refine QD.ev T (by decide) rfl rfl ?_ | refine QD.off (by decide) rfl ?_
    first | refine QD.ev T (by decide) rfl rfl ?_ | refine QD.off (by decide) rfl ?_
    first | refine QD.ev T (by decide) rfl rfl ?_ | refine QD.off (by decide) rfl ?_
    first | refine QD.yv (by decide) rfl (Yv.load 0 T rfl rfl rfl rfl) ?_ | refine QD.yv (by decide) rfl (Yv.load 1 T rfl rfl rfl rfl) ?_ | refine QD.yv (by decide) rfl (Yv.load 2 T rfl rfl rfl rfl) ?_ | refine QD.off (by decide) rfl ?_
    first | refine QD.ev T (by decide) rfl rfl ?_ | refine QD.off (by decide) rfl ?_
    first | refine QD.ev T (by decide) rfl rfl ?_ | refine QD.off (by decide) rfl ?_
    first | refine QD.ev T (by decide) rfl rfl ?_ | refine QD.off (by decide) rfl ?_
    first | refine QD.yv (by decide) rfl (Yv.load 0 T rfl rfl rfl rfl) ?_ | refine QD.yv (by decide) rfl (Yv.load 1 T rfl rfl rfl rfl) ?_ | refine QD.yv (by decide) rfl (Yv.load 2 T rfl rfl rfl rfl) ?_ | refine QD.off (by decide) rfl ?_
    first | refine QD.e (Ev.indexS T rfl rfl rfl rfl (by first | omega | (simp only [List.length_cons, List.length_nil] ; omega) | (simp; omega)) (by first | omega | (simp only [List.length_cons, List.length_nil] ; omega) | (simp; omega))) (by decide) rfl ?_ | refine QD.off (by decide) rfl ?_
    first | refine QD.yv (by decide) rfl (Yv.load 0 T rfl rfl rfl rfl) ?_ | refine QD.yv (by decide) rfl (Yv.load 1 T rfl rfl rfl rfl) ?_ | refine QD.yv (by decide) rfl (Yv.load 2 T rfl rfl rfl rfl) ?_ | refine QD.off (by decide) rfl ?_
    first | refine QD.e (Ev.leq rfl rfl) (by decide) rfl ?_ | refine QD.off (by decide) rfl ?_
    refine QD.ev T (by decide) rfl rfl ?_
    refine QD.nil (hZ _ ?_)
    clear hZ Z
    repeat (first | refine Run.seq ?_ | refine Run.exit rfl ?_ | refine Run.cond_f rfl ?_)
    refine Run.regionO (D := [some 51, some 52, some 53, some 54, some 55, some 56, some 2]) [true, true, true, true, true, true, true] rfl rfl rfl (fun Z hZ => ?_)
    refine QD.ev T (by decide) rfl rfl ?_
    refine QD.ev T (by decide) rfl rfl ?_
    refine QD.ev T (by decide) rfl rfl ?_
    first | refine QD.yv (by decide) rfl (Yv.load 0 T rfl rfl rfl rfl) ?_ | refine QD.yv (by decide) rfl (Yv.load 1 T rfl rfl rfl rfl) ?_ | refine QD.yv (by decide) rfl (Yv.load 2 T rfl rfl rfl rfl) ?_
    refine QD.ev T (by decide) rfl rfl ?_
    refine QD.e (Ev.gtr rfl rfl) (by decide) rfl ?_
    refine QD.ev T (by decide) rfl rfl ?_
    refine QD.nil (hZ _ ?_)
    clear hZ Z
    skip
    refine Run.ret1 (by rw [hCf]; exact func150) results150 rfl (hR _ _ _ ?_)
    obtain ⟨f1, f2⟩ := digs_end hpq hq hs hyes (by exact fun h => absurd h hlt)
    rw [f1, f2]
    exact ⟨rfl, congrArg Value.bool (by simp), rfl⟩
end Go.V
namespace Go.V
open Go.Proofs.Tryz
open Go.RowKit
set_option linter.unusedVariables false
set_option linter.unusedSimpArgs false
set_option maxRecDepth 10000
attribute [local irreducible] Run Ops QD
theorem sfx_drop {xs t s : Bs} (h : Sfx t xs) : xs.drop (posR xs t) = t ∧ posR xs t ≤ xs.length := by
  obtain ⟨u, rfl⟩ := h
  refine ⟨?_, by unfold posR; omega⟩
  unfold posR
  rw [List.length_append, Nat.add_sub_cancel, List.drop_left]
theorem word_at (w t : Bs) (I : Imm) (xs : Bs) (v : Value) (db off c r d : Nat) (hR0 : Rd I v xs db off c) (ht : Sfx t xs) (hl : xs.length ≤ 1099511627776) (hw : w ≠ []) (hw2 : w.length ≤ 1000) :
    Spec prog 142 [.pointer (some ⟨r, 0, none⟩), str w] I [(r, rdr v (posR xs t) d)] fun x J M => J = I ∧
      x = .bool (wordR w t).isSome ∧ M = [(r, rdr v (posR xs ((wordR w t).getD t)) d)] := by
  obtain ⟨h1, h2⟩ := sfx_drop (s := []) ht
  have := reader_word w I xs v db off c r (posR xs t) d hR0 h2 hl hw hw2
  rwa [h1] at this
theorem digits_at (t : Bs) (I : Imm) (xs : Bs) (v : Value) (db off c r d : Nat) (hR0 : Rd I v xs db off c) (ht : Sfx t xs) (hl : xs.length ≤ 1099511627776) :
    Spec prog 150 [.pointer (some ⟨r, 0, none⟩)] I [(r, rdr v (posR xs t) d)] fun x J M => J = I ∧ x = .bool (digsR t).isSome ∧ M = [(r, rdr v (posR xs ((digsR t).getD t)) d)] := by
  obtain ⟨h1, h2⟩ := sfx_drop (s := []) ht
  have := reader_digits I xs v db off c r (posR xs t) d hR0 h2 hl
  rwa [h1] at this
theorem blank_at (t : Bs) (I : Imm) (xs : Bs) (v : Value) (db off c r d : Nat) (hR0 : Rd I v xs db off c) (ht : Sfx t xs) (hl : xs.length ≤ 1099511627776) :
    Spec prog 121 [.pointer (some ⟨r, 0, none⟩)] I [(r, rdr v (posR xs t) d)] fun w J M => M = [(r, rdr v (posR xs (skipB t)) d)] ∧ J = I := by
  obtain ⟨h1, h2⟩ := sfx_drop (s := []) ht
  have := reader_blank I xs v db off c r (posR xs t) d hR0 h2 hl
  rwa [h1] at this
theorem Sfx.wordG {w t xs : Bs} (h : Sfx t xs) : Sfx ((wordR w t).getD t) xs := by
  cases e : wordR w t with
  | none => exact h
  | some q => exact (word_sfx e).1.trans h
set_option maxHeartbeats 4000000 in
theorem reader_number (t : Bs) (I : Imm) (xs : Bs) (v : Value) (db off c r d : Nat) (hR0 : Rd I v xs db off c) (ht : Sfx t xs) (hl : xs.length ≤ 1099511627776) :
    Spec prog 143 [.pointer (some ⟨r, 0, none⟩)] I [(r, rdr v (posR xs t) d)] fun x J M => J = I ∧ match numR t with
      | some t' => x = .tuple #[str (eaten t t'), .bool true] ∧ M = [(r, rdr v (posR xs t') d)]
      | none => ∃ q, posR xs t ≤ q ∧ q ≤ xs.length ∧ x = .tuple #[str [], .bool false] ∧ M = [(r, rdr v q d)] := by
  have hWd : ∀ (w t : Bs), Sfx t xs → w ≠ [] → w.length ≤ 1000 → _ := fun w t ht hw hw2 => word_at w t I xs v db off c r d hR0 ht hl hw hw2
  have hDg : ∀ (t : Bs), Sfx t xs → _ := fun t ht => digits_at t I xs v db off c r d hR0 ht hl
  obtain rfl := hR0.eq
  have hcap := hR0.cap
  have le : ∀ {a b : Bs}, Sfx a b → Sfx b xs → posR xs b ≤ posR xs a ∧ posR xs a ≤ xs.length := fun h k => by
    have h1 := h.len
    have h2 := k.len
    unfold posR; omega
  refine Spec.enter 51 [(0, _)] func143 rfl ntmps143 (by simp) rfl ?_
  intro C hCf hR hCI
  repeat (first | refine Run.seq ?_)
  refine Run.regionO (D := [some 2, some 3]) [true, true] rfl rfl rfl (fun Z hZ => ?_)
  refine QD.ev T (by decide) rfl rfl ?_
  refine QD.ev T (by decide) rfl rfl ?_
  refine QD.nil (hZ _ ?_)
  clear hZ Z
  repeat (first | refine Run.seq ?_)
  refine Run.regionO (D := [some 5, some 6, some 7, some 8, some 4]) [true, true, true, true, true] rfl rfl rfl (fun Z hZ => ?_)
  refine QD.ev T (by decide) rfl rfl ?_
  refine QD.ev T (by decide) rfl rfl ?_
  refine QD.ev T (by decide) rfl rfl ?_
  first | refine QD.yv (by decide) rfl (Yv.load 0 T rfl rfl rfl rfl) ?_ | refine QD.yv (by decide) rfl (Yv.load 1 T rfl rfl rfl rfl) ?_ | refine QD.yv (by decide) rfl (Yv.load 2 T rfl rfl rfl rfl) ?_
  refine QD.ev T (by decide) rfl rfl ?_
  refine QD.nil (hZ _ ?_)
  clear hZ Z
  repeat (first | refine Run.seq ?_)
  refine Run.regionP (D := [some 9, some 10]) [true] 1 rfl rfl rfl (by simp only [List.drop_succ_cons, List.drop_zero]; rfl) (fun Z hZ => ?_)
  refine QD.ev T (by decide) rfl rfl ?_
  refine QD.nil (hZ _ ?_)
  clear hZ Z
  refine Ops.callP (N := []) ((hWd [45] t ht (by decide) (by decide))) (.refl _) rfl (by decide) call142 rfl ?_
  rintro x J1 M1 l1 ⟨rfl, rfl, rfl⟩
  refine Ops.nil ?_
  have h1 : Sfx (numR1 t) xs := ht.wordG
  have e1 : (wordR [45] t).getD t = numR1 t := rfl
  rw [e1]
  have hle1 := le (num1_sfx t) ht
  repeat (first | refine Run.seq ?_)
  refine Run.piece (fun env L I' => ∃ b q, env = [(0, .pointer (some ⟨r, 0, none⟩)), (4, .int .i64 (posR xs t : Int)), (18, .bool b)] ∧ L = [(r, rdr (.slice (some ⟨db, off, none⟩) xs.length c) q d)] ∧ J1 = I' ∧
    match numR2 (numR1 t) with | some s => b = false ∧ q = posR xs s | none => b = true ∧ posR xs t ≤ q ∧ q ≤ xs.length) (fun k' hk => ?_) ?_
  · skip
    refine Run.region ?_
    refine Ops.pure T rfl (by decide) rfl ?_
    refine Ops.callP (N := []) ((hWd [48] _ h1 (by decide) (by decide))) (.refl _) rfl (by decide) call142 rfl ?_
    rintro x J2 M2 l2 ⟨rfl, rfl, rfl⟩
    cases h2 : wordR [48] (numR1 t) with
    | some s2 =>
      simp only [Option.isSome_some, Option.getD_some]
      refine Ops.pure T rfl (by decide) rfl ?_
      refine Ops.pure T rfl (by decide) rfl ?_
      first | refine Ops.pure T rfl (by decide) rfl ?_ | refine Ops.not rfl (by decide) ?_ | refine Ops.notU rfl (by decide) ?_
      first | refine Ops.not rfl (by decide) ?_ | refine Ops.notU rfl (by decide) ?_
      first | refine Ops.pure T rfl (by decide) rfl ?_ | refine Ops.not rfl (by decide) ?_ | refine Ops.notU rfl (by decide) ?_
      refine Ops.pure T rfl (by decide) rfl ?_
      refine Ops.nil ?_
      refine Run.keep [0, 4, 18] [_, _, _] rfl ?_
      exact hk _ _ _ ⟨false, _, rfl, rfl, rfl, by simp only [numR2, h2]; exact ⟨trivial, trivial⟩⟩
    | none =>
      simp only [Option.isSome_none, Option.getD_none]
      refine Ops.pure T rfl (by decide) rfl ?_
      refine Ops.pure T rfl (by decide) rfl ?_
      first | refine Ops.pure T rfl (by decide) rfl ?_ | refine Ops.not rfl (by decide) ?_ | refine Ops.notU rfl (by decide) ?_
      refine Ops.callP (N := []) ((hDg _ h1)) (.refl _) rfl (by decide) call150 rfl ?_
      rintro x J3 M3 l3 ⟨rfl, rfl, rfl⟩
      have e2 : numR2 (numR1 t) = digsR (numR1 t) := by simp only [numR2, h2]
      cases h3 : digsR (numR1 t) with
      | some s2 =>
        simp only [Option.isSome_some, Option.getD_some]
        first | refine Ops.pure T rfl (by decide) rfl ?_ | refine Ops.not rfl (by decide) ?_ | refine Ops.notU rfl (by decide) ?_
        refine Ops.pure T rfl (by decide) rfl ?_
        refine Ops.nil ?_
        refine Run.keep [0, 4, 18] [_, _, _] rfl ?_
        exact hk _ _ _ ⟨false, _, rfl, rfl, rfl, by rw [e2, h3]; exact ⟨rfl, rfl⟩⟩
      | none =>
        simp only [Option.isSome_none, Option.getD_none]
        first | refine Ops.pure T rfl (by decide) rfl ?_ | refine Ops.not rfl (by decide) ?_ | refine Ops.notU rfl (by decide) ?_
        refine Ops.pure T rfl (by decide) rfl ?_
        refine Ops.nil ?_
        refine Run.keep [0, 4, 18] [_, _, _] rfl ?_
        exact hk _ _ _ ⟨true, _, rfl, rfl, rfl, by rw [e2, h3]; exact ⟨rfl, hle1⟩⟩
  rintro env L I' ⟨b, q, rfl, rfl, rfl, hb⟩
  cases hn2 : numR2 (numR1 t) with
  | none =>
    rw [hn2] at hb
    obtain ⟨rfl, hq1, hq2⟩ := hb
    have hn : numR t = none := by simp only [numR, hn2, Option.bind_none]
    repeat (first | refine Run.seq ?_ | refine Run.cond_t rfl ?_)
    refine Run.regionO (D := [some 2, some 3]) [true, true] rfl rfl rfl (fun Z hZ => ?_)
    refine QD.ev T (by decide) rfl rfl ?_
    refine QD.ev T (by decide) rfl rfl ?_
    refine QD.nil (hZ _ ?_)
    clear hZ Z
    skip
    refine Run.ret2 (by rw [hCf]; exact func143) results143 rfl rfl (hR _ _ _ ?_)
    rw [hn]
    exact ⟨rfl, q, hq1, hq2, rfl, rfl⟩
  | some s2 =>
    rw [hn2] at hb
    obtain ⟨rfl, rfl⟩ := hb
    have h2 : Sfx s2 xs := (num2_sfx hn2).1.trans h1
    have k2 : Sfx s2 t := (num2_sfx hn2).1.trans (num1_sfx t)
    have hle2 := le k2 ht
    repeat (first | refine Run.seq ?_ | refine Run.skip ?_ | refine Run.cond_f rfl ?_)
    refine Run.piece (fun env L I' => ∃ b q, env = [(0, .pointer (some ⟨r, 0, none⟩)), (4, .int .i64 (posR xs t : Int)), (25, .bool b)] ∧ L = [(r, rdr (.slice (some ⟨db, off, none⟩) xs.length c) q d)] ∧ J1 = I' ∧
      match numR3 s2 with | some s => b = false ∧ q = posR xs s | none => b = true ∧ posR xs t ≤ q ∧ q ≤ xs.length) (fun k' hk => ?_) ?_
    · skip
      refine Run.region ?_
      refine Ops.pure T rfl (by decide) rfl ?_
      refine Ops.callP (N := []) ((hWd [46] _ h2 (by decide) (by decide))) (.refl _) rfl (by decide) call142 rfl ?_
      rintro x J2 M2 l2 ⟨rfl, rfl, rfl⟩
      cases h3 : wordR [46] s2 with
      | none =>
        simp only [Option.isSome_none, Option.getD_none]
        refine Ops.pure T rfl (by decide) rfl ?_
        first | refine Ops.pure T rfl (by decide) rfl ?_ | refine Ops.not rfl (by decide) ?_ | refine Ops.notU rfl (by decide) ?_
        first | refine Ops.not rfl (by decide) ?_ | refine Ops.notU rfl (by decide) ?_
        first | refine Ops.pure T rfl (by decide) rfl ?_ | refine Ops.not rfl (by decide) ?_ | refine Ops.notU rfl (by decide) ?_
        refine Ops.pure T rfl (by decide) rfl ?_
        refine Ops.nil ?_
        refine Run.keep [0, 4, 25] [_, _, _] rfl ?_
        exact hk _ _ _ ⟨false, _, rfl, rfl, rfl, by simp only [numR3, h3]; exact ⟨trivial, trivial⟩⟩
      | some s3 =>
        have h3' : Sfx s3 xs := (word_sfx h3).1.trans h2
        have k3 : Sfx s3 t := (word_sfx h3).1.trans k2
        simp only [Option.isSome_some, Option.getD_some]
        refine Ops.pure T rfl (by decide) rfl ?_
        first | refine Ops.pure T rfl (by decide) rfl ?_ | refine Ops.not rfl (by decide) ?_ | refine Ops.notU rfl (by decide) ?_
        refine Ops.callP (N := []) ((hDg _ h3')) (.refl _) rfl (by decide) call150 rfl ?_
        rintro x J3 M3 l3 ⟨rfl, rfl, rfl⟩
        have e3 : numR3 s2 = digsR s3 := by simp only [numR3, h3]
        cases h4 : digsR s3 with
        | some s4 =>
          simp only [Option.isSome_some, Option.getD_some]
          first | refine Ops.pure T rfl (by decide) rfl ?_ | refine Ops.not rfl (by decide) ?_ | refine Ops.notU rfl (by decide) ?_
          refine Ops.pure T rfl (by decide) rfl ?_
          refine Ops.nil ?_
          refine Run.keep [0, 4, 25] [_, _, _] rfl ?_
          exact hk _ _ _ ⟨false, _, rfl, rfl, rfl, by rw [e3, h4]; exact ⟨rfl, rfl⟩⟩
        | none =>
          simp only [Option.isSome_none, Option.getD_none]
          first | refine Ops.pure T rfl (by decide) rfl ?_ | refine Ops.not rfl (by decide) ?_ | refine Ops.notU rfl (by decide) ?_
          refine Ops.pure T rfl (by decide) rfl ?_
          refine Ops.nil ?_
          refine Run.keep [0, 4, 25] [_, _, _] rfl ?_
          exact hk _ _ _ ⟨true, _, rfl, rfl, rfl, by rw [e3, h4]; exact ⟨rfl, le k3 ht⟩⟩
    rintro env L I' ⟨b, q, rfl, rfl, rfl, hb⟩
    cases hn3 : numR3 s2 with
    | none =>
      rw [hn3] at hb
      obtain ⟨rfl, hq1, hq2⟩ := hb
      have hn : numR t = none := by simp only [numR, hn2, Option.bind_some, hn3, Option.bind_none]
      repeat (first | refine Run.seq ?_ | refine Run.cond_t rfl ?_)
      refine Run.regionO (D := [some 2, some 3]) [true, true] rfl rfl rfl (fun Z hZ => ?_)
      refine QD.ev T (by decide) rfl rfl ?_
      refine QD.ev T (by decide) rfl rfl ?_
      refine QD.nil (hZ _ ?_)
      clear hZ Z
      skip
      refine Run.ret2 (by rw [hCf]; exact func143) results143 rfl rfl (hR _ _ _ ?_)
      rw [hn]
      exact ⟨rfl, q, hq1, hq2, rfl, rfl⟩
    | some s3 =>
      rw [hn3] at hb
      obtain ⟨rfl, rfl⟩ := hb
      have h3 : Sfx s3 xs := (num3_sfx hn3).trans h2
      have k3 : Sfx s3 t := (num3_sfx hn3).trans k2
      have hN : numR t = numR4 s3 := by simp only [numR, hn2, Option.bind_some, hn3]
      repeat (first | refine Run.seq ?_ | refine Run.skip ?_ | refine Run.cond_f rfl ?_)
      refine Run.piece (fun env L I' => ∃ b q, env = [(0, .pointer (some ⟨r, 0, none⟩)), (4, .int .i64 (posR xs t : Int)), (31, .bool b)] ∧ L = [(r, rdr (.slice (some ⟨db, off, none⟩) xs.length c) q d)] ∧ J1 = I' ∧
        ((b = false ∧ numR4 s3 = some s3 ∧ q = posR xs s3) ∨ (b = true ∧ ∃ s4, Sfx s4 s3 ∧ q = posR xs s4 ∧ numR4 s3 = digsR ((wordR [43] s4).getD (numR1 s4))))) (fun k' hk => ?_) ?_
      · skip
        refine Run.region ?_
        refine Ops.pure T rfl (by decide) rfl ?_
        refine Ops.callP (N := []) ((hWd [101] _ h3 (by decide) (by decide))) (.refl _) rfl (by decide) call142 rfl ?_
        rintro x J2 M2 l2 ⟨rfl, rfl, rfl⟩
        cases h4 : wordR [101] s3 with
        | some s4 =>
          simp only [Option.isSome_some, Option.getD_some]
          refine Ops.pure T rfl (by decide) rfl ?_
          first | refine Ops.pure T rfl (by decide) rfl ?_ | refine Ops.not rfl (by decide) ?_ | refine Ops.notU rfl (by decide) ?_
          first | refine Ops.not rfl (by decide) ?_ | refine Ops.notU rfl (by decide) ?_
          refine Ops.pure T rfl (by decide) rfl ?_
          refine Ops.nil ?_
          refine Run.keep [0, 4, 31] [_, _, _] rfl ?_
          exact hk _ _ _ ⟨true, _, rfl, rfl, rfl, .inr ⟨rfl, s4, (word_sfx h4).1, rfl, by simp only [numR4, h4]⟩⟩
        | none =>
          simp only [Option.isSome_none, Option.getD_none]
          refine Ops.pure T rfl (by decide) rfl ?_
          first | refine Ops.pure T rfl (by decide) rfl ?_ | refine Ops.not rfl (by decide) ?_ | refine Ops.notU rfl (by decide) ?_
          refine Ops.callP (N := []) ((hWd [69] _ h3 (by decide) (by decide))) (.refl _) rfl (by decide) call142 rfl ?_
          rintro x J3 M3 l3 ⟨rfl, rfl, rfl⟩
          cases h5 : wordR [69] s3 with
          | some s4 =>
            simp only [Option.isSome_some, Option.getD_some]
            refine Ops.pure T rfl (by decide) rfl ?_
            refine Ops.nil ?_
            refine Run.keep [0, 4, 31] [_, _, _] rfl ?_
            exact hk _ _ _ ⟨true, _, rfl, rfl, rfl, .inr ⟨rfl, s4, (word_sfx h5).1, rfl, by simp only [numR4, h4, h5]⟩⟩
          | none =>
            simp only [Option.isSome_none, Option.getD_none]
            refine Ops.pure T rfl (by decide) rfl ?_
            refine Ops.nil ?_
            refine Run.keep [0, 4, 31] [_, _, _] rfl ?_
            exact hk _ _ _ ⟨false, _, rfl, rfl, rfl, .inl ⟨rfl, by simp only [numR4, h4, h5], rfl⟩⟩
      rintro env L I' ⟨b, q, rfl, rfl, rfl, hb⟩
      skip
      refine Run.piece (fun env L I' => ∃ s4, env = [(0, .pointer (some ⟨r, 0, none⟩)), (4, .int .i64 (posR xs t : Int))] ∧ L = [(r, rdr (.slice (some ⟨db, off, none⟩) xs.length c) (posR xs s4) d)] ∧ J1 = I' ∧ Sfx s4 t ∧ numR4 s3 = some s4) (fun k' hk => ?_) ?_
      · rcases hb with ⟨rfl, h4, rfl⟩ | ⟨rfl, s4, k4, rfl, h4⟩
        · skip
          repeat (first | refine Run.skip ?_ | refine Run.cond_f rfl ?_)
          refine Run.keep [0, 4] [_, _] rfl ?_
          exact hk _ _ _ ⟨s3, rfl, rfl, rfl, k3, h4⟩
        · have h4' : Sfx s4 xs := k4.trans h3
          have k4' : Sfx s4 t := k4.trans k3
          repeat (first | refine Run.seq ?_ | refine Run.cond_t rfl ?_)
          refine Run.piece (fun env L I' => ∃ b q, env = [(0, .pointer (some ⟨r, 0, none⟩)), (4, .int .i64 (posR xs t : Int)), (34, .bool b)] ∧ L = [(r, rdr (.slice (some ⟨db, off, none⟩) xs.length c) (posR xs q) d)] ∧ J1 = I' ∧
            ((b = false ∧ (wordR [43] s4).getD (numR1 s4) = q ∧ Sfx q s4) ∨ (b = true ∧ wordR [43] s4 = none ∧ q = s4))) (fun k'' hk' => ?_) ?_
          · skip
            refine Run.region ?_
            refine Ops.pure T rfl (by decide) rfl ?_
            refine Ops.callP (N := []) ((hWd [43] _ h4' (by decide) (by decide))) (.refl _) rfl (by decide) call142 rfl ?_
            rintro x J2 M2 l2 ⟨rfl, rfl, rfl⟩
            cases h5 : wordR [43] s4 with
            | some s5 =>
              simp only [Option.isSome_some, Option.getD_some]
              refine Ops.pure T rfl (by decide) rfl ?_
              refine Ops.nil ?_
              refine Run.keep [0, 4, 34] [_, _, _] rfl ?_
              exact hk' _ _ _ ⟨false, s5, rfl, rfl, rfl, .inl ⟨rfl, by rw [h5]; rfl, (word_sfx h5).1⟩⟩
            | none =>
              simp only [Option.isSome_none, Option.getD_none]
              refine Ops.pure T rfl (by decide) rfl ?_
              refine Ops.nil ?_
              refine Run.keep [0, 4, 34] [_, _, _] rfl ?_
              exact hk' _ _ _ ⟨true, s4, rfl, rfl, rfl, .inr ⟨rfl, h5, rfl⟩⟩
          rintro env L I' ⟨b, q, rfl, rfl, rfl, hb⟩
          skip
          refine Run.piece (fun env L I' => env = [(0, .pointer (some ⟨r, 0, none⟩)), (4, .int .i64 (posR xs t : Int))] ∧ L = [(r, rdr (.slice (some ⟨db, off, none⟩) xs.length c) (posR xs ((wordR [43] s4).getD (numR1 s4))) d)] ∧ J1 = I') (fun k'' hk' => ?_) ?_
          · rcases hb with ⟨rfl, h5, h6⟩ | ⟨rfl, h5, rfl⟩
            · skip
              repeat (first | refine Run.skip ?_ | refine Run.cond_f rfl ?_)
              refine Run.keep [0, 4] [_, _] rfl ?_
              exact hk' _ _ _ ⟨rfl, by rw [h5], rfl⟩
            · skip
              repeat (first | refine Run.cond_t rfl ?_)
              refine Run.regionP (D := [some 35, some 36]) [true] 1 rfl rfl rfl (by simp only [List.drop_succ_cons, List.drop_zero]; rfl) (fun Z hZ => ?_)
              refine QD.ev T (by decide) rfl rfl ?_
              refine QD.nil (hZ _ ?_)
              clear hZ Z
              refine Ops.callP (N := []) ((hWd [45] _ h4' (by decide) (by decide))) (.refl _) rfl (by decide) call142 rfl ?_
              rintro x J2 M2 l2 ⟨rfl, rfl, rfl⟩
              refine Ops.nil ?_
              refine Run.keep [0, 4] [_, _] rfl ?_
              exact hk' _ _ _ ⟨rfl, by rw [h5]; rfl, rfl⟩
          rintro env L I' ⟨rfl, rfl, rfl⟩
          have ks : Sfx ((wordR [43] s4).getD (numR1 s4)) s4 := sgn_sfx s4
          generalize (wordR [43] s4).getD (numR1 s4) = s5 at h4 ks
          repeat (first | refine Run.seq ?_)
          refine Run.regionP (D := [some 37, some 38, some 39]) [true] 1 rfl rfl rfl (by simp only [List.drop_succ_cons, List.drop_zero]; rfl) (fun Z hZ => ?_)
          refine QD.ev T (by decide) rfl rfl ?_
          refine QD.nil (hZ _ ?_)
          clear hZ Z
          refine Ops.callP (N := []) ((hDg _ (ks.trans h4'))) (.refl _) rfl (by decide) call150 rfl ?_
          rintro x J3 M3 l3 ⟨rfl, rfl, rfl⟩
          cases h6 : digsR s5 with
          | some s6 =>
            simp only [Option.isSome_some, Option.getD_some]
            refine Ops.pure T rfl (by decide) rfl ?_
            refine Ops.nil ?_
            repeat (first | refine Run.skip ?_ | refine Run.cond_f rfl ?_)
            refine Run.keep [0, 4] [_, _] rfl ?_
            exact hk _ _ _ ⟨s6, rfl, rfl, rfl, ((digs_sfx h6).1.trans ks).trans k4', by rw [h4, h6]⟩
          | none =>
            simp only [Option.isSome_none, Option.getD_none]
            refine Ops.pure T rfl (by decide) rfl ?_
            refine Ops.nil ?_
            have hn : numR t = none := by rw [hN, h4, h6]
            have := le (ks.trans k4') ht
            repeat (first | refine Run.seq ?_ | refine Run.cond_t rfl ?_)
            refine Run.regionO (D := [some 2, some 3]) [true, true] rfl rfl rfl (fun Z hZ => ?_)
            refine QD.ev T (by decide) rfl rfl ?_
            refine QD.ev T (by decide) rfl rfl ?_
            refine QD.nil (hZ _ ?_)
            clear hZ Z
            skip
            refine Run.ret2 (by rw [hCf]; exact func143) results143 rfl rfl (hR _ _ _ ?_)
            rw [hn]
            exact ⟨rfl, _, this.1, this.2, rfl, rfl⟩
      rintro env L I' ⟨s4, rfl, rfl, rfl, k4, h4⟩
      have hpq := le k4 ht
      have hl4 : s4.length < t.length := (num_sfx (hN.trans h4)).2
      have htl := ht.len
      have hlt : posR xs t < c := by unfold posR; omega
      have hcut := (hR0.cut hpq.1 hpq.2 hlt).sl
      have he : (xs.take (posR xs s4)).drop (posR xs t) = eaten t s4 := by
        obtain ⟨u, hu⟩ := ht
        subst hu
        unfold eaten posR
        have hk := k4.len
        rw [List.length_append, Nat.add_sub_cancel, List.drop_take, List.drop_left]
        congr 1; omega
      rw [he] at hcut
      repeat (first | refine Run.seq ?_)
      refine Run.regionQ (D := [some 40, some 41, some 42, some 43, some 44, some 45, some 46, some 47, some 48, some 49, some 50, some 2, some 3]) [true, true, true, true, true, true, true, true, true, true, true, true, true] (bl 13 8191) (by kernel_rfl) (by kernel_rfl) (by kernel_rfl) (by kernel_rfl) rfl (fun Z hZ => ?_)
      refine QD.ev T (by decide) rfl rfl ?_
      refine QD.ev T (by decide) rfl rfl ?_
      refine QD.ev T (by decide) rfl rfl ?_
      first | refine QD.yv (by decide) rfl (Yv.load 0 T rfl rfl rfl rfl) ?_ | refine QD.yv (by decide) rfl (Yv.load 1 T rfl rfl rfl rfl) ?_ | refine QD.yv (by decide) rfl (Yv.load 2 T rfl rfl rfl rfl) ?_
      refine QD.ev T (by decide) rfl rfl ?_
      refine QD.ev T (by decide) rfl rfl ?_
      refine QD.ev T (by decide) rfl rfl ?_
      refine QD.ev T (by decide) rfl rfl ?_
      first | refine QD.yv (by decide) rfl (Yv.load 0 T rfl rfl rfl rfl) ?_ | refine QD.yv (by decide) rfl (Yv.load 1 T rfl rfl rfl rfl) ?_ | refine QD.yv (by decide) rfl (Yv.load 2 T rfl rfl rfl rfl) ?_
      refine QD.e (Ev.sliceLH (p := posR xs t) (q := posR xs s4) T rfl rfl rfl rfl rfl hpq.1 (by omega)) (by decide) rfl ?_
      refine QD.yv (by decide) rfl (Yv.bytesSl T hcut rfl rfl rfl rfl) ?_
      refine QD.ev T (by decide) rfl rfl ?_
      refine QD.ev T (by decide) rfl rfl ?_
      refine QD.nil (hZ _ ?_)
      clear hZ Z
      skip
      refine Run.ret2 (by rw [hCf]; exact func143) results143 rfl rfl (hR _ _ _ ?_)
      rw [hN, h4]
      exact ⟨rfl, rfl, rfl⟩
end Go.V
namespace Go.V
set_option linter.unusedVariables false
set_option linter.unusedSimpArgs false
set_option maxRecDepth 10000
def goodR (r : Nat) : Prop := r < 55296 ∨ (57344 ≤ r ∧ r ≤ 1114111)
def encs (rs : List Nat) : List UInt8 := rs.flatMap fun (r : Nat) => encR (r : Int)
theorem encs_cons (r : Nat) (rs : List Nat) : encs (r :: rs) = encR (r : Int) ++ encs rs := rfl
theorem encs_append (a b : List Nat) : encs (a ++ b) = encs a ++ encs b := by simp [encs]
theorem valid_of {r : Nat} (h : goodR r) : Utf8.valid (r : Int) = true := by
  unfold Utf8.valid goodR at *
  simp only [Bool.or_eq_true, Bool.and_eq_true, decide_eq_true_eq]
  omega
theorem of_valid {r : Nat} (h : Utf8.valid (r : Int) = true) : goodR r := by
  unfold Utf8.valid at h
  simp only [Bool.or_eq_true, Bool.and_eq_true, decide_eq_true_eq] at h
  unfold goodR
  omega
theorem encR_good {r : Nat} (h : goodR r) : encR (r : Int) =
    if r < 128 then [UInt8.ofNat r] else if r < 2048 then [UInt8.ofNat (192 + r / 64), UInt8.ofNat (128 + r % 64)]
    else if r < 65536 then [UInt8.ofNat (224 + r / 4096), UInt8.ofNat (128 + r / 64 % 64), UInt8.ofNat (128 + r % 64)]
    else [UInt8.ofNat (240 + r / 262144), UInt8.ofNat (128 + r / 4096 % 64), UInt8.ofNat (128 + r / 64 % 64), UInt8.ofNat (128 + r % 64)] := by
  unfold encR Utf8.encode
  simp only [valid_of h, if_true, Int.toNat_natCast]
  split
  · rfl
  split
  · rfl
  split <;> rfl
theorem encR_bad {r : Int} (h : Utf8.valid r = false) : encR r = [239, 191, 189] := by
  unfold encR Utf8.encode
  simp [h, Utf8.runeError]
theorem ofNat_nat {k : Nat} (h : k < 256) : (UInt8.ofNat k).toNat = k := by
  rw [UInt8.toNat_ofNat']; omega
theorem encR_len {r : Nat} (h : goodR r) : (encR (r : Int)).length = if r < 128 then 1 else if r < 2048 then 2 else if r < 65536 then 3 else 4 := by
  rw [encR_good h]
  split
  · rfl
  split
  · rfl
  split <;> rfl
theorem encR_pos (r : Nat) : 1 ≤ (encR (r : Int)).length ∧ (encR (r : Int)).length ≤ 4 := by
  unfold encR Utf8.encode
  dsimp only
  generalize (if Utf8.valid (r : Int) = true then (r : Int).toNat else Utf8.runeError) = c
  split
  · exact ⟨Nat.le_of_ble_eq_true rfl, Nat.le_of_ble_eq_true rfl⟩
  split
  · exact ⟨Nat.le_of_ble_eq_true rfl, Nat.le_of_ble_eq_true rfl⟩
  split <;> exact ⟨Nat.le_of_ble_eq_true rfl, Nat.le_of_ble_eq_true rfl⟩
theorem runeAt_enc {r : Nat} (h : goodR r) (t : List UInt8) : runeAt (encR (r : Int) ++ t) 0 = (r, (encR (r : Int)).length) := by
  have hg := h
  unfold goodR at hg
  rw [encR_len h, encR_good h]
  unfold runeAt Utf8.decode
  simp only [Nat.zero_add, ba_get]
  by_cases h1 : r < 128
  · simp only [if_pos h1, List.singleton_append, List.getD_cons_zero, ofNat_nat (show r < 256 by omega)]
  by_cases h2 : r < 2048
  · have e0 : (UInt8.ofNat (192 + r / 64)).toNat = 192 + r / 64 := ofNat_nat (by omega)
    have e1 : (UInt8.ofNat (128 + r % 64)).toNat = 128 + r % 64 := ofNat_nat (by omega)
    have hs : ∀ a b : UInt8, (ba (a :: b :: t)).size = t.length + 2 := fun a b => by rw [show (ba (a :: b :: t)).size = _ from str_size _]; simp
    simp only [if_neg h1, if_pos h2, hs, List.cons_append, List.nil_append, List.getD_cons_zero, List.getD_cons_succ, e0, e1]
    rw [if_neg (by omega), if_pos (by simp only [Bool.and_eq_true, beq_iff_eq, decide_eq_true_eq]; omega), if_pos (by omega)]
    congr 1; omega
  by_cases h3 : r < 65536
  · have e0 : (UInt8.ofNat (224 + r / 4096)).toNat = 224 + r / 4096 := ofNat_nat (by omega)
    have e1 : (UInt8.ofNat (128 + r / 64 % 64)).toNat = 128 + r / 64 % 64 := ofNat_nat (by omega)
    have e2 : (UInt8.ofNat (128 + r % 64)).toNat = 128 + r % 64 := ofNat_nat (by omega)
    have hs : ∀ a b c : UInt8, (ba (a :: b :: c :: t)).size = t.length + 3 := fun a b c => by rw [show (ba (a :: b :: c :: t)).size = _ from str_size _]; simp
    have ec : (224 + r / 4096) % 16 * 4096 + (128 + r / 64 % 64) % 64 * 64 + (128 + r % 64) % 64 = r := by omega
    simp only [if_neg h1, if_neg h2, if_pos h3, hs, List.cons_append, List.nil_append, List.getD_cons_zero, List.getD_cons_succ, e0, e1, e2, ec]
    rw [if_neg (by omega), if_neg (by simp only [Bool.and_eq_true, beq_iff_eq, decide_eq_true_eq]; omega), if_pos (by simp only [Bool.and_eq_true, beq_iff_eq, decide_eq_true_eq]; omega),
      if_pos (by simp only [Bool.and_eq_true, decide_eq_true_eq]; exact ⟨by omega, valid_of h⟩)]
  · have e0 : (UInt8.ofNat (240 + r / 262144)).toNat = 240 + r / 262144 := ofNat_nat (by omega)
    have e1 : (UInt8.ofNat (128 + r / 4096 % 64)).toNat = 128 + r / 4096 % 64 := ofNat_nat (by omega)
    have e2 : (UInt8.ofNat (128 + r / 64 % 64)).toNat = 128 + r / 64 % 64 := ofNat_nat (by omega)
    have e3 : (UInt8.ofNat (128 + r % 64)).toNat = 128 + r % 64 := ofNat_nat (by omega)
    have hs : ∀ a b c d : UInt8, (ba (a :: b :: c :: d :: t)).size = t.length + 4 := fun a b c d => by rw [show (ba (a :: b :: c :: d :: t)).size = _ from str_size _]; simp
    have ec : (240 + r / 262144) % 8 * 262144 + (128 + r / 4096 % 64) % 64 * 4096 + (128 + r / 64 % 64) % 64 * 64 + (128 + r % 64) % 64 = r := by omega
    simp only [if_neg h1, if_neg h2, if_neg h3, hs, List.cons_append, List.nil_append, List.getD_cons_zero, List.getD_cons_succ, e0, e1, e2, e3, ec]
    rw [if_neg (by omega), if_neg (by simp only [Bool.and_eq_true, beq_iff_eq, decide_eq_true_eq]; omega), if_neg (by simp only [Bool.and_eq_true, beq_iff_eq, decide_eq_true_eq]; omega),
      if_pos (by simp only [Bool.and_eq_true, beq_iff_eq, decide_eq_true_eq]; omega), if_pos (by simp only [Bool.and_eq_true, decide_eq_true_eq]; exact ⟨by omega, valid_of h⟩)]
theorem u8_eq {a : UInt8} {k : Nat} (h : k = a.toNat) : UInt8.ofNat k = a := by subst h; simp
theorem dec_good {s : List UInt8} (hs : s ≠ []) (h : ¬ ((runeAt s 0).1 = 65533 ∧ (runeAt s 0).2 = 1)) :
    goodR (runeAt s 0).1 ∧ s = encR ((runeAt s 0).1 : Int) ++ s.drop (runeAt s 0).2 := by
  obtain ⟨a, t, rfl⟩ := List.exists_cons_of_ne_nil hs
  have key : ∀ (x : Nat × Nat) (ys : List UInt8), goodR x.1 → encR (x.1 : Int) = ys → a :: t = ys ++ (a :: t).drop x.2 → goodR x.1 ∧ a :: t = encR (x.1 : Int) ++ (a :: t).drop x.2 := by
    intro x ys h1 h2 h3; exact ⟨h1, by rw [h2]; exact h3⟩
  generalize hx : runeAt (a :: t) 0 = x at h ⊢
  unfold runeAt Utf8.decode at hx
  have hsz : (ba (a :: t)).size = t.length + 1 := by rw [show (ba (a :: t)).size = _ from str_size _]; simp
  simp only [Nat.zero_add, ba_get, hsz, List.getD_cons_zero] at hx
  have la := a.toNat_lt
  by_cases h1 : a.toNat < 128
  · rw [if_pos h1] at hx
    subst hx
    have g : goodR a.toNat := .inl (by omega)
    refine key _ [a] g ?_ rfl
    rw [encR_good g, if_pos h1]; simp
  rw [if_neg h1] at hx
  split at hx
  · rename_i hc
    simp only [Bool.and_eq_true, beq_iff_eq, decide_eq_true_eq] at hc
    obtain ⟨b, t, rfl⟩ := List.exists_cons_of_ne_nil (show t ≠ [] by intro e; subst e; simp at hc)
    simp only [List.getD_cons_succ, List.getD_cons_zero] at hx hc
    have lb := b.toNat_lt
    split at hx
    · rename_i h2
      subst hx
      have g : goodR (a.toNat % 32 * 64 + b.toNat % 64) := .inl (by omega)
      refine key _ [a, b] g ?_ rfl
      rw [encR_good g, if_neg (by first | omega | (dsimp only; omega)), if_pos (by first | omega | (dsimp only; omega)), u8_eq (a := a) (by first | omega | (dsimp only; omega)), u8_eq (a := b) (by first | omega | (dsimp only; omega))]
    · exact absurd (by rw [← hx]; exact ⟨rfl, rfl⟩) h
  split at hx
  · rename_i _ hc
    simp only [Bool.and_eq_true, beq_iff_eq, decide_eq_true_eq] at hc
    obtain ⟨b, t, rfl⟩ := List.exists_cons_of_ne_nil (show t ≠ [] by intro e; subst e; simp at hc)
    obtain ⟨c, t, rfl⟩ := List.exists_cons_of_ne_nil (show t ≠ [] by intro e; subst e; simp at hc)
    simp only [List.getD_cons_succ, List.getD_cons_zero] at hx hc
    have lb := b.toNat_lt
    have lc := c.toNat_lt
    split at hx
    · rename_i h2
      simp only [Bool.and_eq_true, decide_eq_true_eq] at h2
      subst hx
      have g := of_valid h2.2
      have g' := g
      unfold goodR at g'
      refine key _ [a, b, c] g ?_ rfl
      rw [encR_good g, if_neg (by first | omega | (dsimp only; omega)), if_neg (by first | omega | (dsimp only; omega)), if_pos (by first | omega | (dsimp only; omega)), u8_eq (a := a) (by first | omega | (dsimp only; omega)), u8_eq (a := b) (by first | omega | (dsimp only; omega)), u8_eq (a := c) (by first | omega | (dsimp only; omega))]
    · exact absurd (by rw [← hx]; exact ⟨rfl, rfl⟩) h
  split at hx
  · rename_i _ _ hc
    simp only [Bool.and_eq_true, beq_iff_eq, decide_eq_true_eq] at hc
    obtain ⟨b, t, rfl⟩ := List.exists_cons_of_ne_nil (show t ≠ [] by intro e; subst e; simp at hc)
    obtain ⟨c, t, rfl⟩ := List.exists_cons_of_ne_nil (show t ≠ [] by intro e; subst e; simp at hc)
    obtain ⟨d, t, rfl⟩ := List.exists_cons_of_ne_nil (show t ≠ [] by intro e; subst e; simp at hc)
    simp only [List.getD_cons_succ, List.getD_cons_zero] at hx hc
    have lb := b.toNat_lt
    have lc := c.toNat_lt
    have ld := d.toNat_lt
    split at hx
    · rename_i h2
      simp only [Bool.and_eq_true, decide_eq_true_eq] at h2
      subst hx
      have g := of_valid h2.2
      have g' := g
      unfold goodR at g'
      refine key _ [a, b, c, d] g ?_ rfl
      rw [encR_good g, if_neg (by first | omega | (dsimp only; omega)), if_neg (by first | omega | (dsimp only; omega)), if_neg (by first | omega | (dsimp only; omega)), u8_eq (a := a) (by first | omega | (dsimp only; omega)), u8_eq (a := b) (by first | omega | (dsimp only; omega)), u8_eq (a := c) (by first | omega | (dsimp only; omega)), u8_eq (a := d) (by first | omega | (dsimp only; omega))]
    · exact absurd (by rw [← hx]; exact ⟨rfl, rfl⟩) h
  · exact absurd (by rw [← hx]; exact ⟨rfl, rfl⟩) h
def Runes (s : List UInt8) (rs : List Nat) : Prop := s = encs rs ∧ ∀ r ∈ rs, goodR r
end Go.V
namespace Go.V
open Go.Proofs.Tryz
open Go.Shelf Go.Proofs
set_option linter.unusedVariables false
set_option maxRecDepth 100000
def ren196 : Go.Shelf.Ren := ⟨fun | 196 => 80 | 259 => 118 | n => n, fun | 0 => 0 | 3 => 3 | 4 => 4 | 5 => 5 | 9 => 9 | 12 => 12 | 46 => 221 | 53 => 260 | 119 => 217 | 138 => 219 | 139 => 220 | n => n, fun | 3 => 0 | 4 => 1 | n => n⟩
theorem lays196 : Lays.n196 prog ren196 := {
  mixed := by kernel_rfl
  f196 := func80.trans (congrArg some (by kernel_rfl))
  f259 := func118.trans (congrArg some (by kernel_rfl))
  t0 := underlying0
  a0 := isAgg0
  z0 := sizeOf0
  v0 := zeroValue0
  t3 := underlying3
  a3 := isAgg3
  z3 := sizeOf3
  v3 := zeroValue3
  t4 := underlying4
  a4 := isAgg4
  z4 := sizeOf4
  v4 := zeroValue4
  t5 := underlying5
  a5 := isAgg5
  z5 := sizeOf5
  v5 := zeroValue5
  t9 := underlying9
  a9 := isAgg9
  z9 := sizeOf9
  v9 := zeroValue9
  t12 := underlying12
  a12 := isAgg12
  z12 := sizeOf12
  v12 := zeroValue12
  t46 := underlying221
  a46 := isAgg221
  z46 := sizeOf221
  v46 := zeroValue221
  t53 := underlying260
  a53 := isAgg260
  z53 := sizeOf260
  v53 := zeroValue260
  t119 := underlying217
  a119 := isAgg217
  z119 := sizeOf217
  t138 := underlying219
  a138 := isAgg219
  z138 := sizeOf219
  v138 := zeroValue219
  t139 := underlying220
  a139 := isAgg220
  z139 := sizeOf220
  v139 := zeroValue220
  g3 := by kernel_rfl
  g4 := by kernel_rfl }
end Go.V
namespace Go.V
open Go.Proofs.Tryz
open Go.Shelf Go.Proofs
set_option linter.unusedVariables false
set_option maxRecDepth 100000
def ren197 : Go.Shelf.Ren := ⟨fun | 197 => 214 | 260 => 236 | n => n, fun | 0 => 0 | 3 => 3 | 4 => 4 | 5 => 5 | 9 => 9 | 21 => 21 | 46 => 221 | 105 => 273 | 119 => 217 | 138 => 219 | 139 => 220 | n => n, fun | 3 => 0 | 4 => 1 | n => n⟩
theorem lays197 : Lays.n197 prog ren197 := {
  mixed := by kernel_rfl
  f197 := func214.trans (congrArg some (by kernel_rfl))
  f260 := func236.trans (congrArg some (by kernel_rfl))
  t0 := underlying0
  a0 := isAgg0
  z0 := sizeOf0
  v0 := zeroValue0
  t3 := underlying3
  a3 := isAgg3
  z3 := sizeOf3
  v3 := zeroValue3
  t4 := underlying4
  a4 := isAgg4
  z4 := sizeOf4
  v4 := zeroValue4
  t5 := underlying5
  a5 := isAgg5
  z5 := sizeOf5
  v5 := zeroValue5
  t9 := underlying9
  a9 := isAgg9
  z9 := sizeOf9
  v9 := zeroValue9
  t21 := underlying21
  a21 := isAgg21
  z21 := sizeOf21
  v21 := zeroValue21
  t46 := underlying221
  a46 := isAgg221
  z46 := sizeOf221
  v46 := zeroValue221
  t105 := underlying273
  a105 := isAgg273
  z105 := sizeOf273
  v105 := zeroValue273
  t119 := underlying217
  a119 := isAgg217
  z119 := sizeOf217
  t138 := underlying219
  a138 := isAgg219
  z138 := sizeOf219
  v138 := zeroValue219
  t139 := underlying220
  a139 := isAgg220
  z139 := sizeOf220
  v139 := zeroValue220
  g3 := by kernel_rfl
  g4 := by kernel_rfl }
end Go.V
namespace Go.V
open Go.Proofs.Tryz
open Go.Shelf Go.Proofs
set_option linter.unusedVariables false
set_option maxRecDepth 100000
def ren32 : Go.Shelf.Ren := ⟨fun | 32 => 147 | 49 => 151 | n => n, fun | 0 => 0 | 3 => 3 | 4 => 4 | 5 => 5 | 21 => 21 | 25 => 221 | 30 => 31 | 33 => 273 | 66 => 217 | 68 => 219 | 69 => 220 | n => n, fun | 2 => 0 | 3 => 1 | n => n⟩
theorem lays32 : Lays7.n32 prog ren32 := {
  mixed := by kernel_rfl
  f32 := func147.trans (congrArg some (by kernel_rfl))
  f49 := func151.trans (congrArg some (by kernel_rfl))
  t0 := underlying0
  a0 := isAgg0
  z0 := sizeOf0
  v0 := zeroValue0
  i0 := by kernel_rfl
  t3 := underlying3
  a3 := isAgg3
  z3 := sizeOf3
  v3 := zeroValue3
  i3 := by kernel_rfl
  t4 := underlying4
  a4 := isAgg4
  z4 := sizeOf4
  v4 := zeroValue4
  i4 := by kernel_rfl
  t5 := underlying5
  a5 := isAgg5
  z5 := sizeOf5
  v5 := zeroValue5
  i5 := by kernel_rfl
  t21 := underlying21
  a21 := isAgg21
  z21 := sizeOf21
  v21 := zeroValue21
  i21 := by kernel_rfl
  t25 := underlying221
  a25 := isAgg221
  z25 := sizeOf221
  v25 := zeroValue221
  i25 := by kernel_rfl
  t30 := underlying31
  a30 := isAgg31
  z30 := sizeOf31
  v30 := zeroValue31
  i30 := by kernel_rfl
  t33 := underlying273
  a33 := isAgg273
  z33 := sizeOf273
  v33 := zeroValue273
  i33 := by kernel_rfl
  t66 := underlying217
  a66 := isAgg217
  z66 := sizeOf217
  t68 := underlying219
  a68 := isAgg219
  z68 := sizeOf219
  v68 := zeroValue219
  i68 := by kernel_rfl
  t69 := underlying220
  a69 := isAgg220
  z69 := sizeOf220
  v69 := zeroValue220
  i69 := by kernel_rfl
  g2 := by kernel_rfl
  g3 := by kernel_rfl }
end Go.V
