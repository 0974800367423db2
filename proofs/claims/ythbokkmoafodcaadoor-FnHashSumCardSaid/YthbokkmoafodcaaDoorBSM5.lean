import Derived.Test.YthbokkmoafodcaaDoorBSM4
/-
  SHA-256: one block, by the document's function.
-/
namespace Go.V
open Go.RowKit
set_option linter.unusedVariables false
set_option linter.unusedSimpArgs false
set_option maxRecDepth 10000
attribute [local irreducible] Run Ops QD
theorem nextW_eq2 {ws p : List UInt32} {i : Nat} (ht : ws.take i = p) (hi : 16 ≤ i) :
    ws.getD ((i : Int) - 16).toNat 0 + ws.getD ((i : Int) - 7).toNat 0 + (rotr (ws.getD ((i : Int) - 15).toNat 0) 7 ^^^ rotr (ws.getD ((i : Int) - 15).toNat 0) 18 ^^^ sr32 (ws.getD ((i : Int) - 15).toNat 0) 3) +
      (rotr (ws.getD ((i : Int) - 2).toNat 0) 17 ^^^ rotr (ws.getD ((i : Int) - 2).toNat 0) 19 ^^^ sr32 (ws.getD ((i : Int) - 2).toNat 0) 10) = nextW p i := by
  rw [← nextW_eq ht hi]
  have e : ∀ a b c : UInt32, a + b + c = a + c + b := fun a b c => by rw [UInt32.add_assoc, UInt32.add_comm b c, ← UInt32.add_assoc]
  rw [e (ws.getD ((i : Int) - 16).toNat 0)]
set_option maxHeartbeats 4000000 in
theorem spec_shaBlock (I : Imm) (v : H8) (hb kb : Nat) (s : List UInt8) (hs : s.length = 64) (hk : At I kb 0 (kW.map w32)) :
    Spec Proofs.Tryd.prog 16 [.pointer (some ⟨hb, 0, none⟩), str s, .pointer (some ⟨kb, 0, none⟩)] I [(hb, blk v.cs 51)]
      fun _ J M => M = [(hb, blk (compress v s).cs 51)] := by
  have rk : ∀ q : Int, 0 ≤ q → q < 64 → At I kb (0 + q.toNat * 1) [w32 (kW.getD q.toNat 0)] := by
    intro q h0 h1
    rw [Nat.mul_one]
    refine hk.cellAt q.toNat ?_
    have hq : q.toNat < kW.length := by simp [kW]; omega
    rw [List.getElem?_map, List.getD_eq_getElem?_getD, List.getElem?_eq_getElem hq]
    rfl
  refine Spec.enter 200 [(0, _), (1, _), (2, _)] Proofs.Tryd.func16 rfl Proofs.Tryd.ntmps16 (by simp) rfl ?_
  intro C hCf hR hCI
  repeat (first | refine Run.seq ?_)
  refine Run.region ?_
  refine Ops.alloc (cs := (List.replicate 64 (0 : UInt32)).map w32) rfl (by decide) (T.zeroOk rfl) (by kernel_rfl) (fun b4 => ?_)
  refine Ops.nil ?_
  repeat (first | refine Run.seq ?_)
  refine Run.regionO (D := [some 16]) [true] rfl rfl rfl (fun Z hZ => ?_)
  refine QD.ev T (by decide) rfl rfl ?_
  refine QD.nil (hZ _ ?_)
  clear hZ Z
  repeat (first | refine Run.block ?_)
  refine Run.keep [0, 1, 2, 6, 16] [_, _, _, _, _] rfl ?_
  refine Run.rounds (fun m env L J => ∃ (i : Nat) (ws : List UInt32), m = 16 - i ∧ i ≤ 16 ∧ ws.length = 64 ∧ ws.take i = sched s i ∧ env = [(0, .pointer (some ⟨hb, 0, none⟩)), (1, str s), (2, .pointer (some ⟨kb, 0, none⟩)), (6, .pointer (some ⟨b4, 0, none⟩)), (16, .int .i64 i)] ∧ L = [(b4, blk (ws.map w32) 52), (hb, blk v.cs 51)] ∧ I = J) 16 ⟨0, List.replicate 64 0, by omega, by omega, by simp, by rw [sched_zero]; rfl, rfl, rfl, rfl⟩ ?_
  rintro m env L J ⟨i, ws, rfl, hi, hw, ht, rfl, rfl, rfl⟩ ih
  repeat (first | refine Run.seq ?_)
  refine Run.regionO (D := [some 17]) [true] rfl rfl rfl (fun Z hZ => ?_)
  refine QD.e (Ev.lss rfl rfl) (by decide) rfl ?_
  refine QD.nil (hZ _ ?_)
  clear hZ Z
  repeat (first | refine Run.seq ?_)
  refine Run.cond rfl rfl (fun h1 => ?_) (fun h1 => ?_)
  all_goals (try rw [h1])
  all_goals (try simp only [decide_eq_true_eq, decide_eq_false_iff_not, Bool.not_eq_true', Bool.not_eq_false', Bool.and_eq_true, Bool.or_eq_true, Bool.and_eq_false_imp, Bool.or_eq_false_iff] at h1)
  · skip
    repeat (first | refine Run.seq ?_ | refine Run.skip ?_ | refine Run.block ?_)
    refine Run.regionO (D := [some 18, some 7]) [true, true] rfl rfl rfl (fun Z hZ => ?_)
    refine QD.ev T (by decide) rfl rfl ?_
    refine QD.ev T (by decide) rfl rfl ?_
    refine QD.nil (hZ _ ?_)
    clear hZ Z
    skip
    refine Run.regionT (D := [some 19, some 20, some 21, some 22, some 23, some 24, some 25, some 26, some 27, some 28, some 29, some 30, some 31, some 32, some 33, some 34, some 35, some 36, some 37, some 38, some 39, some 40, some 41, some 42, some 43, some 44, some 45, some 46, some 47, some 48, some 49, none]) (fun _ => True) [true, true, true, true, true, true, true, true, true, true, true, true, true, true, true, true, true, true, true, true, true, true, true, true, true, true, true, true, true, true, true] (bl 32 2147483647) 1 (by kernel_rfl) (by kernel_rfl) (by kernel_rfl) rfl (fun Z hZ => ?_)
    refine QD.ev T (by decide) rfl rfl ?_
    refine QD.ev T (by decide) rfl rfl ?_
    refine QD.ev T (by decide) rfl rfl ?_
    refine QD.e (Ev.mulI rfl rfl (wI (by first | omega | (simp only [List.length_cons, List.length_nil] ; omega) | (simp; omega)) (by first | omega | (simp only [List.length_cons, List.length_nil] ; omega) | (simp; omega)))) (by decide) rfl ?_
    refine QD.e (Ev.indexT T rfl rfl rfl (by first | omega | (simp only [List.length_cons, List.length_nil] ; omega) | (simp; omega)) (by first | omega | (simp only [List.length_cons, List.length_nil] ; omega) | (simp; omega))) (by decide) rfl ?_
    refine QD.e (Ev.c8_32 T rfl rfl rfl) (by decide) rfl ?_
    refine QD.e (Ev.shl32 rfl rfl (by first | decide | omega) (by first | decide | omega)) (by decide) rfl ?_
    refine QD.ev T (by decide) rfl rfl ?_
    refine QD.ev T (by decide) rfl rfl ?_
    refine QD.e (Ev.mulI rfl rfl (wI (by first | omega | (simp only [List.length_cons, List.length_nil] ; omega) | (simp; omega)) (by first | omega | (simp only [List.length_cons, List.length_nil] ; omega) | (simp; omega)))) (by decide) rfl ?_
    refine QD.e (Ev.addI rfl rfl (wI (by first | omega | (simp only [List.length_cons, List.length_nil] ; omega) | (simp; omega)) (by first | omega | (simp only [List.length_cons, List.length_nil] ; omega) | (simp; omega)))) (by decide) rfl ?_
    refine QD.e (Ev.indexT T rfl rfl rfl (by first | omega | (simp only [List.length_cons, List.length_nil] ; omega) | (simp; omega)) (by first | omega | (simp only [List.length_cons, List.length_nil] ; omega) | (simp; omega))) (by decide) rfl ?_
    refine QD.e (Ev.c8_32 T rfl rfl rfl) (by decide) rfl ?_
    refine QD.e (Ev.shl32 rfl rfl (by first | decide | omega) (by first | decide | omega)) (by decide) rfl ?_
    refine QD.e (Ev.or32 rfl rfl) (by decide) rfl ?_
    refine QD.ev T (by decide) rfl rfl ?_
    refine QD.ev T (by decide) rfl rfl ?_
    refine QD.e (Ev.mulI rfl rfl (wI (by first | omega | (simp only [List.length_cons, List.length_nil] ; omega) | (simp; omega)) (by first | omega | (simp only [List.length_cons, List.length_nil] ; omega) | (simp; omega)))) (by decide) rfl ?_
    refine QD.e (Ev.addI rfl rfl (wI (by first | omega | (simp only [List.length_cons, List.length_nil] ; omega) | (simp; omega)) (by first | omega | (simp only [List.length_cons, List.length_nil] ; omega) | (simp; omega)))) (by decide) rfl ?_
    refine QD.e (Ev.indexT T rfl rfl rfl (by first | omega | (simp only [List.length_cons, List.length_nil] ; omega) | (simp; omega)) (by first | omega | (simp only [List.length_cons, List.length_nil] ; omega) | (simp; omega))) (by decide) rfl ?_
    refine QD.e (Ev.c8_32 T rfl rfl rfl) (by decide) rfl ?_
    refine QD.e (Ev.shl32 rfl rfl (by first | decide | omega) (by first | decide | omega)) (by decide) rfl ?_
    refine QD.e (Ev.or32 rfl rfl) (by decide) rfl ?_
    refine QD.ev T (by decide) rfl rfl ?_
    refine QD.ev T (by decide) rfl rfl ?_
    refine QD.e (Ev.mulI rfl rfl (wI (by first | omega | (simp only [List.length_cons, List.length_nil] ; omega) | (simp; omega)) (by first | omega | (simp only [List.length_cons, List.length_nil] ; omega) | (simp; omega)))) (by decide) rfl ?_
    refine QD.e (Ev.addI rfl rfl (wI (by first | omega | (simp only [List.length_cons, List.length_nil] ; omega) | (simp; omega)) (by first | omega | (simp only [List.length_cons, List.length_nil] ; omega) | (simp; omega)))) (by decide) rfl ?_
    refine QD.e (Ev.indexT T rfl rfl rfl (by first | omega | (simp only [List.length_cons, List.length_nil] ; omega) | (simp; omega)) (by first | omega | (simp only [List.length_cons, List.length_nil] ; omega) | (simp; omega))) (by decide) rfl ?_
    refine QD.e (Ev.c8_32 T rfl rfl rfl) (by decide) rfl ?_
    refine QD.e (Ev.or32 rfl rfl) (by decide) rfl ?_
    refine QD.e (Ev.indexP T rfl rfl rfl rfl (by first | omega | (simp only [List.length_cons, List.length_nil] ; omega) | (simp; omega)) (by first | omega | (simp only [List.length_cons, List.length_nil] ; omega) | (simp; omega))) (by decide) rfl ?_
    refine QD.nil (hZ _ ?_)
    clear hZ Z
    refine RAny.os 31 (bl 32 4294967295) rfl (by kernel_rfl) rfl (Eff.store 0 rfl rfl rfl rfl (T.sizeOk rfl) rfl (show 0 + (i : Int).toNat * 1 + 1 ≤ _ by simp; omega) rfl (ws_set (by omega)) ⟨fun _ _ => trivial, ?_⟩)
    refine RAny.done _ (by kernel_rfl) ?_
    repeat (first | refine Run.inBlock ?_)
    refine Run.regionO (D := [some 50, some 16]) [true, true] rfl rfl rfl (fun Z hZ => ?_)
    refine QD.e (Ev.addI rfl rfl (wI (by first | omega | (simp only [List.length_cons, List.length_nil] ; omega) | (simp; omega)) (by first | omega | (simp only [List.length_cons, List.length_nil] ; omega) | (simp; omega)))) (by decide) rfl ?_
    refine QD.ev T (by decide) rfl rfl ?_
    refine QD.nil (hZ _ ?_)
    clear hZ Z
    skip
    refine Run.keep [0, 1, 2, 6, 16] [_, _, _, _, _] rfl ?_
    refine ih (16 - (i + 1)) _ _ _ (by omega) ⟨i + 1, ws.set i (word s i), rfl, by omega, by simpa using hw, ?_, rfl, rfl, rfl⟩
    rw [take_set (by omega) ht]
    rw [sched_succ]
    rw [if_pos (by omega)]
  have : i = 16 := by omega
  subst this
  clear ih h1
  repeat (first | refine Run.seq ?_ | refine Run.exit rfl ?_)
  refine Run.regionO (D := [some 8]) [true] rfl rfl rfl (fun Z hZ => ?_)
  refine QD.ev T (by decide) rfl rfl ?_
  refine QD.nil (hZ _ ?_)
  clear hZ Z
  repeat (first | refine Run.block ?_)
  refine Run.keep [0, 2, 6, 8] [_, _, _, _] rfl ?_
  refine Run.rounds (fun m env L J => ∃ (i : Nat) (ws : List UInt32), m = 64 - i ∧ 16 ≤ i ∧ i ≤ 64 ∧ ws.length = 64 ∧ ws.take i = sched s i ∧ env = [(0, .pointer (some ⟨hb, 0, none⟩)), (2, .pointer (some ⟨kb, 0, none⟩)), (6, .pointer (some ⟨b4, 0, none⟩)), (8, .int .i64 i)] ∧ L = [(b4, blk (ws.map w32) 52), (hb, blk v.cs 51)] ∧ I = J) 48 ⟨16, ws, by omega, by omega, by omega, hw, ht, rfl, rfl, rfl⟩ ?_
  clear hw ht
  rintro m env L J ⟨i, ws, rfl, hi0, hi, hw, ht, rfl, rfl, rfl⟩ ih
  repeat (first | refine Run.seq ?_)
  refine Run.regionO (D := [some 51, some 52]) [true, true] rfl rfl rfl (fun Z hZ => ?_)
  refine QD.ev T (by decide) rfl rfl ?_
  refine QD.e (Ev.lss rfl rfl) (by decide) rfl ?_
  refine QD.nil (hZ _ ?_)
  clear hZ Z
  skip
  refine Run.cond rfl rfl (fun h1 => ?_) (fun h1 => ?_)
  all_goals (try rw [h1])
  all_goals (try simp only [decide_eq_true_eq, decide_eq_false_iff_not, Bool.not_eq_true', Bool.not_eq_false', Bool.and_eq_true, Bool.or_eq_true, Bool.and_eq_false_imp, Bool.or_eq_false_iff] at h1)
  · skip
    repeat (first | refine Run.seq ?_ | refine Run.skip ?_ | refine Run.block ?_)
    refine Run.regionQ (D := [some 55, some 56, some 57, some 58, some 59, some 60, some 61, some 62, some 9, some 10]) [true, true, true, true, true, true, true, true, true, true] (bl 10 1023) (by kernel_rfl) (by kernel_rfl) (by kernel_rfl) (by kernel_rfl) rfl (fun Z hZ => ?_)
    refine QD.ev T (by decide) rfl rfl ?_
    refine QD.e (Ev.subI rfl rfl (wI (by first | omega | (simp only [List.length_cons, List.length_nil] ; omega) | (simp; omega)) (by first | omega | (simp only [List.length_cons, List.length_nil] ; omega) | (simp; omega)))) (by decide) rfl ?_
    refine QD.e (Ev.indexP T rfl rfl rfl rfl (by first | omega | (simp only [List.length_cons, List.length_nil] ; omega) | (simp; omega)) (by first | omega | (simp only [List.length_cons, List.length_nil] ; omega) | (simp; omega))) (by decide) rfl ?_
    first | refine QD.yv (by decide) rfl (Yv.load 0 T rfl rfl rfl rfl) ?_ | refine QD.yv (by decide) rfl (Yv.load 1 T rfl rfl rfl rfl) ?_ | refine QD.yv (by decide) rfl (Yv.load 2 T rfl rfl rfl rfl) ?_ | refine QD.yv (by decide) rfl (Yv.load 0 T rfl rfl rfl (ws_get (by omega) (by omega))) ?_
    refine QD.ev T (by decide) rfl rfl ?_
    refine QD.e (Ev.subI rfl rfl (wI (by first | omega | (simp only [List.length_cons, List.length_nil] ; omega) | (simp; omega)) (by first | omega | (simp only [List.length_cons, List.length_nil] ; omega) | (simp; omega)))) (by decide) rfl ?_
    refine QD.e (Ev.indexP T rfl rfl rfl rfl (by first | omega | (simp only [List.length_cons, List.length_nil] ; omega) | (simp; omega)) (by first | omega | (simp only [List.length_cons, List.length_nil] ; omega) | (simp; omega))) (by decide) rfl ?_
    first | refine QD.yv (by decide) rfl (Yv.load 0 T rfl rfl rfl rfl) ?_ | refine QD.yv (by decide) rfl (Yv.load 1 T rfl rfl rfl rfl) ?_ | refine QD.yv (by decide) rfl (Yv.load 2 T rfl rfl rfl rfl) ?_ | refine QD.yv (by decide) rfl (Yv.load 0 T rfl rfl rfl (ws_get (by omega) (by omega))) ?_
    refine QD.ev T (by decide) rfl rfl ?_
    refine QD.ev T (by decide) rfl rfl ?_
    refine QD.nil (hZ _ ?_)
    clear hZ Z
    skip
    refine Run.regionT (D := [some 63, some 64, some 65, some 66, some 67, some 68, some 69, some 70, some 71, some 72, some 73, some 74, some 75, some 76, some 77, some 78, some 79, some 80, some 81, some 82, some 83, some 84, some 85, some 86, some 87, some 88, some 89, some 90, some 91, none]) (fun _ => True) [true, true, true, true, true, true, true, true, true, true, true, true, true, true, true, true, true, true, true, true, true, true, true, true, true, true, true, true, true] (bl 30 536870911) 1 (by kernel_rfl) (by kernel_rfl) (by kernel_rfl) rfl (fun Z hZ => ?_)
    refine QD.ev T (by decide) rfl rfl ?_
    refine QD.ev T (by decide) rfl rfl ?_
    refine QD.e (Ev.subI rfl rfl (wI (by first | omega | (simp only [List.length_cons, List.length_nil] ; omega) | (simp; omega)) (by first | omega | (simp only [List.length_cons, List.length_nil] ; omega) | (simp; omega)))) (by decide) rfl ?_
    refine QD.e (Ev.indexP T rfl rfl rfl rfl (by first | omega | (simp only [List.length_cons, List.length_nil] ; omega) | (simp; omega)) (by first | omega | (simp only [List.length_cons, List.length_nil] ; omega) | (simp; omega))) (by decide) rfl ?_
    first | refine QD.yv (by decide) rfl (Yv.load 0 T rfl rfl rfl rfl) ?_ | refine QD.yv (by decide) rfl (Yv.load 1 T rfl rfl rfl rfl) ?_ | refine QD.yv (by decide) rfl (Yv.load 2 T rfl rfl rfl rfl) ?_ | refine QD.yv (by decide) rfl (Yv.load 0 T rfl rfl rfl (ws_get (by omega) (by omega))) ?_
    refine QD.ev T (by decide) rfl rfl ?_
    refine QD.e (Ev.subI rfl rfl (wI (by first | omega | (simp only [List.length_cons, List.length_nil] ; omega) | (simp; omega)) (by first | omega | (simp only [List.length_cons, List.length_nil] ; omega) | (simp; omega)))) (by decide) rfl ?_
    refine QD.e (Ev.indexP T rfl rfl rfl rfl (by first | omega | (simp only [List.length_cons, List.length_nil] ; omega) | (simp; omega)) (by first | omega | (simp only [List.length_cons, List.length_nil] ; omega) | (simp; omega))) (by decide) rfl ?_
    first | refine QD.yv (by decide) rfl (Yv.load 0 T rfl rfl rfl rfl) ?_ | refine QD.yv (by decide) rfl (Yv.load 1 T rfl rfl rfl rfl) ?_ | refine QD.yv (by decide) rfl (Yv.load 2 T rfl rfl rfl rfl) ?_ | refine QD.yv (by decide) rfl (Yv.load 0 T rfl rfl rfl (ws_get (by omega) (by omega))) ?_
    refine QD.e (Ev.add32 rfl rfl) (by decide) rfl ?_
    refine QD.ev T (by decide) rfl rfl ?_
    refine QD.call (spec_turn _ _ _ (by decide) (by decide)) (by decide) rfl Proofs.Tryd.call31 rfl ?_
    refine QD.ev T (by decide) rfl rfl ?_
    refine QD.call (spec_turn _ _ _ (by decide) (by decide)) (by decide) rfl Proofs.Tryd.call31 rfl ?_
    refine QD.e (Ev.xor32 rfl rfl) (by decide) rfl ?_
    refine QD.ev T (by decide) rfl rfl ?_
    refine QD.e (Ev.shr32 rfl rfl (by first | decide | omega) (by first | decide | omega)) (by decide) rfl ?_
    refine QD.e (Ev.xor32 rfl rfl) (by decide) rfl ?_
    refine QD.e (Ev.add32 rfl rfl) (by decide) rfl ?_
    refine QD.ev T (by decide) rfl rfl ?_
    refine QD.call (spec_turn _ _ _ (by decide) (by decide)) (by decide) rfl Proofs.Tryd.call31 rfl ?_
    refine QD.ev T (by decide) rfl rfl ?_
    refine QD.call (spec_turn _ _ _ (by decide) (by decide)) (by decide) rfl Proofs.Tryd.call31 rfl ?_
    refine QD.e (Ev.xor32 rfl rfl) (by decide) rfl ?_
    refine QD.ev T (by decide) rfl rfl ?_
    refine QD.e (Ev.shr32 rfl rfl (by first | decide | omega) (by first | decide | omega)) (by decide) rfl ?_
    refine QD.e (Ev.xor32 rfl rfl) (by decide) rfl ?_
    refine QD.e (Ev.add32 rfl rfl) (by decide) rfl ?_
    refine QD.e (Ev.indexP T rfl rfl rfl rfl (by first | omega | (simp only [List.length_cons, List.length_nil] ; omega) | (simp; omega)) (by first | omega | (simp only [List.length_cons, List.length_nil] ; omega) | (simp; omega))) (by decide) rfl ?_
    refine QD.nil (hZ _ ?_)
    clear hZ Z
    refine RAny.os 29 (bl 30 1073741823) rfl (by kernel_rfl) rfl (Eff.store 0 rfl rfl rfl rfl (T.sizeOk rfl) rfl (show 0 + (i : Int).toNat * 1 + 1 ≤ _ by simp; omega) rfl (ws_set (by omega)) ⟨fun _ _ => trivial, ?_⟩)
    refine RAny.done _ (by kernel_rfl) ?_
    repeat (first | refine Run.inBlock ?_)
    refine Run.regionO (D := [some 53, some 54, some 8]) [true, true, true] rfl rfl rfl (fun Z hZ => ?_)
    refine QD.ev T (by decide) rfl rfl ?_
    refine QD.e (Ev.addI rfl rfl (wI (by first | omega | (simp only [List.length_cons, List.length_nil] ; omega) | (simp; omega)) (by first | omega | (simp only [List.length_cons, List.length_nil] ; omega) | (simp; omega)))) (by decide) rfl ?_
    refine QD.ev T (by decide) rfl rfl ?_
    refine QD.nil (hZ _ ?_)
    clear hZ Z
    skip
    refine Run.keep [0, 2, 6, 8] [_, _, _, _] rfl ?_
    refine ih (64 - (i + 1)) _ _ _ (by omega) ⟨i + 1, ws.set i _, rfl, by omega, by omega, by simpa using hw, ?_, rfl, rfl, rfl⟩
    rw [take_set (by omega) ht]
    rw [sched_succ]
    rw [if_neg (by omega)]
    exact congrArg (fun x => sched s i ++ [x]) (nextW_eq2 ht hi0)
  have : i = 64 := by omega
  subst this
  obtain rfl : ws = sched s 64 := by rw [← ht, List.take_of_length_le (by omega)]
  clear ih h1 ht
  repeat (first | refine Run.seq ?_ | refine Run.exit rfl ?_)
  refine Run.regionP (D := [some 92, some 93, some 94, some 11, none]) [true, true, true] 3 rfl rfl rfl (by simp only [List.drop_succ_cons, List.drop_zero]; rfl) (fun Z hZ => ?_)
  refine QD.ev T (by decide) rfl rfl ?_
  refine QD.ev T (by decide) rfl rfl ?_
  first | refine QD.yv (by decide) rfl (Yv.loadN 0 T rfl rfl rfl rfl rfl rfl) ?_ | refine QD.yv (by decide) rfl (Yv.loadN 1 T rfl rfl rfl rfl rfl rfl) ?_ | refine QD.yv (by decide) rfl (Yv.loadN 2 T rfl rfl rfl rfl rfl rfl) ?_
  refine QD.nil (hZ _ ?_)
  clear hZ Z
  refine Ops.alloc rfl (by decide) (T.zeroOk rfl) rfl (fun b11 => ?_)
  refine Ops.store 0 (cs' := v.cs) rfl rfl rfl rfl rfl (T.sizeOk rfl) rfl (Nat.le_of_ble_eq_true rfl) rfl rfl ?_
  refine Ops.nil ?_
  repeat (first | refine Run.seq ?_)
  refine Run.regionO (D := [some 95]) [true] rfl rfl rfl (fun Z hZ => ?_)
  refine QD.ev T (by decide) rfl rfl ?_
  refine QD.nil (hZ _ ?_)
  clear hZ Z
  repeat (first | refine Run.block ?_)
  refine Run.keep [0, 2, 6, 11, 95] [_, _, _, _, _] rfl ?_
  refine Run.rounds (fun m env L J => ∃ (i : Nat), m = 64 - i ∧ i ≤ 64 ∧ env = [(0, .pointer (some ⟨hb, 0, none⟩)), (2, .pointer (some ⟨kb, 0, none⟩)), (6, .pointer (some ⟨b4, 0, none⟩)), (11, .pointer (some ⟨b11, 0, none⟩)), (95, .int .i64 i)] ∧ L = [(b11, blk (rnds s v i).cs 51), (b4, blk ((sched s 64).map w32) 52), (hb, blk v.cs 51)] ∧ I = J) 64 ⟨0, by omega, by omega, rfl, by rw [rnds_zero]; rfl, rfl⟩ ?_
  rintro m env L J ⟨i, rfl, hi, rfl, rfl, rfl⟩ ih
  repeat (first | refine Run.seq ?_)
  refine Run.regionO (D := [some 96]) [true] rfl rfl rfl (fun Z hZ => ?_)
  refine QD.e (Ev.lss rfl rfl) (by decide) rfl ?_
  refine QD.nil (hZ _ ?_)
  clear hZ Z
  repeat (first | refine Run.seq ?_)
  refine Run.cond rfl rfl (fun h1 => ?_) (fun h1 => ?_)
  all_goals (try rw [h1])
  all_goals (try simp only [decide_eq_true_eq, decide_eq_false_iff_not, Bool.not_eq_true', Bool.not_eq_false', Bool.and_eq_true, Bool.or_eq_true, Bool.and_eq_false_imp, Bool.or_eq_false_iff] at h1)
  · skip
    repeat (first | refine Run.seq ?_ | refine Run.skip ?_ | refine Run.block ?_)
    refine Run.regionO (D := [some 97, some 12]) [true, true] rfl rfl rfl (fun Z hZ => ?_)
    refine QD.ev T (by decide) rfl rfl ?_
    refine QD.ev T (by decide) rfl rfl ?_
    refine QD.nil (hZ _ ?_)
    clear hZ Z
    repeat (first | refine Run.seq ?_)
    refine Run.regionQ (D := [some 98, some 99, some 100, some 101, some 102, some 103, some 104, some 105, some 106, some 107, some 108, some 109, some 110, some 111, some 112, some 113, some 114, some 115, some 116, some 117, some 118, some 119, some 120, some 121, some 122, some 123, some 124, some 125, some 126, some 127, some 128, some 129, some 130, some 131, some 132, some 133, some 134, some 13]) [true, true, true, true, true, true, true, true, true, true, true, true, true, true, true, true, true, true, true, true, true, true, true, true, true, true, true, true, true, true, true, true, true, true, true, true, true, true] (bl 38 274877906943) (by kernel_rfl) (by kernel_rfl) (by kernel_rfl) (by kernel_rfl) rfl (fun Z hZ => ?_)
    refine QD.e (Ev.indexP T rfl rfl rfl rfl (by first | omega | (simp only [List.length_cons, List.length_nil] ; omega) | (simp; omega)) (by first | omega | (simp only [List.length_cons, List.length_nil] ; omega) | (simp; omega))) (by decide) rfl ?_
    first | refine QD.yv (by decide) rfl (Yv.load 0 T rfl rfl rfl rfl) ?_ | refine QD.yv (by decide) rfl (Yv.load 1 T rfl rfl rfl rfl) ?_ | refine QD.yv (by decide) rfl (Yv.load 2 T rfl rfl rfl rfl) ?_ | refine QD.yv (by decide) rfl (Yv.load 1 T rfl rfl rfl (ws_get (by omega) (by omega))) ?_ | refine QD.yv (by decide) rfl (Yv.loadI T (rk _ (by omega) (by omega)) rfl rfl) ?_
    refine QD.e (Ev.indexP T rfl rfl rfl rfl (by first | omega | (simp only [List.length_cons, List.length_nil] ; omega) | (simp; omega)) (by first | omega | (simp only [List.length_cons, List.length_nil] ; omega) | (simp; omega))) (by decide) rfl ?_
    first | refine QD.yv (by decide) rfl (Yv.load 0 T rfl rfl rfl rfl) ?_ | refine QD.yv (by decide) rfl (Yv.load 1 T rfl rfl rfl rfl) ?_ | refine QD.yv (by decide) rfl (Yv.load 2 T rfl rfl rfl rfl) ?_ | refine QD.yv (by decide) rfl (Yv.load 1 T rfl rfl rfl (ws_get (by omega) (by omega))) ?_ | refine QD.yv (by decide) rfl (Yv.loadI T (rk _ (by omega) (by omega)) rfl rfl) ?_
    refine QD.call (spec_turn _ _ _ (by decide) (by decide)) (by decide) rfl Proofs.Tryd.call31 rfl ?_
    refine QD.e (Ev.indexP T rfl rfl rfl rfl (by first | omega | (simp only [List.length_cons, List.length_nil] ; omega) | (simp; omega)) (by first | omega | (simp only [List.length_cons, List.length_nil] ; omega) | (simp; omega))) (by decide) rfl ?_
    first | refine QD.yv (by decide) rfl (Yv.load 0 T rfl rfl rfl rfl) ?_ | refine QD.yv (by decide) rfl (Yv.load 1 T rfl rfl rfl rfl) ?_ | refine QD.yv (by decide) rfl (Yv.load 2 T rfl rfl rfl rfl) ?_ | refine QD.yv (by decide) rfl (Yv.load 1 T rfl rfl rfl (ws_get (by omega) (by omega))) ?_ | refine QD.yv (by decide) rfl (Yv.loadI T (rk _ (by omega) (by omega)) rfl rfl) ?_
    refine QD.call (spec_turn _ _ _ (by decide) (by decide)) (by decide) rfl Proofs.Tryd.call31 rfl ?_
    refine QD.e (Ev.xor32 rfl rfl) (by decide) rfl ?_
    refine QD.e (Ev.indexP T rfl rfl rfl rfl (by first | omega | (simp only [List.length_cons, List.length_nil] ; omega) | (simp; omega)) (by first | omega | (simp only [List.length_cons, List.length_nil] ; omega) | (simp; omega))) (by decide) rfl ?_
    first | refine QD.yv (by decide) rfl (Yv.load 0 T rfl rfl rfl rfl) ?_ | refine QD.yv (by decide) rfl (Yv.load 1 T rfl rfl rfl rfl) ?_ | refine QD.yv (by decide) rfl (Yv.load 2 T rfl rfl rfl rfl) ?_ | refine QD.yv (by decide) rfl (Yv.load 1 T rfl rfl rfl (ws_get (by omega) (by omega))) ?_ | refine QD.yv (by decide) rfl (Yv.loadI T (rk _ (by omega) (by omega)) rfl rfl) ?_
    refine QD.call (spec_turn _ _ _ (by decide) (by decide)) (by decide) rfl Proofs.Tryd.call31 rfl ?_
    refine QD.e (Ev.xor32 rfl rfl) (by decide) rfl ?_
    refine QD.e (Ev.add32 rfl rfl) (by decide) rfl ?_
    refine QD.e (Ev.indexP T rfl rfl rfl rfl (by first | omega | (simp only [List.length_cons, List.length_nil] ; omega) | (simp; omega)) (by first | omega | (simp only [List.length_cons, List.length_nil] ; omega) | (simp; omega))) (by decide) rfl ?_
    first | refine QD.yv (by decide) rfl (Yv.load 0 T rfl rfl rfl rfl) ?_ | refine QD.yv (by decide) rfl (Yv.load 1 T rfl rfl rfl rfl) ?_ | refine QD.yv (by decide) rfl (Yv.load 2 T rfl rfl rfl rfl) ?_ | refine QD.yv (by decide) rfl (Yv.load 1 T rfl rfl rfl (ws_get (by omega) (by omega))) ?_ | refine QD.yv (by decide) rfl (Yv.loadI T (rk _ (by omega) (by omega)) rfl rfl) ?_
    refine QD.e (Ev.indexP T rfl rfl rfl rfl (by first | omega | (simp only [List.length_cons, List.length_nil] ; omega) | (simp; omega)) (by first | omega | (simp only [List.length_cons, List.length_nil] ; omega) | (simp; omega))) (by decide) rfl ?_
    first | refine QD.yv (by decide) rfl (Yv.load 0 T rfl rfl rfl rfl) ?_ | refine QD.yv (by decide) rfl (Yv.load 1 T rfl rfl rfl rfl) ?_ | refine QD.yv (by decide) rfl (Yv.load 2 T rfl rfl rfl rfl) ?_ | refine QD.yv (by decide) rfl (Yv.load 1 T rfl rfl rfl (ws_get (by omega) (by omega))) ?_ | refine QD.yv (by decide) rfl (Yv.loadI T (rk _ (by omega) (by omega)) rfl rfl) ?_
    refine QD.e (Ev.and32 rfl rfl) (by decide) rfl ?_
    refine QD.e (Ev.indexP T rfl rfl rfl rfl (by first | omega | (simp only [List.length_cons, List.length_nil] ; omega) | (simp; omega)) (by first | omega | (simp only [List.length_cons, List.length_nil] ; omega) | (simp; omega))) (by decide) rfl ?_
    first | refine QD.yv (by decide) rfl (Yv.load 0 T rfl rfl rfl rfl) ?_ | refine QD.yv (by decide) rfl (Yv.load 1 T rfl rfl rfl rfl) ?_ | refine QD.yv (by decide) rfl (Yv.load 2 T rfl rfl rfl rfl) ?_ | refine QD.yv (by decide) rfl (Yv.load 1 T rfl rfl rfl (ws_get (by omega) (by omega))) ?_ | refine QD.yv (by decide) rfl (Yv.loadI T (rk _ (by omega) (by omega)) rfl rfl) ?_
    refine QD.e (Ev.not32 rfl) (by decide) rfl ?_
    refine QD.e (Ev.indexP T rfl rfl rfl rfl (by first | omega | (simp only [List.length_cons, List.length_nil] ; omega) | (simp; omega)) (by first | omega | (simp only [List.length_cons, List.length_nil] ; omega) | (simp; omega))) (by decide) rfl ?_
    first | refine QD.yv (by decide) rfl (Yv.load 0 T rfl rfl rfl rfl) ?_ | refine QD.yv (by decide) rfl (Yv.load 1 T rfl rfl rfl rfl) ?_ | refine QD.yv (by decide) rfl (Yv.load 2 T rfl rfl rfl rfl) ?_ | refine QD.yv (by decide) rfl (Yv.load 1 T rfl rfl rfl (ws_get (by omega) (by omega))) ?_ | refine QD.yv (by decide) rfl (Yv.loadI T (rk _ (by omega) (by omega)) rfl rfl) ?_
    refine QD.e (Ev.and32 rfl rfl) (by decide) rfl ?_
    refine QD.e (Ev.xor32 rfl rfl) (by decide) rfl ?_
    refine QD.e (Ev.add32 rfl rfl) (by decide) rfl ?_
    refine QD.ev T (by decide) rfl rfl ?_
    refine QD.ev T (by decide) rfl rfl ?_
    refine QD.ev T (by decide) rfl rfl ?_
    refine QD.e (Ev.indexP T rfl rfl rfl rfl (by first | omega | (simp only [List.length_cons, List.length_nil] ; omega) | (simp; omega)) (by first | omega | (simp only [List.length_cons, List.length_nil] ; omega) | (simp; omega))) (by decide) rfl ?_
    first | refine QD.yv (by decide) rfl (Yv.load 0 T rfl rfl rfl rfl) ?_ | refine QD.yv (by decide) rfl (Yv.load 1 T rfl rfl rfl rfl) ?_ | refine QD.yv (by decide) rfl (Yv.load 2 T rfl rfl rfl rfl) ?_ | refine QD.yv (by decide) rfl (Yv.load 1 T rfl rfl rfl (ws_get (by omega) (by omega))) ?_ | refine QD.yv (by decide) rfl (Yv.loadI T (rk _ (by omega) (by omega)) rfl rfl) ?_
    refine QD.e (Ev.add32 rfl rfl) (by decide) rfl ?_
    refine QD.ev T (by decide) rfl rfl ?_
    refine QD.e (Ev.indexP T rfl rfl rfl rfl (by first | omega | (simp only [List.length_cons, List.length_nil] ; omega) | (simp; omega)) (by first | omega | (simp only [List.length_cons, List.length_nil] ; omega) | (simp; omega))) (by decide) rfl ?_
    first | refine QD.yv (by decide) rfl (Yv.load 0 T rfl rfl rfl rfl) ?_ | refine QD.yv (by decide) rfl (Yv.load 1 T rfl rfl rfl rfl) ?_ | refine QD.yv (by decide) rfl (Yv.load 2 T rfl rfl rfl rfl) ?_ | refine QD.yv (by decide) rfl (Yv.load 1 T rfl rfl rfl (ws_get (by omega) (by omega))) ?_ | refine QD.yv (by decide) rfl (Yv.loadI T (rk _ (by omega) (by omega)) rfl rfl) ?_
    refine QD.e (Ev.add32 rfl rfl) (by decide) rfl ?_
    refine QD.ev T (by decide) rfl rfl ?_
    refine QD.nil (hZ _ ?_)
    clear hZ Z
    repeat (first | refine Run.seq ?_)
    refine Run.regionQ (D := [some 135, some 136, some 137, some 138, some 139, some 140, some 141, some 142, some 143, some 144, some 145, some 146, some 147, some 148, some 149, some 150, some 151, some 152, some 153, some 154, some 155, some 156, some 157, some 158, some 159, some 160, some 161, some 162, some 163, some 14]) [true, true, true, true, true, true, true, true, true, true, true, true, true, true, true, true, true, true, true, true, true, true, true, true, true, true, true, true, true, true] (bl 30 1073741823) (by kernel_rfl) (by kernel_rfl) (by kernel_rfl) (by kernel_rfl) rfl (fun Z hZ => ?_)
    refine QD.e (Ev.indexP T rfl rfl rfl rfl (by first | omega | (simp only [List.length_cons, List.length_nil] ; omega) | (simp; omega)) (by first | omega | (simp only [List.length_cons, List.length_nil] ; omega) | (simp; omega))) (by decide) rfl ?_
    first | refine QD.yv (by decide) rfl (Yv.load 0 T rfl rfl rfl rfl) ?_ | refine QD.yv (by decide) rfl (Yv.load 1 T rfl rfl rfl rfl) ?_ | refine QD.yv (by decide) rfl (Yv.load 2 T rfl rfl rfl rfl) ?_
    refine QD.call (spec_turn _ _ _ (by decide) (by decide)) (by decide) rfl Proofs.Tryd.call31 rfl ?_
    refine QD.e (Ev.indexP T rfl rfl rfl rfl (by first | omega | (simp only [List.length_cons, List.length_nil] ; omega) | (simp; omega)) (by first | omega | (simp only [List.length_cons, List.length_nil] ; omega) | (simp; omega))) (by decide) rfl ?_
    first | refine QD.yv (by decide) rfl (Yv.load 0 T rfl rfl rfl rfl) ?_ | refine QD.yv (by decide) rfl (Yv.load 1 T rfl rfl rfl rfl) ?_ | refine QD.yv (by decide) rfl (Yv.load 2 T rfl rfl rfl rfl) ?_
    refine QD.call (spec_turn _ _ _ (by decide) (by decide)) (by decide) rfl Proofs.Tryd.call31 rfl ?_
    refine QD.e (Ev.xor32 rfl rfl) (by decide) rfl ?_
    refine QD.e (Ev.indexP T rfl rfl rfl rfl (by first | omega | (simp only [List.length_cons, List.length_nil] ; omega) | (simp; omega)) (by first | omega | (simp only [List.length_cons, List.length_nil] ; omega) | (simp; omega))) (by decide) rfl ?_
    first | refine QD.yv (by decide) rfl (Yv.load 0 T rfl rfl rfl rfl) ?_ | refine QD.yv (by decide) rfl (Yv.load 1 T rfl rfl rfl rfl) ?_ | refine QD.yv (by decide) rfl (Yv.load 2 T rfl rfl rfl rfl) ?_
    refine QD.call (spec_turn _ _ _ (by decide) (by decide)) (by decide) rfl Proofs.Tryd.call31 rfl ?_
    refine QD.e (Ev.xor32 rfl rfl) (by decide) rfl ?_
    refine QD.e (Ev.indexP T rfl rfl rfl rfl (by first | omega | (simp only [List.length_cons, List.length_nil] ; omega) | (simp; omega)) (by first | omega | (simp only [List.length_cons, List.length_nil] ; omega) | (simp; omega))) (by decide) rfl ?_
    first | refine QD.yv (by decide) rfl (Yv.load 0 T rfl rfl rfl rfl) ?_ | refine QD.yv (by decide) rfl (Yv.load 1 T rfl rfl rfl rfl) ?_ | refine QD.yv (by decide) rfl (Yv.load 2 T rfl rfl rfl rfl) ?_
    refine QD.e (Ev.indexP T rfl rfl rfl rfl (by first | omega | (simp only [List.length_cons, List.length_nil] ; omega) | (simp; omega)) (by first | omega | (simp only [List.length_cons, List.length_nil] ; omega) | (simp; omega))) (by decide) rfl ?_
    first | refine QD.yv (by decide) rfl (Yv.load 0 T rfl rfl rfl rfl) ?_ | refine QD.yv (by decide) rfl (Yv.load 1 T rfl rfl rfl rfl) ?_ | refine QD.yv (by decide) rfl (Yv.load 2 T rfl rfl rfl rfl) ?_
    refine QD.e (Ev.and32 rfl rfl) (by decide) rfl ?_
    refine QD.e (Ev.indexP T rfl rfl rfl rfl (by first | omega | (simp only [List.length_cons, List.length_nil] ; omega) | (simp; omega)) (by first | omega | (simp only [List.length_cons, List.length_nil] ; omega) | (simp; omega))) (by decide) rfl ?_
    first | refine QD.yv (by decide) rfl (Yv.load 0 T rfl rfl rfl rfl) ?_ | refine QD.yv (by decide) rfl (Yv.load 1 T rfl rfl rfl rfl) ?_ | refine QD.yv (by decide) rfl (Yv.load 2 T rfl rfl rfl rfl) ?_
    refine QD.e (Ev.indexP T rfl rfl rfl rfl (by first | omega | (simp only [List.length_cons, List.length_nil] ; omega) | (simp; omega)) (by first | omega | (simp only [List.length_cons, List.length_nil] ; omega) | (simp; omega))) (by decide) rfl ?_
    first | refine QD.yv (by decide) rfl (Yv.load 0 T rfl rfl rfl rfl) ?_ | refine QD.yv (by decide) rfl (Yv.load 1 T rfl rfl rfl rfl) ?_ | refine QD.yv (by decide) rfl (Yv.load 2 T rfl rfl rfl rfl) ?_
    refine QD.e (Ev.and32 rfl rfl) (by decide) rfl ?_
    refine QD.e (Ev.xor32 rfl rfl) (by decide) rfl ?_
    refine QD.e (Ev.indexP T rfl rfl rfl rfl (by first | omega | (simp only [List.length_cons, List.length_nil] ; omega) | (simp; omega)) (by first | omega | (simp only [List.length_cons, List.length_nil] ; omega) | (simp; omega))) (by decide) rfl ?_
    first | refine QD.yv (by decide) rfl (Yv.load 0 T rfl rfl rfl rfl) ?_ | refine QD.yv (by decide) rfl (Yv.load 1 T rfl rfl rfl rfl) ?_ | refine QD.yv (by decide) rfl (Yv.load 2 T rfl rfl rfl rfl) ?_
    refine QD.e (Ev.indexP T rfl rfl rfl rfl (by first | omega | (simp only [List.length_cons, List.length_nil] ; omega) | (simp; omega)) (by first | omega | (simp only [List.length_cons, List.length_nil] ; omega) | (simp; omega))) (by decide) rfl ?_
    first | refine QD.yv (by decide) rfl (Yv.load 0 T rfl rfl rfl rfl) ?_ | refine QD.yv (by decide) rfl (Yv.load 1 T rfl rfl rfl rfl) ?_ | refine QD.yv (by decide) rfl (Yv.load 2 T rfl rfl rfl rfl) ?_
    refine QD.e (Ev.and32 rfl rfl) (by decide) rfl ?_
    refine QD.e (Ev.xor32 rfl rfl) (by decide) rfl ?_
    refine QD.e (Ev.add32 rfl rfl) (by decide) rfl ?_
    refine QD.ev T (by decide) rfl rfl ?_
    refine QD.nil (hZ _ ?_)
    clear hZ Z
    skip
    refine Run.regionP (D := [some 164, some 165, some 166, some 167, some 168, some 169, some 170, some 171, some 172, some 173, some 174, some 175, some 176, some 177, some 178, some 179, some 180, some 181, some 182, some 183, none]) [true, true, true, true, true, true, true, true, true, true, true, true, true, true, true, true, true, true, true, true] 20 rfl rfl rfl (by simp only [List.drop_succ_cons, List.drop_zero]; rfl) (fun Z hZ => ?_)
    refine QD.ev T (by decide) rfl rfl ?_
    refine QD.ev T (by decide) rfl rfl ?_
    refine QD.e (Ev.add32 rfl rfl) (by decide) rfl ?_
    refine QD.e (Ev.indexP T rfl rfl rfl rfl (by first | omega | (simp only [List.length_cons, List.length_nil] ; omega) | (simp; omega)) (by first | omega | (simp only [List.length_cons, List.length_nil] ; omega) | (simp; omega))) (by decide) rfl ?_
    first | refine QD.yv (by decide) rfl (Yv.load 0 T rfl rfl rfl rfl) ?_ | refine QD.yv (by decide) rfl (Yv.load 1 T rfl rfl rfl rfl) ?_ | refine QD.yv (by decide) rfl (Yv.load 2 T rfl rfl rfl rfl) ?_
    refine QD.e (Ev.indexP T rfl rfl rfl rfl (by first | omega | (simp only [List.length_cons, List.length_nil] ; omega) | (simp; omega)) (by first | omega | (simp only [List.length_cons, List.length_nil] ; omega) | (simp; omega))) (by decide) rfl ?_
    first | refine QD.yv (by decide) rfl (Yv.load 0 T rfl rfl rfl rfl) ?_ | refine QD.yv (by decide) rfl (Yv.load 1 T rfl rfl rfl rfl) ?_ | refine QD.yv (by decide) rfl (Yv.load 2 T rfl rfl rfl rfl) ?_
    refine QD.e (Ev.indexP T rfl rfl rfl rfl (by first | omega | (simp only [List.length_cons, List.length_nil] ; omega) | (simp; omega)) (by first | omega | (simp only [List.length_cons, List.length_nil] ; omega) | (simp; omega))) (by decide) rfl ?_
    first | refine QD.yv (by decide) rfl (Yv.load 0 T rfl rfl rfl rfl) ?_ | refine QD.yv (by decide) rfl (Yv.load 1 T rfl rfl rfl rfl) ?_ | refine QD.yv (by decide) rfl (Yv.load 2 T rfl rfl rfl rfl) ?_
    refine QD.e (Ev.indexP T rfl rfl rfl rfl (by first | omega | (simp only [List.length_cons, List.length_nil] ; omega) | (simp; omega)) (by first | omega | (simp only [List.length_cons, List.length_nil] ; omega) | (simp; omega))) (by decide) rfl ?_
    first | refine QD.yv (by decide) rfl (Yv.load 0 T rfl rfl rfl rfl) ?_ | refine QD.yv (by decide) rfl (Yv.load 1 T rfl rfl rfl rfl) ?_ | refine QD.yv (by decide) rfl (Yv.load 2 T rfl rfl rfl rfl) ?_
    refine QD.ev T (by decide) rfl rfl ?_
    refine QD.e (Ev.add32 rfl rfl) (by decide) rfl ?_
    refine QD.e (Ev.indexP T rfl rfl rfl rfl (by first | omega | (simp only [List.length_cons, List.length_nil] ; omega) | (simp; omega)) (by first | omega | (simp only [List.length_cons, List.length_nil] ; omega) | (simp; omega))) (by decide) rfl ?_
    first | refine QD.yv (by decide) rfl (Yv.load 0 T rfl rfl rfl rfl) ?_ | refine QD.yv (by decide) rfl (Yv.load 1 T rfl rfl rfl rfl) ?_ | refine QD.yv (by decide) rfl (Yv.load 2 T rfl rfl rfl rfl) ?_
    refine QD.e (Ev.indexP T rfl rfl rfl rfl (by first | omega | (simp only [List.length_cons, List.length_nil] ; omega) | (simp; omega)) (by first | omega | (simp only [List.length_cons, List.length_nil] ; omega) | (simp; omega))) (by decide) rfl ?_
    first | refine QD.yv (by decide) rfl (Yv.load 0 T rfl rfl rfl rfl) ?_ | refine QD.yv (by decide) rfl (Yv.load 1 T rfl rfl rfl rfl) ?_ | refine QD.yv (by decide) rfl (Yv.load 2 T rfl rfl rfl rfl) ?_
    refine QD.e (Ev.indexP T rfl rfl rfl rfl (by first | omega | (simp only [List.length_cons, List.length_nil] ; omega) | (simp; omega)) (by first | omega | (simp only [List.length_cons, List.length_nil] ; omega) | (simp; omega))) (by decide) rfl ?_
    first | refine QD.yv (by decide) rfl (Yv.load 0 T rfl rfl rfl rfl) ?_ | refine QD.yv (by decide) rfl (Yv.load 1 T rfl rfl rfl rfl) ?_ | refine QD.yv (by decide) rfl (Yv.load 2 T rfl rfl rfl rfl) ?_
    refine QD.e (Ev.buildArr T rfl rfl rfl rfl (by first | decide | rfl) (by first | decide | rfl) (by first | decide | rfl) rfl) (by decide) rfl ?_
    refine QD.nil (hZ _ ?_)
    clear hZ Z
    refine Ops.store 0 (cs' := (rnds s v (i + 1)).cs) rfl rfl rfl rfl rfl (T.sizeOk rfl) rfl (Nat.le_of_ble_eq_true rfl) rfl (by rw [rnds_succ]; rfl) ?_
    refine Ops.nil ?_
    repeat (first | refine Run.inBlock ?_)
    refine Run.regionO (D := [some 184, some 95]) [true, true] rfl rfl rfl (fun Z hZ => ?_)
    refine QD.e (Ev.addI rfl rfl (wI (by first | omega | (simp only [List.length_cons, List.length_nil] ; omega) | (simp; omega)) (by first | omega | (simp only [List.length_cons, List.length_nil] ; omega) | (simp; omega)))) (by decide) rfl ?_
    refine QD.ev T (by decide) rfl rfl ?_
    refine QD.nil (hZ _ ?_)
    clear hZ Z
    skip
    refine Run.keep [0, 2, 6, 11, 95] [_, _, _, _, _] rfl ?_
    exact ih (64 - (i + 1)) _ _ _ (by omega) ⟨i + 1, rfl, by omega, rfl, rfl, rfl⟩
  have : i = 64 := by omega
  subst this
  clear ih h1
  unfold compress at hR
  generalize rnds s v 64 = u at *
  refine Run.dropL (L' := [(b11, blk u.cs 51), (hb, blk v.cs 51)]) (by simp) ?_
  repeat (first | refine Run.seq ?_ | refine Run.exit rfl ?_)
  refine Run.regionO (D := [some 185]) [true] rfl rfl rfl (fun Z hZ => ?_)
  refine QD.ev T (by decide) rfl rfl ?_
  refine QD.nil (hZ _ ?_)
  clear hZ Z
  repeat (first | refine Run.block ?_)
  refine Run.keep [0, 11, 185] [_, _, _] rfl ?_
  refine Run.loop ?_
  repeat (first | refine Run.seq ?_)
  refine Run.regionO (D := [some 186]) [true] rfl rfl rfl (fun Z hZ => ?_)
  refine QD.e (Ev.lss rfl rfl) (by decide) rfl ?_
  refine QD.nil (hZ _ ?_)
  clear hZ Z
  repeat (first | refine Run.seq ?_ | refine Run.skip ?_ | refine Run.block ?_ | refine Run.cond_t rfl ?_)
  refine Run.regionO (D := [some 187, some 15]) [true, true] rfl rfl rfl (fun Z hZ => ?_)
  refine QD.ev T (by decide) rfl rfl ?_
  refine QD.ev T (by decide) rfl rfl ?_
  refine QD.nil (hZ _ ?_)
  clear hZ Z
  skip
  refine Run.regionT (D := [some 188, some 189, some 190, some 191, some 192, some 193, some 194, some 195, some 196, some 197, some 198, none]) (fun _ => True) [true, true, true, true, true, true, true, true, true, true, true] (bl 12 2047) 1 (by kernel_rfl) (by kernel_rfl) (by kernel_rfl) rfl (fun Z hZ => ?_)
  refine QD.ev T (by decide) rfl rfl ?_
  refine QD.ev T (by decide) rfl rfl ?_
  refine QD.ev T (by decide) rfl rfl ?_
  refine QD.e (Ev.indexP T rfl rfl rfl rfl (by first | omega | (simp only [List.length_cons, List.length_nil] ; omega) | (simp; omega)) (by first | omega | (simp only [List.length_cons, List.length_nil] ; omega) | (simp; omega))) (by decide) rfl ?_
  first | refine QD.yv (by decide) rfl (Yv.load 0 T rfl rfl rfl rfl) ?_ | refine QD.yv (by decide) rfl (Yv.load 1 T rfl rfl rfl rfl) ?_ | refine QD.yv (by decide) rfl (Yv.load 2 T rfl rfl rfl rfl) ?_
  refine QD.ev T (by decide) rfl rfl ?_
  refine QD.e (Ev.indexP T rfl rfl rfl rfl (by first | omega | (simp only [List.length_cons, List.length_nil] ; omega) | (simp; omega)) (by first | omega | (simp only [List.length_cons, List.length_nil] ; omega) | (simp; omega))) (by decide) rfl ?_
  first | refine QD.yv (by decide) rfl (Yv.load 0 T rfl rfl rfl rfl) ?_ | refine QD.yv (by decide) rfl (Yv.load 1 T rfl rfl rfl rfl) ?_ | refine QD.yv (by decide) rfl (Yv.load 2 T rfl rfl rfl rfl) ?_
  refine QD.e (Ev.add32 rfl rfl) (by decide) rfl ?_
  refine QD.ev T (by decide) rfl rfl ?_
  refine QD.e (Ev.indexP T rfl rfl rfl rfl (by first | omega | (simp only [List.length_cons, List.length_nil] ; omega) | (simp; omega)) (by first | omega | (simp only [List.length_cons, List.length_nil] ; omega) | (simp; omega))) (by decide) rfl ?_
  refine QD.nil (hZ _ ?_)
  clear hZ Z
  refine RAny.os 11 (bl 12 4095) rfl (by kernel_rfl) rfl (Eff.store 1 rfl rfl rfl rfl (T.sizeOk rfl) rfl (Nat.le_of_ble_eq_true rfl) rfl rfl ⟨fun _ _ => trivial, ?_⟩)
  refine RAny.done _ (by kernel_rfl) ?_
  repeat (first | refine Run.inBlock ?_)
  refine Run.regionO (D := [some 199, some 185]) [true, true] rfl rfl rfl (fun Z hZ => ?_)
  refine QD.e (Ev.addI rfl rfl (wI (by first | omega | (simp only [List.length_cons, List.length_nil] ; omega) | (simp; omega)) (by first | omega | (simp only [List.length_cons, List.length_nil] ; omega) | (simp; omega)))) (by decide) rfl ?_
  refine QD.ev T (by decide) rfl rfl ?_
  refine QD.nil (hZ _ ?_)
  clear hZ Z
  skip
  refine Run.keep [0, 11, 185] [_, _, _] rfl ?_
  refine Run.inLoop ?_
  repeat (first | refine Run.seq ?_)
  refine Run.regionO (D := [some 186]) [true] rfl rfl rfl (fun Z hZ => ?_)
  refine QD.e (Ev.lss rfl rfl) (by decide) rfl ?_
  refine QD.nil (hZ _ ?_)
  clear hZ Z
  repeat (first | refine Run.seq ?_ | refine Run.skip ?_ | refine Run.block ?_ | refine Run.cond_t rfl ?_)
  refine Run.regionO (D := [some 187, some 15]) [true, true] rfl rfl rfl (fun Z hZ => ?_)
  refine QD.ev T (by decide) rfl rfl ?_
  refine QD.ev T (by decide) rfl rfl ?_
  refine QD.nil (hZ _ ?_)
  clear hZ Z
  skip
  refine Run.regionT (D := [some 188, some 189, some 190, some 191, some 192, some 193, some 194, some 195, some 196, some 197, some 198, none]) (fun _ => True) [true, true, true, true, true, true, true, true, true, true, true] (bl 12 2047) 1 (by kernel_rfl) (by kernel_rfl) (by kernel_rfl) rfl (fun Z hZ => ?_)
  refine QD.ev T (by decide) rfl rfl ?_
  refine QD.ev T (by decide) rfl rfl ?_
  refine QD.ev T (by decide) rfl rfl ?_
  refine QD.e (Ev.indexP T rfl rfl rfl rfl (by first | omega | (simp only [List.length_cons, List.length_nil] ; omega) | (simp; omega)) (by first | omega | (simp only [List.length_cons, List.length_nil] ; omega) | (simp; omega))) (by decide) rfl ?_
  first | refine QD.yv (by decide) rfl (Yv.load 0 T rfl rfl rfl rfl) ?_ | refine QD.yv (by decide) rfl (Yv.load 1 T rfl rfl rfl rfl) ?_ | refine QD.yv (by decide) rfl (Yv.load 2 T rfl rfl rfl rfl) ?_
  refine QD.ev T (by decide) rfl rfl ?_
  refine QD.e (Ev.indexP T rfl rfl rfl rfl (by first | omega | (simp only [List.length_cons, List.length_nil] ; omega) | (simp; omega)) (by first | omega | (simp only [List.length_cons, List.length_nil] ; omega) | (simp; omega))) (by decide) rfl ?_
  first | refine QD.yv (by decide) rfl (Yv.load 0 T rfl rfl rfl rfl) ?_ | refine QD.yv (by decide) rfl (Yv.load 1 T rfl rfl rfl rfl) ?_ | refine QD.yv (by decide) rfl (Yv.load 2 T rfl rfl rfl rfl) ?_
  refine QD.e (Ev.add32 rfl rfl) (by decide) rfl ?_
  refine QD.ev T (by decide) rfl rfl ?_
  refine QD.e (Ev.indexP T rfl rfl rfl rfl (by first | omega | (simp only [List.length_cons, List.length_nil] ; omega) | (simp; omega)) (by first | omega | (simp only [List.length_cons, List.length_nil] ; omega) | (simp; omega))) (by decide) rfl ?_
  refine QD.nil (hZ _ ?_)
  clear hZ Z
  refine RAny.os 11 (bl 12 4095) rfl (by kernel_rfl) rfl (Eff.store 1 rfl rfl rfl rfl (T.sizeOk rfl) rfl (Nat.le_of_ble_eq_true rfl) rfl rfl ⟨fun _ _ => trivial, ?_⟩)
  refine RAny.done _ (by kernel_rfl) ?_
  repeat (first | refine Run.inBlock ?_)
  refine Run.regionO (D := [some 199, some 185]) [true, true] rfl rfl rfl (fun Z hZ => ?_)
  refine QD.e (Ev.addI rfl rfl (wI (by first | omega | (simp only [List.length_cons, List.length_nil] ; omega) | (simp; omega)) (by first | omega | (simp only [List.length_cons, List.length_nil] ; omega) | (simp; omega)))) (by decide) rfl ?_
  refine QD.ev T (by decide) rfl rfl ?_
  refine QD.nil (hZ _ ?_)
  clear hZ Z
  skip
  refine Run.keep [0, 11, 185] [_, _, _] rfl ?_
  refine Run.inLoop ?_
  repeat (first | refine Run.seq ?_)
  refine Run.regionO (D := [some 186]) [true] rfl rfl rfl (fun Z hZ => ?_)
  refine QD.e (Ev.lss rfl rfl) (by decide) rfl ?_
  refine QD.nil (hZ _ ?_)
  clear hZ Z
  repeat (first | refine Run.seq ?_ | refine Run.skip ?_ | refine Run.block ?_ | refine Run.cond_t rfl ?_)
  refine Run.regionO (D := [some 187, some 15]) [true, true] rfl rfl rfl (fun Z hZ => ?_)
  refine QD.ev T (by decide) rfl rfl ?_
  refine QD.ev T (by decide) rfl rfl ?_
  refine QD.nil (hZ _ ?_)
  clear hZ Z
  skip
  refine Run.regionT (D := [some 188, some 189, some 190, some 191, some 192, some 193, some 194, some 195, some 196, some 197, some 198, none]) (fun _ => True) [true, true, true, true, true, true, true, true, true, true, true] (bl 12 2047) 1 (by kernel_rfl) (by kernel_rfl) (by kernel_rfl) rfl (fun Z hZ => ?_)
  refine QD.ev T (by decide) rfl rfl ?_
  refine QD.ev T (by decide) rfl rfl ?_
  refine QD.ev T (by decide) rfl rfl ?_
  refine QD.e (Ev.indexP T rfl rfl rfl rfl (by first | omega | (simp only [List.length_cons, List.length_nil] ; omega) | (simp; omega)) (by first | omega | (simp only [List.length_cons, List.length_nil] ; omega) | (simp; omega))) (by decide) rfl ?_
  first | refine QD.yv (by decide) rfl (Yv.load 0 T rfl rfl rfl rfl) ?_ | refine QD.yv (by decide) rfl (Yv.load 1 T rfl rfl rfl rfl) ?_ | refine QD.yv (by decide) rfl (Yv.load 2 T rfl rfl rfl rfl) ?_
  refine QD.ev T (by decide) rfl rfl ?_
  refine QD.e (Ev.indexP T rfl rfl rfl rfl (by first | omega | (simp only [List.length_cons, List.length_nil] ; omega) | (simp; omega)) (by first | omega | (simp only [List.length_cons, List.length_nil] ; omega) | (simp; omega))) (by decide) rfl ?_
  first | refine QD.yv (by decide) rfl (Yv.load 0 T rfl rfl rfl rfl) ?_ | refine QD.yv (by decide) rfl (Yv.load 1 T rfl rfl rfl rfl) ?_ | refine QD.yv (by decide) rfl (Yv.load 2 T rfl rfl rfl rfl) ?_
  refine QD.e (Ev.add32 rfl rfl) (by decide) rfl ?_
  refine QD.ev T (by decide) rfl rfl ?_
  refine QD.e (Ev.indexP T rfl rfl rfl rfl (by first | omega | (simp only [List.length_cons, List.length_nil] ; omega) | (simp; omega)) (by first | omega | (simp only [List.length_cons, List.length_nil] ; omega) | (simp; omega))) (by decide) rfl ?_
  refine QD.nil (hZ _ ?_)
  clear hZ Z
  refine RAny.os 11 (bl 12 4095) rfl (by kernel_rfl) rfl (Eff.store 1 rfl rfl rfl rfl (T.sizeOk rfl) rfl (Nat.le_of_ble_eq_true rfl) rfl rfl ⟨fun _ _ => trivial, ?_⟩)
  refine RAny.done _ (by kernel_rfl) ?_
  repeat (first | refine Run.inBlock ?_)
  refine Run.regionO (D := [some 199, some 185]) [true, true] rfl rfl rfl (fun Z hZ => ?_)
  refine QD.e (Ev.addI rfl rfl (wI (by first | omega | (simp only [List.length_cons, List.length_nil] ; omega) | (simp; omega)) (by first | omega | (simp only [List.length_cons, List.length_nil] ; omega) | (simp; omega)))) (by decide) rfl ?_
  refine QD.ev T (by decide) rfl rfl ?_
  refine QD.nil (hZ _ ?_)
  clear hZ Z
  skip
  refine Run.keep [0, 11, 185] [_, _, _] rfl ?_
  refine Run.inLoop ?_
  repeat (first | refine Run.seq ?_)
  refine Run.regionO (D := [some 186]) [true] rfl rfl rfl (fun Z hZ => ?_)
  refine QD.e (Ev.lss rfl rfl) (by decide) rfl ?_
  refine QD.nil (hZ _ ?_)
  clear hZ Z
  repeat (first | refine Run.seq ?_ | refine Run.skip ?_ | refine Run.block ?_ | refine Run.cond_t rfl ?_)
  refine Run.regionO (D := [some 187, some 15]) [true, true] rfl rfl rfl (fun Z hZ => ?_)
  refine QD.ev T (by decide) rfl rfl ?_
  refine QD.ev T (by decide) rfl rfl ?_
  refine QD.nil (hZ _ ?_)
  clear hZ Z
  skip
  refine Run.regionT (D := [some 188, some 189, some 190, some 191, some 192, some 193, some 194, some 195, some 196, some 197, some 198, none]) (fun _ => True) [true, true, true, true, true, true, true, true, true, true, true] (bl 12 2047) 1 (by kernel_rfl) (by kernel_rfl) (by kernel_rfl) rfl (fun Z hZ => ?_)
  refine QD.ev T (by decide) rfl rfl ?_
  refine QD.ev T (by decide) rfl rfl ?_
  refine QD.ev T (by decide) rfl rfl ?_
  refine QD.e (Ev.indexP T rfl rfl rfl rfl (by first | omega | (simp only [List.length_cons, List.length_nil] ; omega) | (simp; omega)) (by first | omega | (simp only [List.length_cons, List.length_nil] ; omega) | (simp; omega))) (by decide) rfl ?_
  first | refine QD.yv (by decide) rfl (Yv.load 0 T rfl rfl rfl rfl) ?_ | refine QD.yv (by decide) rfl (Yv.load 1 T rfl rfl rfl rfl) ?_ | refine QD.yv (by decide) rfl (Yv.load 2 T rfl rfl rfl rfl) ?_
  refine QD.ev T (by decide) rfl rfl ?_
  refine QD.e (Ev.indexP T rfl rfl rfl rfl (by first | omega | (simp only [List.length_cons, List.length_nil] ; omega) | (simp; omega)) (by first | omega | (simp only [List.length_cons, List.length_nil] ; omega) | (simp; omega))) (by decide) rfl ?_
  first | refine QD.yv (by decide) rfl (Yv.load 0 T rfl rfl rfl rfl) ?_ | refine QD.yv (by decide) rfl (Yv.load 1 T rfl rfl rfl rfl) ?_ | refine QD.yv (by decide) rfl (Yv.load 2 T rfl rfl rfl rfl) ?_
  refine QD.e (Ev.add32 rfl rfl) (by decide) rfl ?_
  refine QD.ev T (by decide) rfl rfl ?_
  refine QD.e (Ev.indexP T rfl rfl rfl rfl (by first | omega | (simp only [List.length_cons, List.length_nil] ; omega) | (simp; omega)) (by first | omega | (simp only [List.length_cons, List.length_nil] ; omega) | (simp; omega))) (by decide) rfl ?_
  refine QD.nil (hZ _ ?_)
  clear hZ Z
  refine RAny.os 11 (bl 12 4095) rfl (by kernel_rfl) rfl (Eff.store 1 rfl rfl rfl rfl (T.sizeOk rfl) rfl (Nat.le_of_ble_eq_true rfl) rfl rfl ⟨fun _ _ => trivial, ?_⟩)
  refine RAny.done _ (by kernel_rfl) ?_
  repeat (first | refine Run.inBlock ?_)
  refine Run.regionO (D := [some 199, some 185]) [true, true] rfl rfl rfl (fun Z hZ => ?_)
  refine QD.e (Ev.addI rfl rfl (wI (by first | omega | (simp only [List.length_cons, List.length_nil] ; omega) | (simp; omega)) (by first | omega | (simp only [List.length_cons, List.length_nil] ; omega) | (simp; omega)))) (by decide) rfl ?_
  refine QD.ev T (by decide) rfl rfl ?_
  refine QD.nil (hZ _ ?_)
  clear hZ Z
  skip
  refine Run.keep [0, 11, 185] [_, _, _] rfl ?_
  refine Run.inLoop ?_
  repeat (first | refine Run.seq ?_)
  refine Run.regionO (D := [some 186]) [true] rfl rfl rfl (fun Z hZ => ?_)
  refine QD.e (Ev.lss rfl rfl) (by decide) rfl ?_
  refine QD.nil (hZ _ ?_)
  clear hZ Z
  repeat (first | refine Run.seq ?_ | refine Run.skip ?_ | refine Run.block ?_ | refine Run.cond_t rfl ?_)
  refine Run.regionO (D := [some 187, some 15]) [true, true] rfl rfl rfl (fun Z hZ => ?_)
  refine QD.ev T (by decide) rfl rfl ?_
  refine QD.ev T (by decide) rfl rfl ?_
  refine QD.nil (hZ _ ?_)
  clear hZ Z
  skip
  refine Run.regionT (D := [some 188, some 189, some 190, some 191, some 192, some 193, some 194, some 195, some 196, some 197, some 198, none]) (fun _ => True) [true, true, true, true, true, true, true, true, true, true, true] (bl 12 2047) 1 (by kernel_rfl) (by kernel_rfl) (by kernel_rfl) rfl (fun Z hZ => ?_)
  refine QD.ev T (by decide) rfl rfl ?_
  refine QD.ev T (by decide) rfl rfl ?_
  refine QD.ev T (by decide) rfl rfl ?_
  refine QD.e (Ev.indexP T rfl rfl rfl rfl (by first | omega | (simp only [List.length_cons, List.length_nil] ; omega) | (simp; omega)) (by first | omega | (simp only [List.length_cons, List.length_nil] ; omega) | (simp; omega))) (by decide) rfl ?_
  first | refine QD.yv (by decide) rfl (Yv.load 0 T rfl rfl rfl rfl) ?_ | refine QD.yv (by decide) rfl (Yv.load 1 T rfl rfl rfl rfl) ?_ | refine QD.yv (by decide) rfl (Yv.load 2 T rfl rfl rfl rfl) ?_
  refine QD.ev T (by decide) rfl rfl ?_
  refine QD.e (Ev.indexP T rfl rfl rfl rfl (by first | omega | (simp only [List.length_cons, List.length_nil] ; omega) | (simp; omega)) (by first | omega | (simp only [List.length_cons, List.length_nil] ; omega) | (simp; omega))) (by decide) rfl ?_
  first | refine QD.yv (by decide) rfl (Yv.load 0 T rfl rfl rfl rfl) ?_ | refine QD.yv (by decide) rfl (Yv.load 1 T rfl rfl rfl rfl) ?_ | refine QD.yv (by decide) rfl (Yv.load 2 T rfl rfl rfl rfl) ?_
  refine QD.e (Ev.add32 rfl rfl) (by decide) rfl ?_
  refine QD.ev T (by decide) rfl rfl ?_
  refine QD.e (Ev.indexP T rfl rfl rfl rfl (by first | omega | (simp only [List.length_cons, List.length_nil] ; omega) | (simp; omega)) (by first | omega | (simp only [List.length_cons, List.length_nil] ; omega) | (simp; omega))) (by decide) rfl ?_
  refine QD.nil (hZ _ ?_)
  clear hZ Z
  refine RAny.os 11 (bl 12 4095) rfl (by kernel_rfl) rfl (Eff.store 1 rfl rfl rfl rfl (T.sizeOk rfl) rfl (Nat.le_of_ble_eq_true rfl) rfl rfl ⟨fun _ _ => trivial, ?_⟩)
  refine RAny.done _ (by kernel_rfl) ?_
  repeat (first | refine Run.inBlock ?_)
  refine Run.regionO (D := [some 199, some 185]) [true, true] rfl rfl rfl (fun Z hZ => ?_)
  refine QD.e (Ev.addI rfl rfl (wI (by first | omega | (simp only [List.length_cons, List.length_nil] ; omega) | (simp; omega)) (by first | omega | (simp only [List.length_cons, List.length_nil] ; omega) | (simp; omega)))) (by decide) rfl ?_
  refine QD.ev T (by decide) rfl rfl ?_
  refine QD.nil (hZ _ ?_)
  clear hZ Z
  skip
  refine Run.keep [0, 11, 185] [_, _, _] rfl ?_
  refine Run.inLoop ?_
  repeat (first | refine Run.seq ?_)
  refine Run.regionO (D := [some 186]) [true] rfl rfl rfl (fun Z hZ => ?_)
  refine QD.e (Ev.lss rfl rfl) (by decide) rfl ?_
  refine QD.nil (hZ _ ?_)
  clear hZ Z
  repeat (first | refine Run.seq ?_ | refine Run.skip ?_ | refine Run.block ?_ | refine Run.cond_t rfl ?_)
  refine Run.regionO (D := [some 187, some 15]) [true, true] rfl rfl rfl (fun Z hZ => ?_)
  refine QD.ev T (by decide) rfl rfl ?_
  refine QD.ev T (by decide) rfl rfl ?_
  refine QD.nil (hZ _ ?_)
  clear hZ Z
  skip
  refine Run.regionT (D := [some 188, some 189, some 190, some 191, some 192, some 193, some 194, some 195, some 196, some 197, some 198, none]) (fun _ => True) [true, true, true, true, true, true, true, true, true, true, true] (bl 12 2047) 1 (by kernel_rfl) (by kernel_rfl) (by kernel_rfl) rfl (fun Z hZ => ?_)
  refine QD.ev T (by decide) rfl rfl ?_
  refine QD.ev T (by decide) rfl rfl ?_
  refine QD.ev T (by decide) rfl rfl ?_
  refine QD.e (Ev.indexP T rfl rfl rfl rfl (by first | omega | (simp only [List.length_cons, List.length_nil] ; omega) | (simp; omega)) (by first | omega | (simp only [List.length_cons, List.length_nil] ; omega) | (simp; omega))) (by decide) rfl ?_
  first | refine QD.yv (by decide) rfl (Yv.load 0 T rfl rfl rfl rfl) ?_ | refine QD.yv (by decide) rfl (Yv.load 1 T rfl rfl rfl rfl) ?_ | refine QD.yv (by decide) rfl (Yv.load 2 T rfl rfl rfl rfl) ?_
  refine QD.ev T (by decide) rfl rfl ?_
  refine QD.e (Ev.indexP T rfl rfl rfl rfl (by first | omega | (simp only [List.length_cons, List.length_nil] ; omega) | (simp; omega)) (by first | omega | (simp only [List.length_cons, List.length_nil] ; omega) | (simp; omega))) (by decide) rfl ?_
  first | refine QD.yv (by decide) rfl (Yv.load 0 T rfl rfl rfl rfl) ?_ | refine QD.yv (by decide) rfl (Yv.load 1 T rfl rfl rfl rfl) ?_ | refine QD.yv (by decide) rfl (Yv.load 2 T rfl rfl rfl rfl) ?_
  refine QD.e (Ev.add32 rfl rfl) (by decide) rfl ?_
  refine QD.ev T (by decide) rfl rfl ?_
  refine QD.e (Ev.indexP T rfl rfl rfl rfl (by first | omega | (simp only [List.length_cons, List.length_nil] ; omega) | (simp; omega)) (by first | omega | (simp only [List.length_cons, List.length_nil] ; omega) | (simp; omega))) (by decide) rfl ?_
  refine QD.nil (hZ _ ?_)
  clear hZ Z
  refine RAny.os 11 (bl 12 4095) rfl (by kernel_rfl) rfl (Eff.store 1 rfl rfl rfl rfl (T.sizeOk rfl) rfl (Nat.le_of_ble_eq_true rfl) rfl rfl ⟨fun _ _ => trivial, ?_⟩)
  refine RAny.done _ (by kernel_rfl) ?_
  repeat (first | refine Run.inBlock ?_)
  refine Run.regionO (D := [some 199, some 185]) [true, true] rfl rfl rfl (fun Z hZ => ?_)
  refine QD.e (Ev.addI rfl rfl (wI (by first | omega | (simp only [List.length_cons, List.length_nil] ; omega) | (simp; omega)) (by first | omega | (simp only [List.length_cons, List.length_nil] ; omega) | (simp; omega)))) (by decide) rfl ?_
  refine QD.ev T (by decide) rfl rfl ?_
  refine QD.nil (hZ _ ?_)
  clear hZ Z
  skip
  refine Run.keep [0, 11, 185] [_, _, _] rfl ?_
  refine Run.inLoop ?_
  repeat (first | refine Run.seq ?_)
  refine Run.regionO (D := [some 186]) [true] rfl rfl rfl (fun Z hZ => ?_)
  refine QD.e (Ev.lss rfl rfl) (by decide) rfl ?_
  refine QD.nil (hZ _ ?_)
  clear hZ Z
  repeat (first | refine Run.seq ?_ | refine Run.skip ?_ | refine Run.block ?_ | refine Run.cond_t rfl ?_)
  refine Run.regionO (D := [some 187, some 15]) [true, true] rfl rfl rfl (fun Z hZ => ?_)
  refine QD.ev T (by decide) rfl rfl ?_
  refine QD.ev T (by decide) rfl rfl ?_
  refine QD.nil (hZ _ ?_)
  clear hZ Z
  skip
  refine Run.regionT (D := [some 188, some 189, some 190, some 191, some 192, some 193, some 194, some 195, some 196, some 197, some 198, none]) (fun _ => True) [true, true, true, true, true, true, true, true, true, true, true] (bl 12 2047) 1 (by kernel_rfl) (by kernel_rfl) (by kernel_rfl) rfl (fun Z hZ => ?_)
  refine QD.ev T (by decide) rfl rfl ?_
  refine QD.ev T (by decide) rfl rfl ?_
  refine QD.ev T (by decide) rfl rfl ?_
  refine QD.e (Ev.indexP T rfl rfl rfl rfl (by first | omega | (simp only [List.length_cons, List.length_nil] ; omega) | (simp; omega)) (by first | omega | (simp only [List.length_cons, List.length_nil] ; omega) | (simp; omega))) (by decide) rfl ?_
  first | refine QD.yv (by decide) rfl (Yv.load 0 T rfl rfl rfl rfl) ?_ | refine QD.yv (by decide) rfl (Yv.load 1 T rfl rfl rfl rfl) ?_ | refine QD.yv (by decide) rfl (Yv.load 2 T rfl rfl rfl rfl) ?_
  refine QD.ev T (by decide) rfl rfl ?_
  refine QD.e (Ev.indexP T rfl rfl rfl rfl (by first | omega | (simp only [List.length_cons, List.length_nil] ; omega) | (simp; omega)) (by first | omega | (simp only [List.length_cons, List.length_nil] ; omega) | (simp; omega))) (by decide) rfl ?_
  first | refine QD.yv (by decide) rfl (Yv.load 0 T rfl rfl rfl rfl) ?_ | refine QD.yv (by decide) rfl (Yv.load 1 T rfl rfl rfl rfl) ?_ | refine QD.yv (by decide) rfl (Yv.load 2 T rfl rfl rfl rfl) ?_
  refine QD.e (Ev.add32 rfl rfl) (by decide) rfl ?_
  refine QD.ev T (by decide) rfl rfl ?_
  refine QD.e (Ev.indexP T rfl rfl rfl rfl (by first | omega | (simp only [List.length_cons, List.length_nil] ; omega) | (simp; omega)) (by first | omega | (simp only [List.length_cons, List.length_nil] ; omega) | (simp; omega))) (by decide) rfl ?_
  refine QD.nil (hZ _ ?_)
  clear hZ Z
  refine RAny.os 11 (bl 12 4095) rfl (by kernel_rfl) rfl (Eff.store 1 rfl rfl rfl rfl (T.sizeOk rfl) rfl (Nat.le_of_ble_eq_true rfl) rfl rfl ⟨fun _ _ => trivial, ?_⟩)
  refine RAny.done _ (by kernel_rfl) ?_
  repeat (first | refine Run.inBlock ?_)
  refine Run.regionO (D := [some 199, some 185]) [true, true] rfl rfl rfl (fun Z hZ => ?_)
  refine QD.e (Ev.addI rfl rfl (wI (by first | omega | (simp only [List.length_cons, List.length_nil] ; omega) | (simp; omega)) (by first | omega | (simp only [List.length_cons, List.length_nil] ; omega) | (simp; omega)))) (by decide) rfl ?_
  refine QD.ev T (by decide) rfl rfl ?_
  refine QD.nil (hZ _ ?_)
  clear hZ Z
  skip
  refine Run.keep [0, 11, 185] [_, _, _] rfl ?_
  refine Run.inLoop ?_
  repeat (first | refine Run.seq ?_)
  refine Run.regionO (D := [some 186]) [true] rfl rfl rfl (fun Z hZ => ?_)
  refine QD.e (Ev.lss rfl rfl) (by decide) rfl ?_
  refine QD.nil (hZ _ ?_)
  clear hZ Z
  repeat (first | refine Run.seq ?_ | refine Run.skip ?_ | refine Run.block ?_ | refine Run.cond_t rfl ?_)
  refine Run.regionO (D := [some 187, some 15]) [true, true] rfl rfl rfl (fun Z hZ => ?_)
  refine QD.ev T (by decide) rfl rfl ?_
  refine QD.ev T (by decide) rfl rfl ?_
  refine QD.nil (hZ _ ?_)
  clear hZ Z
  skip
  refine Run.regionT (D := [some 188, some 189, some 190, some 191, some 192, some 193, some 194, some 195, some 196, some 197, some 198, none]) (fun _ => True) [true, true, true, true, true, true, true, true, true, true, true] (bl 12 2047) 1 (by kernel_rfl) (by kernel_rfl) (by kernel_rfl) rfl (fun Z hZ => ?_)
  refine QD.ev T (by decide) rfl rfl ?_
  refine QD.ev T (by decide) rfl rfl ?_
  refine QD.ev T (by decide) rfl rfl ?_
  refine QD.e (Ev.indexP T rfl rfl rfl rfl (by first | omega | (simp only [List.length_cons, List.length_nil] ; omega) | (simp; omega)) (by first | omega | (simp only [List.length_cons, List.length_nil] ; omega) | (simp; omega))) (by decide) rfl ?_
  first | refine QD.yv (by decide) rfl (Yv.load 0 T rfl rfl rfl rfl) ?_ | refine QD.yv (by decide) rfl (Yv.load 1 T rfl rfl rfl rfl) ?_ | refine QD.yv (by decide) rfl (Yv.load 2 T rfl rfl rfl rfl) ?_
  refine QD.ev T (by decide) rfl rfl ?_
  refine QD.e (Ev.indexP T rfl rfl rfl rfl (by first | omega | (simp only [List.length_cons, List.length_nil] ; omega) | (simp; omega)) (by first | omega | (simp only [List.length_cons, List.length_nil] ; omega) | (simp; omega))) (by decide) rfl ?_
  first | refine QD.yv (by decide) rfl (Yv.load 0 T rfl rfl rfl rfl) ?_ | refine QD.yv (by decide) rfl (Yv.load 1 T rfl rfl rfl rfl) ?_ | refine QD.yv (by decide) rfl (Yv.load 2 T rfl rfl rfl rfl) ?_
  refine QD.e (Ev.add32 rfl rfl) (by decide) rfl ?_
  refine QD.ev T (by decide) rfl rfl ?_
  refine QD.e (Ev.indexP T rfl rfl rfl rfl (by first | omega | (simp only [List.length_cons, List.length_nil] ; omega) | (simp; omega)) (by first | omega | (simp only [List.length_cons, List.length_nil] ; omega) | (simp; omega))) (by decide) rfl ?_
  refine QD.nil (hZ _ ?_)
  clear hZ Z
  refine RAny.os 11 (bl 12 4095) rfl (by kernel_rfl) rfl (Eff.store 1 rfl rfl rfl rfl (T.sizeOk rfl) rfl (Nat.le_of_ble_eq_true rfl) rfl rfl ⟨fun _ _ => trivial, ?_⟩)
  refine RAny.done _ (by kernel_rfl) ?_
  repeat (first | refine Run.inBlock ?_)
  refine Run.regionO (D := [some 199, some 185]) [true, true] rfl rfl rfl (fun Z hZ => ?_)
  refine QD.e (Ev.addI rfl rfl (wI (by first | omega | (simp only [List.length_cons, List.length_nil] ; omega) | (simp; omega)) (by first | omega | (simp only [List.length_cons, List.length_nil] ; omega) | (simp; omega)))) (by decide) rfl ?_
  refine QD.ev T (by decide) rfl rfl ?_
  refine QD.nil (hZ _ ?_)
  clear hZ Z
  skip
  refine Run.keep [0, 11, 185] [_, _, _] rfl ?_
  refine Run.inLoop ?_
  repeat (first | refine Run.seq ?_)
  refine Run.regionO (D := [some 186]) [true] rfl rfl rfl (fun Z hZ => ?_)
  refine QD.e (Ev.lss rfl rfl) (by decide) rfl ?_
  refine QD.nil (hZ _ ?_)
  clear hZ Z
  repeat (first | refine Run.seq ?_ | refine Run.exit rfl ?_ | refine Run.cond_f rfl ?_)
  refine Run.dropL (List.sublist_cons_self _ _) ?_
  refine Run.end0 (by rw [hCf]; exact Proofs.Tryd.func16) Proofs.Tryd.results16 (hR _ _ _ rfl)
end Go.V
/-
  SHA-256: the package's sum: begun, written to.
-/
namespace Go.V
open Go.RowKit
set_option linter.unusedVariables false
set_option linter.unusedSimpArgs false
set_option maxRecDepth 10000
attribute [local irreducible] Run Ops QD
theorem btB : Bt Proofs.Tryd.prog 54 5 := ⟨el54, Proofs.Tryd.t5, by kernel_rfl, rfl⟩
theorem Buf.cap {e : TypeId} {A : Option Addr} {m c : Nat} {xs : List UInt8} {M : Own} (h : Buf e (.slice A m c) xs M) : m = xs.length ∧ m ≤ c := by
  rcases h with ⟨e1, rfl, _⟩ | ⟨b, pre, post, cap, e1, _, h1, _⟩
  · injection e1 with _ h2 h3; subst h2; subst h3; simp
  · injection e1 with _ h2 h3; omega
def h0 : H8 := ⟨1779033703, 3144134277, 1013904242, 2773480762, 1359893119, 2600822924, 528734635, 1541459225⟩
/-- k blocks of 64 bytes -/
def absorb (v : H8) (s : List UInt8) : Nat → H8
  | 0 => v
  | k + 1 => compress (absorb v s k) ((s.drop (64 * k)).take 64)
theorem absorb_zero (v : H8) (s : List UInt8) : absorb v s 0 = v := rfl
theorem absorb_succ (v : H8) (s : List UInt8) (k : Nat) : absorb v s (k + 1) = compress (absorb v s k) ((s.drop (64 * k)).take 64) := rfl
theorem absorb_app (v : H8) (s u : List UInt8) : ∀ k, 64 * k ≤ s.length → absorb v (s ++ u) k = absorb v s k
  | 0, _ => rfl
  | k + 1, h => by
    rw [absorb_succ, absorb_succ, absorb_app v s u k (by omega), List.drop_append_of_le_length (by omega), List.take_append_of_le_length (by simp; omega)]
attribute [irreducible] absorb
attribute [local irreducible] compress
def shaObj (v : H8) (held : Value) (n : Nat) : Obj := blk (v.cs ++ [held, w64 (UInt64.ofNat n)]) 89
/-- a sum, to which s was written -/
def ShaSt (sb : Nat) (s : List UInt8) (M : Own) : Prop :=
  ∃ k held Mh, 64 * k ≤ s.length ∧ s.length < 64 * (k + 1) ∧ Buf 5 held (s.drop (64 * k)) Mh ∧ M = (sb, shaObj (absorb h0 s k) held s.length) :: Mh
theorem sum_Reset (I : Imm) (sb : Nat) (o : List Value) (ho : o.length = 10) : Spec Proofs.Tryd.prog 36 [.pointer (some ⟨sb, 0, none⟩)] I [(sb, blk o 89)] fun _ J M => M = [(sb, shaObj h0 (.slice none 0 0) 0)] := by
  refine Spec.enter 6 [(0, _)] Proofs.Tryd.func36 rfl Proofs.Tryd.ntmps36 (by simp) rfl ?_
  intro C hCf hR hCI
  skip
  refine Run.regionP (D := [some 2, some 3, some 4, some 5, none]) [true, true, true, true] 4 rfl rfl rfl (by simp only [List.drop_succ_cons, List.drop_zero]; rfl) (fun Z hZ => ?_)
  refine QD.ev T (by decide) rfl rfl ?_
  refine QD.e (Ev.buildArr (cs := h0.cs) T rfl rfl rfl rfl (by decide) (by decide) (by decide) rfl) (by decide) rfl ?_
  refine QD.e (Ev.buildS (cs := h0.cs ++ [.slice none 0 0, w64 (UInt64.ofNat 0)]) bd89 rfl rfl) (by decide) rfl ?_
  refine QD.ev T (by decide) rfl rfl ?_
  refine QD.nil (hZ _ ?_)
  clear hZ Z
  refine Ops.store 0 (cs' := h0.cs ++ [.slice none 0 0, w64 (UInt64.ofNat 0)]) rfl rfl rfl rfl rfl (T.sizeOk rfl) rfl (show 0 + 10 ≤ _ by omega) rfl ?_ ?_
  · unfold setAt
    rw [List.drop_eq_nil_of_le (by rw [ho]; decide)]
    rfl
  refine Ops.nil ?_
  refine Run.end0 (by rw [hCf]; exact Proofs.Tryd.func36) Proofs.Tryd.results36 (hR _ _ _ rfl)
theorem New256 (I : Imm) : Spec Proofs.Tryd.prog 28 [] I [] fun w J M => ∃ sb, w = .iface 86 (.pointer (some ⟨sb, 0, none⟩)) ∧ ShaSt sb [] M := by
  refine Spec.enter 8 [] Proofs.Tryd.func28 rfl Proofs.Tryd.ntmps28 (by simp) rfl ?_
  intro C hCf hR hCI
  repeat (first | refine Run.seq ?_)
  refine Run.regionO (D := [some 0]) [true] rfl rfl rfl (fun Z hZ => ?_)
  refine QD.ev T (by decide) rfl rfl ?_
  refine QD.nil (hZ _ ?_)
  clear hZ Z
  repeat (first | refine Run.seq ?_)
  refine Run.regionP (D := [some 2, some 3, some 1]) [true] 1 rfl rfl rfl (by simp only [List.drop_succ_cons, List.drop_zero]; rfl) (fun Z hZ => ?_)
  refine QD.e (Ev.buildS bd89 rfl rfl) (by decide) rfl ?_
  refine QD.nil (hZ _ ?_)
  clear hZ Z
  refine Ops.box rfl (by decide) rfl rfl (fun b => ?_)
  refine Ops.pure T rfl (by decide) rfl ?_
  refine Ops.nil ?_
  repeat (first | refine Run.seq ?_)
  refine Run.regionP (D := [some 4, some 5]) [true] 1 rfl rfl rfl (by simp only [List.drop_succ_cons, List.drop_zero]; rfl) (fun Z hZ => ?_)
  refine QD.ev T (by decide) rfl rfl ?_
  refine QD.nil (hZ _ ?_)
  clear hZ Z
  refine Ops.callP (N := []) ((sum_Reset I b _ rfl)) (.refl _) rfl (by decide) Proofs.Tryd.call36 rfl ?_
  rintro _ J1 M1 l1 rfl
  refine Ops.nil ?_
  repeat (first | refine Run.seq ?_)
  refine Run.regionO (D := [some 6, some 7, some 0]) [true, true, true] rfl rfl rfl (fun Z hZ => ?_)
  refine QD.ev T (by decide) rfl rfl ?_
  refine QD.ev T (by decide) rfl rfl ?_
  refine QD.ev T (by decide) rfl rfl ?_
  refine QD.nil (hZ _ ?_)
  clear hZ Z
  skip
  refine Run.ret1 (by rw [hCf]; exact Proofs.Tryd.func28) Proofs.Tryd.results28 rfl (hR _ _ _ ?_)
  refine ⟨b, rfl, 0, .slice none 0 0, [], by simp, by simp, Buf.nil _, ?_⟩
  rw [absorb_zero]
  rfl
set_option maxHeartbeats 1000000 in
theorem sum_Write (I : Imm) (sb : Nat) (s xs : List UInt8) (M : Own) (p : Value) (hS : ShaSt sb s M) (hp : Sl tU8 I p xs) (hlen : s.length + xs.length ≤ 1099511627776) :
    Spec Proofs.Tryd.prog 90 [.pointer (some ⟨sb, 0, none⟩), p] I M fun w J M' => w = .tuple #[.int .i64 xs.length, .nilIface] ∧ ShaSt sb (s ++ xs) M' := by
  obtain ⟨k, held, Mh, hk1, hk2, hG, rfl⟩ := hS
  have hp' := hp
  obtain ⟨A, cp, rfl, _, _⟩ := hp'
  refine Spec.enter 48 [(0, _), (1, _)] Proofs.Tryd.func90 rfl Proofs.Tryd.ntmps90 (by simp) rfl ?_
  intro C hCf hR hCI
  repeat (first | refine Run.seq ?_)
  refine Run.regionO (D := [some 4, some 5]) [true, true] rfl rfl rfl (fun Z hZ => ?_)
  refine QD.ev T (by decide) rfl rfl ?_
  refine QD.ev T (by decide) rfl rfl ?_
  refine QD.nil (hZ _ ?_)
  clear hZ Z
  repeat (first | refine Run.seq ?_)
  refine Run.regionP (D := [some 6, some 7, some 8, some 9, some 10, some 11, some 12, some 13, some 14, some 15, none]) [true, true, true, true, true, true, true, true, true, true] 10 rfl rfl rfl (by simp only [List.drop_succ_cons, List.drop_zero]; rfl) (fun Z hZ => ?_)
  refine QD.ev T (by decide) rfl rfl ?_
  refine QD.ev T (by decide) rfl rfl ?_
  refine QD.ev T (by decide) rfl rfl ?_
  first | refine QD.yv (by decide) rfl (Yv.load 0 T rfl rfl rfl rfl) ?_ | refine QD.yv (by decide) rfl (Yv.load 1 T rfl rfl rfl rfl) ?_ | refine QD.yv (by decide) rfl (Yv.load 2 T rfl rfl rfl rfl) ?_
  refine QD.ev T (by decide) rfl rfl ?_
  refine QD.ev T (by decide) rfl rfl ?_
  refine QD.e (Ev.cn_64 T rfl rfl rfl) (by decide) rfl ?_
  refine QD.e (Ev.add64 rfl rfl) (by decide) rfl ?_
  refine QD.ev T (by decide) rfl rfl ?_
  refine QD.ev T (by decide) rfl rfl ?_
  refine QD.nil (hZ _ ?_)
  clear hZ Z
  refine Ops.store 0 (cs' := (absorb h0 s k).cs ++ [held, w64 (UInt64.ofNat (s.length + xs.length))]) rfl rfl rfl rfl rfl (T.sizeOk rfl) rfl (Nat.le_of_ble_eq_true rfl) rfl (by rw [UInt64.ofNat_add]; rfl) ?_
  refine Ops.nil ?_
  repeat (first | refine Run.seq ?_)
  refine Run.regionP (D := [some 16, some 17, some 18, some 19, some 20, some 21, some 22, some 23, some 24, none]) [true, true, true, true, true, true] 6 rfl rfl rfl (by simp only [List.drop_succ_cons, List.drop_zero]; rfl) (fun Z hZ => ?_)
  refine QD.ev T (by decide) rfl rfl ?_
  refine QD.ev T (by decide) rfl rfl ?_
  refine QD.ev T (by decide) rfl rfl ?_
  refine QD.ev T (by decide) rfl rfl ?_
  first | refine QD.yv (by decide) rfl (Yv.load 0 T rfl rfl rfl rfl) ?_ | refine QD.yv (by decide) rfl (Yv.load 1 T rfl rfl rfl rfl) ?_ | refine QD.yv (by decide) rfl (Yv.load 2 T rfl rfl rfl rfl) ?_
  refine QD.ev T (by decide) rfl rfl ?_
  refine QD.nil (hZ _ ?_)
  clear hZ Z
  refine Ops.appSlB (N := [_]) btB hG hp rfl (by decide) rfl rfl rfl (by simp; omega) ?_
  intro held' Mh' hG'
  have hG2 := hG'
  obtain ⟨A', c', rfl⟩ := hG2.isSl
  refine Ops.pure T rfl (by decide) rfl ?_
  refine Ops.pure T rfl (by decide) rfl ?_
  refine Ops.store 0 (cs' := (absorb h0 (s ++ xs) k).cs ++ [.slice A' (s.drop (64 * k) ++ xs).length c', w64 (UInt64.ofNat (s.length + xs.length))]) rfl rfl rfl rfl rfl (T.sizeOk rfl) rfl (Nat.le_of_ble_eq_true rfl) rfl (by rw [absorb_app _ _ _ _ hk1]; rfl) ?_
  refine Ops.nil ?_
  rw [show s.drop (64 * k) ++ xs = (s ++ xs).drop (64 * k) from (List.drop_append_of_le_length hk1).symm] at hG' ⊢
  have hk1' : 64 * k ≤ (s ++ xs).length := by simp; omega
  have hsx : (s ++ xs).length ≤ 1099511627776 := by simp; omega
  rw [show s.length + xs.length = (s ++ xs).length by simp]
  generalize s ++ xs = d at *
  clear hk1 hk2 hG hlen
  repeat (first | refine Run.seq ?_ | refine Run.block ?_)
  refine Run.keep [0, 1] [_, _] rfl ?_
  refine Run.rounds (fun m env L J => ∃ (k : Nat) (held : Value) (Mh : Own), m = d.length - 64 * k ∧ 64 * k ≤ d.length ∧ Buf 5 held (d.drop (64 * k)) Mh ∧ env = [(0, .pointer (some ⟨sb, 0, none⟩)), (1, .slice A xs.length cp)] ∧ L = (sb, shaObj (absorb h0 d k) held d.length) :: Mh ∧ Le I J) (d.length - 64 * k) ⟨k, _, Mh', rfl, hk1', hG', rfl, rfl, Le.refl _⟩ ?_
  clear hG' hk1'
  rintro m env L J ⟨k, held, Mh, rfl, hk1, hG, rfl, rfl, hle0⟩ ih
  have hG2 := hG
  obtain ⟨A2, c2, rfl⟩ := hG2.isSl
  have hlk : (d.drop (64 * k)).length = d.length - 64 * k := by simp
  repeat (first | refine Run.seq ?_)
  refine Run.regionO (D := [some 25, some 26, some 27, some 28, some 29, some 30]) [true, true, true, true, true, true] rfl rfl rfl (fun Z hZ => ?_)
  refine QD.ev T (by decide) rfl rfl ?_
  refine QD.ev T (by decide) rfl rfl ?_
  refine QD.ev T (by decide) rfl rfl ?_
  first | refine QD.yv (by decide) rfl (Yv.load 0 T rfl rfl rfl rfl) ?_ | refine QD.yv (by decide) rfl (Yv.load 1 T rfl rfl rfl rfl) ?_ | refine QD.yv (by decide) rfl (Yv.load 2 T rfl rfl rfl rfl) ?_
  refine QD.ev T (by decide) rfl rfl ?_
  refine QD.e (Ev.geq rfl rfl) (by decide) rfl ?_
  refine QD.nil (hZ _ ?_)
  clear hZ Z
  skip
  refine Run.cond rfl rfl (fun h1 => ?_) (fun h1 => ?_)
  all_goals (try rw [h1])
  all_goals (try simp only [decide_eq_true_eq, decide_eq_false_iff_not, Bool.not_eq_true', Bool.not_eq_false', Bool.and_eq_true, Bool.or_eq_true, Bool.and_eq_false_imp, Bool.or_eq_false_iff] at h1)
  · skip
    repeat (first | refine Run.seq ?_ | refine Run.skip ?_ | refine Run.block ?_)
    have hlt : 64 ≤ (d.drop (64 * k)).length := by omega
    have hm := hG.cap.2
    have hcap : 64 ≤ c2 := by omega
    refine Run.regionP (D := [some 31, some 32, some 33, some 34, some 35, some 36, some 37]) [true, true, true, true, true, true] 6 rfl rfl rfl (by simp only [List.drop_succ_cons, List.drop_zero]; rfl) (fun Z hZ => ?_)
    refine QD.ev T (by decide) rfl rfl ?_
    refine QD.ev T (by decide) rfl rfl ?_
    refine QD.ev T (by decide) rfl rfl ?_
    refine QD.ev T (by decide) rfl rfl ?_
    first | refine QD.yv (by decide) rfl (Yv.load 0 T rfl rfl rfl rfl) ?_ | refine QD.yv (by decide) rfl (Yv.load 1 T rfl rfl rfl rfl) ?_ | refine QD.yv (by decide) rfl (Yv.load 2 T rfl rfl rfl rfl) ?_
    refine QD.e (Ev.sliceHi' T rfl rfl rfl rfl (by first | omega | (simp only [List.length_cons, List.length_nil] ; omega) | (simp; omega)) (by first | omega | (simp only [List.length_cons, List.length_nil] ; omega) | (simp; omega))) (by decide) rfl ?_
    refine QD.nil (hZ _ ?_)
    clear hZ Z
    refine Ops.callM (N := []) (Spec.lend (M := [_]) (N := Mh) (R := fun _ M' => M' = [(sb, shaObj (absorb h0 d (k + 1)) (.slice A2 (d.drop (64 * k)).length c2) d.length)]) fun J hle hJ => (zz_block J (absorb h0 d k) sb _ _ _ _ (hG.slTake hJ rfl hlt) (by simp; omega)).mono fun _ _ _ _ h => by rw [h, absorb_succ]; rfl) (by rw [List.append_nil]; exact .refl _) rfl (by decide) Proofs.Tryd.call91 rfl ?_
    rintro _ J1 _ l1 ⟨_, rfl, rfl⟩
    refine Ops.nil ?_
    skip
    have hcut := hG.cut (lo := 64) rfl hlt
    refine Run.regionP (D := [some 38, some 39, some 40, some 41, some 42, some 43, some 44, some 45, none]) [true, true, true, true, true, true, true, true] 8 rfl rfl rfl (by simp only [List.drop_succ_cons, List.drop_zero]; rfl) (fun Z hZ => ?_)
    refine QD.ev T (by decide) rfl rfl ?_
    refine QD.ev T (by decide) rfl rfl ?_
    refine QD.ev T (by decide) rfl rfl ?_
    refine QD.ev T (by decide) rfl rfl ?_
    first | refine QD.yv (by decide) rfl (Yv.load 0 T rfl rfl rfl rfl) ?_ | refine QD.yv (by decide) rfl (Yv.load 1 T rfl rfl rfl rfl) ?_ | refine QD.yv (by decide) rfl (Yv.load 2 T rfl rfl rfl rfl) ?_
    refine QD.e (Ev.sliceLo' T rfl rfl rfl rfl (by first | omega | (simp only [List.length_cons, List.length_nil] ; omega) | (simp; omega)) (by first | omega | (simp only [List.length_cons, List.length_nil] ; omega) | (simp; omega)) (by first | omega | (simp only [List.length_cons, List.length_nil] ; omega) | (simp; omega))) (by decide) rfl ?_
    refine QD.ev T (by decide) rfl rfl ?_
    refine QD.ev T (by decide) rfl rfl ?_
    refine QD.nil (hZ _ ?_)
    clear hZ Z
    refine Ops.store 0 (cs' := (absorb h0 d (k + 1)).cs ++ [.slice (if c2 = 64 then A2 else A2.map (·.add 64)) ((d.drop (64 * k)).length - 64) (c2 - 64), w64 (UInt64.ofNat d.length)]) rfl rfl rfl rfl rfl (T.sizeOk rfl) rfl (Nat.le_of_ble_eq_true rfl) rfl rfl ?_
    refine Ops.nil ?_
    repeat (first | refine Run.inBlock ?_)
    refine Run.keep [0, 1] [_, _] rfl ?_
    rw [List.drop_drop, show 64 * k + 64 = 64 * (k + 1) by omega] at hcut
    exact ih (d.length - 64 * (k + 1)) _ _ _ (by omega) ⟨k + 1, _, Mh, rfl, by omega, hcut, rfl, by simp [upL, shaObj], hle0.trans l1⟩
  clear ih
  repeat (first | refine Run.seq ?_ | refine Run.exit rfl ?_)
  refine Run.regionO (D := [some 46, some 47, some 4, some 5]) [true, true, true, true] rfl rfl rfl (fun Z hZ => ?_)
  refine QD.ev T (by decide) rfl rfl ?_
  refine QD.ev T (by decide) rfl rfl ?_
  refine QD.ev T (by decide) rfl rfl ?_
  refine QD.ev T (by decide) rfl rfl ?_
  refine QD.nil (hZ _ ?_)
  clear hZ Z
  skip
  refine Run.ret2 (by rw [hCf]; exact Proofs.Tryd.func90) Proofs.Tryd.results90 rfl rfl (hR _ _ _ ?_)
  exact ⟨rfl, k, _, Mh, hk1, by omega, hG, rfl⟩
end Go.V
/-
  SHA-256: the package's sum told.
-/
namespace Go.V
open Go.RowKit
set_option linter.unusedVariables false
set_option linter.unusedSimpArgs false
set_option maxRecDepth 10000
attribute [local irreducible] Run Ops QD compress
def zs (r : Nat) : Nat := (119 - r) % 64
def be8 (n : Nat) : List UInt8 := (List.range 8).map fun (j : Nat) => (sr64 (UInt64.ofNat n * 8) (56 - 8 * (j : Int))).toUInt8
def padTail (r : List UInt8) (n : Nat) : List UInt8 := r ++ [128] ++ List.replicate (zs r.length) 0 ++ be8 n
theorem be8_len (n : Nat) : (be8 n).length = 8 := rfl
theorem padTail_len {r : List UInt8} {n : Nat} (h : r.length < 64) : (padTail r n).length % 64 = 0 ∧ 64 ≤ (padTail r n).length ∧ (padTail r n).length ≤ 128 := by
  simp only [padTail, List.length_append, List.length_replicate, be8_len, List.length_cons, List.length_nil, zs]
  omega
def finalH (s : List UInt8) : H8 := absorb (absorb h0 s (s.length / 64)) (padTail (s.drop (64 * (s.length / 64))) s.length) ((padTail (s.drop (64 * (s.length / 64))) s.length).length / 64)
def H8.ws (v : H8) : List UInt32 := [v.a, v.b, v.c, v.d, v.e, v.f, v.g, v.h]
theorem H8.cs_ws (v : H8) : v.cs = v.ws.map w32 := rfl
def be4 (x : UInt32) : List UInt8 := [(sr32 x 24).toUInt8, (sr32 x 16).toUInt8, (sr32 x 8).toUInt8, x.toUInt8]
def sha (s : List UInt8) : List UInt8 := (finalH s).ws.flatMap be4
theorem flatMap_be4_len : ∀ l : List UInt32, (l.flatMap be4).length = 4 * l.length
  | [] => rfl
  | x :: r => by rw [List.flatMap_cons, List.length_append, flatMap_be4_len r]; simp [be4]; omega
theorem be8_take (n j : Nat) (h : j < 8) : (be8 n).take (j + 1) = (be8 n).take j ++ [(sr64 (UInt64.ofNat n * 8) (56 - 8 * (j : Int))).toUInt8] := by
  rw [List.take_add_one]
  simp [be8, h]
section
variable {P : Program} {I : Imm} {L : Own}
theorem src_buf {ts e e' : TypeId} {v : Value} {ys : List UInt8} {M : Own} (hu : P.underlying ts = some (.slice e)) (hG : Buf e' v ys M) (hm : ∀ x, x ∈ M → x ∈ L) {w0 : World} {I0 : Imm} {L0 : List Nat} {W : World} (hi : Inv w0 I0 L0 I L W) : Src P 1 ts v ys.length (wb ys) W := by
  rcases hG with ⟨rfl, rfl, _⟩ | ⟨b, pre, post, cap, rfl, rfl, hc, _⟩
  · exact Src.ofNil W hu 0
  · exact src_own hu hi (hm _ (List.mem_singleton.2 rfl))
variable {n : Nat} {C : Cx} {env : Env} {ops : Array Oper} {ty : TypeId} {ps : String} {af : Array Edge} {g : Option (Nat × Bool)} {d : Nat}
theorem Eff.appLit {s x : Operand} {ts e : TypeId} {b q c : Nat} {M N : Own} {v : Value} {xs : List UInt8} {news : List Value} {K : Value → Own → Imm → Prop} (ys : List UInt8) (hE : Bt P ts e) (hG : Buf e v xs M) (hs : opnd env s = some v) (hx : opnd env x = some (.slice (some ⟨b, 0, none⟩) q c))
    (hL : L = (b, blk news e) :: (N ++ M)) (hn : news = wb ys) (hq : ys.length = q) (hbytes : 2 * (xs.length + ys.length) + 512 ≤ 281474976710656)
    (next : ∀ v' M', Buf e v' (xs ++ ys) M' → K v' (N ++ M') I) : Eff P n C env L I ⟨some d, .call ⟨.builtin .append, #[s, x], #[ts, ts]⟩, ty, ps, af, g⟩ K := by
  subst hL; subst hn; subst hq
  intro a W he hi
  have hp : ((b, blk (wb ys) e) :: (N ++ M)).Perm (M ++ ((b, blk (wb ys) e) :: N)) := (List.Perm.cons _ List.perm_append_comm).trans List.perm_middle.symm
  have hsrc := src_own (P := P) (ts := ts) (pre := []) (post := []) (ys := ys) (b := b) (c := c) (e' := e) hE.el.under hi (by simp)
  simp only [List.length_nil] at hsrc
  obtain ⟨v', W', M', hr, hG', hi'⟩ := run_append_buf (P := P) (ty := ty) hE.el hE.zero (hi.perm hp) hG hsrc hbytes (by omega)
  refine .inl ⟨v', W', N ++ M', I, .inl ?_, ?_, next v' M' hG'⟩
  · simp [execOp, resolve, Go.invoke, builtin, eval_opnd he hs, eval_opnd he hx, hr]
  · exact (hi'.perm List.perm_append_comm).weakenL (List.Sublist.append_right (List.sublist_cons_self _ _) _)
end
set_option maxHeartbeats 4000000 in
theorem sum_Sum (I : Imm) (sb : Nat) (s ib : List UInt8) (M Min : Own) (p : Value) (hS : ShaSt sb s M) (hp : Buf 5 p ib Min) (hlen : s.length ≤ 1099511627776) (hib : ib.length ≤ 1099511627776) :
    Spec Proofs.Tryd.prog 89 [.pointer (some ⟨sb, 0, none⟩), p] I (M ++ Min) fun w J M' => ∃ Mo, Buf 5 w (ib ++ sha s) Mo ∧ M' = M ++ Mo := by
  obtain ⟨k, held, Mh, hk1, hk2, hG, rfl⟩ := hS
  have hk : s.length / 64 = k := by omega
  have hfin : finalH s = absorb (absorb h0 s k) (padTail (s.drop (64 * k)) s.length) ((padTail (s.drop (64 * k)) s.length).length / 64) := by unfold finalH; rw [hk]
  unfold sha
  rw [hfin]
  generalize absorb h0 s k = hk at *
  have hrl : (s.drop (64 * k)).length < 64 := by simp; omega
  generalize s.drop (64 * k) = r at *
  have hG0 := hG
  obtain ⟨Ah, ch, rfl⟩ := hG0.isSl
  refine Spec.enter 83 [(0, _), (1, _)] Proofs.Tryd.func89 rfl Proofs.Tryd.ntmps89 (by simp) rfl ?_
  intro C hCf hR hCI
  repeat (first | refine Run.seq ?_)
  refine Run.regionO (D := [some 4]) [true] rfl rfl rfl (fun Z hZ => ?_)
  refine QD.ev T (by decide) rfl rfl ?_
  refine QD.nil (hZ _ ?_)
  clear hZ Z
  repeat (first | refine Run.seq ?_)
  refine Run.regionP (D := [some 10, some 11, some 12, some 5, none]) [true, true, true] 3 rfl rfl rfl (by simp only [List.drop_succ_cons, List.drop_zero]; rfl) (fun Z hZ => ?_)
  refine QD.ev T (by decide) rfl rfl ?_
  refine QD.ev T (by decide) rfl rfl ?_
  first | refine QD.yv (by decide) rfl (Yv.loadN 0 T rfl rfl rfl rfl rfl rfl) ?_ | refine QD.yv (by decide) rfl (Yv.loadN 1 T rfl rfl rfl rfl rfl rfl) ?_ | refine QD.yv (by decide) rfl (Yv.loadN 2 T rfl rfl rfl rfl rfl rfl) ?_
  refine QD.nil (hZ _ ?_)
  clear hZ Z
  refine Ops.alloc rfl (by decide) (T.zeroOk rfl) rfl (fun b5 => ?_)
  refine Ops.store 0 (cs' := hk.cs ++ [.slice Ah r.length ch, w64 (UInt64.ofNat s.length)]) rfl rfl rfl rfl rfl (T.sizeOk rfl) rfl (Nat.le_of_ble_eq_true rfl) rfl rfl ?_
  refine Ops.nil ?_
  repeat (first | refine Run.seq ?_)
  refine Run.regionP (D := [some 13, some 14, some 15, some 16, some 17, some 18, none]) [true, true, true, true] 4 rfl rfl rfl (by simp only [List.drop_succ_cons, List.drop_zero]; rfl) (fun Z hZ => ?_)
  refine QD.ev T (by decide) rfl rfl ?_
  refine QD.ev T (by decide) rfl rfl ?_
  refine QD.ev T (by decide) rfl rfl ?_
  first | refine QD.yv (by decide) rfl (Yv.load 0 T rfl rfl rfl rfl) ?_ | refine QD.yv (by decide) rfl (Yv.load 1 T rfl rfl rfl rfl) ?_ | refine QD.yv (by decide) rfl (Yv.load 2 T rfl rfl rfl rfl) ?_
  refine QD.nil (hZ _ ?_)
  clear hZ Z
  refine Ops.appBuf (M := []) (N := (b5, _) :: ((sb, _) :: Mh ++ Min)) btB (Buf.nil _) rfl (by decide) rfl rfl (.refl _) (fun W hi => src_buf btB.el.under hG (fun x hx => List.mem_cons_of_mem _ (List.mem_append_left _ (List.mem_cons_of_mem _ hx))) hi) (by simp; omega) ?_
  intro vt Mt hT
  rw [List.nil_append] at hT
  refine Ops.perm List.perm_append_comm ?_
  have hT0 := hT
  obtain ⟨A2, c2, rfl⟩ := hT0.isSl
  have hNM : ((sb, shaObj hk (.slice Ah r.length ch) s.length) :: Mh) = ((sb, shaObj hk (.slice Ah r.length ch) s.length) :: Mh) := rfl
  generalize hN : ((sb, shaObj hk (.slice Ah r.length ch) s.length) :: Mh) = N at *
  refine Ops.perm (L' := (b5, _) :: (N ++ Min ++ Mt)) (by subst hN; exact .refl _) ?_
  clear hNM
  refine Ops.pure T rfl (by decide) rfl ?_
  refine Ops.store 0 (cs' := hk.cs ++ [.slice A2 r.length c2, w64 (UInt64.ofNat s.length)]) rfl rfl rfl rfl rfl (T.sizeOk rfl) rfl (Nat.le_of_ble_eq_true rfl) rfl rfl ?_
  refine Ops.nil ?_
  repeat (first | refine Run.seq ?_)
  refine Run.regionO (D := [some 19, some 20, some 21, some 6]) [true, true, true, true] rfl rfl rfl (fun Z hZ => ?_)
  refine QD.ev T (by decide) rfl rfl ?_
  first | refine QD.yv (by decide) rfl (Yv.load 0 T rfl rfl rfl rfl) ?_ | refine QD.yv (by decide) rfl (Yv.load 1 T rfl rfl rfl rfl) ?_ | refine QD.yv (by decide) rfl (Yv.load 2 T rfl rfl rfl rfl) ?_
  refine QD.e (Ev.mul64c rfl rfl (by decide)) (by decide) rfl ?_
  refine QD.ev T (by decide) rfl rfl ?_
  refine QD.nil (hZ _ ?_)
  clear hZ Z
  repeat (first | refine Run.seq ?_)
  refine Run.regionP (D := [some 22, some 23, some 24, some 25, some 26, none]) [true, true] 2 rfl rfl rfl (by simp only [List.drop_succ_cons, List.drop_zero]; rfl) (fun Z hZ => ?_)
  refine QD.ev T (by decide) rfl rfl ?_
  first | refine QD.yv (by decide) rfl (Yv.load 0 T rfl rfl rfl rfl) ?_ | refine QD.yv (by decide) rfl (Yv.load 1 T rfl rfl rfl rfl) ?_ | refine QD.yv (by decide) rfl (Yv.load 2 T rfl rfl rfl rfl) ?_
  refine QD.nil (hZ _ ?_)
  clear hZ Z
  refine Ops.lit T rfl rfl rfl (by decide) rfl (by decide) (by decide) rfl rfl rfl rfl rfl (fun bq => ?_)
  refine Ops.appLit [128] (N := (b5, _) :: (N ++ Min)) btB hT rfl (by decide) rfl rfl rfl rfl rfl (by simp; omega) ?_
  clear hT hT0
  intro vt Mt hT
  have hT0 := hT
  obtain ⟨A2, c2, rfl⟩ := hT0.isSl
  refine Ops.pure T rfl (by decide) rfl ?_
  refine Ops.store 0 (cs' := hk.cs ++ [.slice A2 (r ++ [128]).length c2, w64 (UInt64.ofNat s.length)]) rfl rfl rfl rfl rfl (T.sizeOk rfl) rfl (Nat.le_of_ble_eq_true rfl) rfl rfl ?_
  refine Ops.nil ?_
  repeat (first | refine Run.seq ?_ | refine Run.block ?_)
  refine Run.keep [1, 5, 6] [_, _, _] rfl ?_
  rw [show (r ++ [128]) = r ++ [128] ++ List.replicate 0 0 by simp] at hT ⊢
  refine Run.rounds (fun m env L J => ∃ (z : Nat) (A2 : Option Addr) (c2 : Nat) (Mt : Own), m = 64 - z ∧ z ≤ zs r.length ∧ Buf 5 (.slice A2 (r ++ [128] ++ List.replicate z 0).length c2) (r ++ [128] ++ List.replicate z 0) Mt ∧ env = [(1, p), (5, .pointer (some ⟨b5, 0, none⟩)), (6, w64 (UInt64.ofNat s.length * 8))] ∧ L = (b5, shaObj hk (.slice A2 (r ++ [128] ++ List.replicate z 0).length c2) s.length) :: (N ++ Min ++ Mt) ∧ I = J) 64 ⟨0, A2, c2, Mt, rfl, by omega, hT, rfl, rfl, rfl⟩ ?_
  clear hT hT0
  rintro m env L J ⟨z, A2, c2, Mt, rfl, hz, hT, rfl, rfl, rfl⟩ ih
  have hl : (r ++ [128] ++ List.replicate z (0 : UInt8)).length = r.length + 1 + z := by simp; omega
  have hz64 : z < 64 := by unfold zs at hz; omega
  repeat (first | refine Run.seq ?_)
  refine Run.regionO (D := [some 27, some 28, some 29, some 30, some 31]) [true, true, true, true, true] rfl rfl rfl (fun Z hZ => ?_)
  refine QD.ev T (by decide) rfl rfl ?_
  first | refine QD.yv (by decide) rfl (Yv.load 0 T rfl rfl rfl rfl) ?_ | refine QD.yv (by decide) rfl (Yv.load 1 T rfl rfl rfl rfl) ?_ | refine QD.yv (by decide) rfl (Yv.load 2 T rfl rfl rfl rfl) ?_
  refine QD.ev T (by decide) rfl rfl ?_
  refine QD.e (Ev.remI rfl rfl (by decide) (Int.tmod_eq_emod_of_nonneg (by first | omega | (simp only [List.length_cons, List.length_nil] ; omega) | (simp; omega)))) (by decide) rfl ?_
  refine QD.e (Ev.neqI rfl rfl) (by decide) rfl ?_
  refine QD.nil (hZ _ ?_)
  clear hZ Z
  skip
  cases h1 : !decide ((((r ++ [128] ++ List.replicate z (0 : UInt8)).length : Int) % 64) = 56) with
  | true =>
    have hne : ¬ (r.length + 1 + z) % 64 = 56 := by simp at h1; omega
    repeat (first | refine Run.skip ?_ | refine Run.block ?_ | refine Run.cond_t rfl ?_)
    refine Run.regionP (D := [some 32, some 33, some 34, some 35, some 36, none]) [true, true] 2 rfl rfl rfl (by simp only [List.drop_succ_cons, List.drop_zero]; rfl) (fun Z hZ => ?_)
    refine QD.ev T (by decide) rfl rfl ?_
    first | refine QD.yv (by decide) rfl (Yv.load 0 T rfl rfl rfl rfl) ?_ | refine QD.yv (by decide) rfl (Yv.load 1 T rfl rfl rfl rfl) ?_ | refine QD.yv (by decide) rfl (Yv.load 2 T rfl rfl rfl rfl) ?_
    refine QD.nil (hZ _ ?_)
    clear hZ Z
    refine Ops.lit T rfl rfl rfl (by decide) rfl (by decide) (by decide) rfl rfl rfl rfl rfl (fun bq => ?_)
    refine Ops.appLit [0] (N := (b5, _) :: (N ++ Min)) btB hT rfl (by decide) rfl rfl rfl rfl rfl (by rw [hl]; simp; omega) ?_
    clear hT
    intro vt Mt hT
    have hT0 := hT
    obtain ⟨A2, c2, rfl⟩ := hT0.isSl
    refine Ops.pure T rfl (by decide) rfl ?_
    refine Ops.store 0 (cs' := hk.cs ++ [.slice A2 (r ++ [128] ++ List.replicate z 0 ++ [0]).length c2, w64 (UInt64.ofNat s.length)]) rfl rfl rfl rfl rfl (T.sizeOk rfl) rfl (Nat.le_of_ble_eq_true rfl) rfl rfl ?_
    refine Ops.nil ?_
    repeat (first | refine Run.inBlock ?_)
    refine Run.keep [1, 5, 6] [_, _, _] rfl ?_
    have e1 : r ++ [128] ++ List.replicate z (0 : UInt8) ++ [0] = r ++ [128] ++ List.replicate (z + 1) 0 := by rw [List.replicate_succ']; simp only [List.append_assoc]
    rw [e1] at hT ⊢
    exact ih (64 - (z + 1)) _ _ _ (by omega) ⟨z + 1, A2, c2, Mt, rfl, by unfold zs at hz ⊢; omega, hT, rfl, rfl, rfl⟩
  | false =>
  have hzz : z = zs r.length := by
    have : (r.length + 1 + z) % 64 = 56 := by simp at h1; omega
    unfold zs at hz ⊢; omega
  clear ih h1
  subst hzz
  repeat (first | refine Run.seq ?_ | refine Run.exit rfl ?_ | refine Run.cond_f rfl ?_)
  refine Run.regionO (D := [some 7]) [true] rfl rfl rfl (fun Z hZ => ?_)
  refine QD.ev T (by decide) rfl rfl ?_
  refine QD.nil (hZ _ ?_)
  clear hZ Z
  repeat (first | refine Run.block ?_)
  refine Run.keep [1, 5, 6, 7] [_, _, _, _] rfl ?_
  have etl : r ++ [128] ++ List.replicate (zs r.length) 0 ++ be8 s.length = padTail r s.length := rfl
  generalize r ++ [128] ++ List.replicate (zs r.length) (0 : UInt8) = q at *
  rw [show q = q ++ (be8 s.length).take 0 by simp] at hT ⊢
  refine Run.rounds (fun m env L J => ∃ (j : Nat) (A2 : Option Addr) (c2 : Nat) (Mt : Own), m = 8 - j ∧ j ≤ 8 ∧ Buf 5 (.slice A2 (q ++ (be8 s.length).take j).length c2) (q ++ (be8 s.length).take j) Mt ∧ env = [(1, p), (5, .pointer (some ⟨b5, 0, none⟩)), (6, w64 (UInt64.ofNat s.length * 8)), (7, .int .i64 (56 - 8 * (j : Int)))] ∧ L = (b5, shaObj hk (.slice A2 (q ++ (be8 s.length).take j).length c2) s.length) :: (N ++ Min ++ Mt) ∧ I = J) 8 ⟨0, A2, c2, Mt, rfl, by omega, hT, rfl, rfl, rfl⟩ ?_
  clear hT
  rintro m env L J ⟨j, A2, c2, Mt, rfl, hj, hT, rfl, rfl, rfl⟩ ih
  have hl2 : (q ++ (be8 s.length).take j).length = q.length + j := by rw [List.length_append, List.length_take, be8_len]; omega
  repeat (first | refine Run.seq ?_)
  refine Run.regionO (D := [some 37, some 38]) [true, true] rfl rfl rfl (fun Z hZ => ?_)
  refine QD.ev T (by decide) rfl rfl ?_
  refine QD.e (Ev.geq rfl rfl) (by decide) rfl ?_
  refine QD.nil (hZ _ ?_)
  clear hZ Z
  skip
  refine Run.cond rfl rfl (fun h1 => ?_) (fun h1 => ?_)
  all_goals (try rw [h1])
  all_goals (try simp only [decide_eq_true_eq, decide_eq_false_iff_not, Bool.not_eq_true', Bool.not_eq_false', Bool.and_eq_true, Bool.or_eq_true, Bool.and_eq_false_imp, Bool.or_eq_false_iff] at h1)
  · skip
    repeat (first | refine Run.seq ?_ | refine Run.skip ?_ | refine Run.block ?_)
    refine Run.regionAny (fun _ => True) (bl 10 0) (by kernel_rfl) (by kernel_rfl) ?_
    refine RAny.tk 0 (bl 10 1) rfl (by kernel_rfl) (by decide) (fun _ _ => trivial) (Yld.eval T rfl rfl) ?_
    refine RAny.tk 2 (bl 10 5) rfl (by kernel_rfl) (by decide) (fun _ _ => trivial) (Yld.eval T rfl rfl) ?_
    refine RAny.tk 3 (bl 10 13) rfl (by kernel_rfl) (by decide) (fun _ _ => trivial) (Yld.eval T rfl rfl) ?_
    refine RAny.tk 4 (bl 10 29) rfl (by kernel_rfl) (by decide) (fun _ _ => trivial) (Yld.ev (Ev.shr64 rfl rfl (by omega) (by omega)) rfl) ?_
    refine RAny.tk 5 (bl 10 61) rfl (by kernel_rfl) (by decide) (fun _ _ => trivial) (Yld.ev (Ev.c64_8 T rfl rfl rfl) rfl) ?_
    refine RAny.two 1 6 (bl 10 63) (bl 10 125) rfl rfl (by kernel_rfl) rfl rfl (by decide) (by decide) (Eff.yv (Yv.load 0 T rfl rfl rfl rfl) ⟨fun _ _ => trivial, ?_⟩) (Eff.lit T rfl rfl rfl (by decide) (by decide) rfl rfl rfl rfl rfl fun bq => ⟨fun _ _ => trivial, ?_⟩)
    skip
    · skip
      skip
      refine RAny.on 6 (bl 10 127) rfl (by kernel_rfl) rfl (by decide) (Eff.lit T rfl rfl rfl (by decide) (by decide) rfl rfl rfl rfl rfl fun bq => ⟨fun _ _ => trivial, ?_⟩)
      refine RAny.on 7 (bl 10 255) rfl (by kernel_rfl) rfl (by decide) (Eff.appLit [(sr64 (UInt64.ofNat s.length * 8) (56 - 8 * (j : Int))).toUInt8] (N := (b5, _) :: (N ++ Min)) btB hT rfl rfl rfl rfl rfl (by rw [hl2]; simp; omega) fun vt Mt hT => ⟨fun _ _ => trivial, ?_⟩)
      have hT0 := hT
      obtain ⟨A2, c2, rfl⟩ := hT0.isSl
      refine RAny.tk 8 (bl 10 511) rfl (by kernel_rfl) (by decide) (fun _ _ => trivial) (Yld.eval T rfl rfl) ?_
      refine RAny.os 9 (bl 10 1023) rfl (by kernel_rfl) rfl (Eff.store 0 (cs' := hk.cs ++ [.slice A2 (q ++ (be8 s.length).take j ++ [(sr64 (UInt64.ofNat s.length * 8) (56 - 8 * (j : Int))).toUInt8]).length c2, w64 (UInt64.ofNat s.length)]) rfl rfl rfl rfl (T.sizeOk rfl) rfl (Nat.le_of_ble_eq_true rfl) rfl rfl ⟨fun _ _ => trivial, ?_⟩)
      refine RAny.done _ (by kernel_rfl) ?_
      repeat (first | refine Run.inBlock ?_)
      refine Run.regionO (D := [some 39, some 40, some 7]) [true, true, true] rfl rfl rfl (fun Z hZ => ?_)
      refine QD.ev T (by decide) rfl rfl ?_
      refine QD.e (Ev.subI rfl rfl (wI (by first | omega | (simp only [List.length_cons, List.length_nil] ; omega) | (simp; omega)) (by first | omega | (simp only [List.length_cons, List.length_nil] ; omega) | (simp; omega)))) (by decide) rfl ?_
      refine QD.ev T (by decide) rfl rfl ?_
      refine QD.nil (hZ _ ?_)
      clear hZ Z
      skip
      refine Run.keep [1, 5, 6, 7] [_, _, _, _] rfl ?_
      rw [List.append_assoc q, ← be8_take s.length j (by omega)] at hT ⊢
      exact ih (8 - (j + 1)) _ _ _ (by omega) ⟨j + 1, A2, c2, Mt, rfl, by omega, hT, by rw [show (56 - 8 * ((j + 1 : Nat) : Int)) = 56 - 8 * (j : Int) - 8 by omega]; rfl, rfl, rfl⟩
    · skip
      skip
      skip
      refine RAny.on 1 (bl 10 127) rfl (by kernel_rfl) rfl (by decide) (Eff.yv (Yv.load 1 T rfl rfl rfl rfl) ⟨fun _ _ => trivial, ?_⟩)
      refine RAny.on 7 (bl 10 255) rfl (by kernel_rfl) rfl (by decide) (Eff.appLit [(sr64 (UInt64.ofNat s.length * 8) (56 - 8 * (j : Int))).toUInt8] (N := (b5, _) :: (N ++ Min)) btB hT rfl rfl rfl rfl rfl (by rw [hl2]; simp; omega) fun vt Mt hT => ⟨fun _ _ => trivial, ?_⟩)
      have hT0 := hT
      obtain ⟨A2, c2, rfl⟩ := hT0.isSl
      refine RAny.tk 8 (bl 10 511) rfl (by kernel_rfl) (by decide) (fun _ _ => trivial) (Yld.eval T rfl rfl) ?_
      refine RAny.os 9 (bl 10 1023) rfl (by kernel_rfl) rfl (Eff.store 0 (cs' := hk.cs ++ [.slice A2 (q ++ (be8 s.length).take j ++ [(sr64 (UInt64.ofNat s.length * 8) (56 - 8 * (j : Int))).toUInt8]).length c2, w64 (UInt64.ofNat s.length)]) rfl rfl rfl rfl (T.sizeOk rfl) rfl (Nat.le_of_ble_eq_true rfl) rfl rfl ⟨fun _ _ => trivial, ?_⟩)
      refine RAny.done _ (by kernel_rfl) ?_
      repeat (first | refine Run.inBlock ?_)
      refine Run.regionO (D := [some 39, some 40, some 7]) [true, true, true] rfl rfl rfl (fun Z hZ => ?_)
      refine QD.ev T (by decide) rfl rfl ?_
      refine QD.e (Ev.subI rfl rfl (wI (by first | omega | (simp only [List.length_cons, List.length_nil] ; omega) | (simp; omega)) (by first | omega | (simp only [List.length_cons, List.length_nil] ; omega) | (simp; omega)))) (by decide) rfl ?_
      refine QD.ev T (by decide) rfl rfl ?_
      refine QD.nil (hZ _ ?_)
      clear hZ Z
      skip
      refine Run.keep [1, 5, 6, 7] [_, _, _, _] rfl ?_
      rw [List.append_assoc q, ← be8_take s.length j (by omega)] at hT ⊢
      exact ih (8 - (j + 1)) _ _ _ (by omega) ⟨j + 1, A2, c2, Mt, rfl, by omega, hT, by rw [show (56 - 8 * ((j + 1 : Nat) : Int)) = 56 - 8 * (j : Int) - 8 by omega]; rfl, rfl, rfl⟩
  have : j = 8 := by omega
  subst this
  clear ih h1
  rw [show (be8 s.length).take 8 = be8 s.length from List.take_of_length_le (by rw [be8_len]; omega), etl] at hT ⊢
  obtain ⟨p1, p2, p3⟩ := padTail_len (n := s.length) hrl
  clear etl hl2
  generalize padTail r s.length = tl at *
  repeat (first | refine Run.seq ?_ | refine Run.block ?_ | refine Run.exit rfl ?_)
  refine Run.keep [1, 5] [_, _] rfl ?_
  refine Run.rounds (fun m env L J => ∃ (j : Nat) (A2 : Option Addr) (c2 : Nat), m = tl.length - 64 * j ∧ 64 * j ≤ tl.length ∧ Buf 5 (.slice A2 (tl.drop (64 * j)).length c2) (tl.drop (64 * j)) Mt ∧ env = [(1, p), (5, .pointer (some ⟨b5, 0, none⟩))] ∧ L = (b5, shaObj (absorb hk tl j) (.slice A2 (tl.drop (64 * j)).length c2) s.length) :: (N ++ Min ++ Mt) ∧ Le I J) tl.length ⟨0, A2, c2, by omega, by omega, by simpa using hT, rfl, by simp [absorb_zero], Le.refl _⟩ ?_
  clear hT
  rintro m env L J ⟨j, A2, c2, rfl, hj, hT, rfl, rfl, hle0⟩ ih
  have hlk : (tl.drop (64 * j)).length = tl.length - 64 * j := by simp
  repeat (first | refine Run.seq ?_)
  refine Run.regionO (D := [some 50, some 51, some 52, some 53]) [true, true, true, true] rfl rfl rfl (fun Z hZ => ?_)
  refine QD.ev T (by decide) rfl rfl ?_
  first | refine QD.yv (by decide) rfl (Yv.load 0 T rfl rfl rfl rfl) ?_ | refine QD.yv (by decide) rfl (Yv.load 1 T rfl rfl rfl rfl) ?_ | refine QD.yv (by decide) rfl (Yv.load 2 T rfl rfl rfl rfl) ?_
  refine QD.ev T (by decide) rfl rfl ?_
  refine QD.e (Ev.gtr rfl rfl) (by decide) rfl ?_
  refine QD.nil (hZ _ ?_)
  clear hZ Z
  skip
  refine Run.cond rfl rfl (fun h1 => ?_) (fun h1 => ?_)
  all_goals (try rw [h1])
  all_goals (try simp only [decide_eq_true_eq, decide_eq_false_iff_not, Bool.not_eq_true', Bool.not_eq_false', Bool.and_eq_true, Bool.or_eq_true, Bool.and_eq_false_imp, Bool.or_eq_false_iff] at h1)
  · skip
    repeat (first | refine Run.seq ?_ | refine Run.skip ?_ | refine Run.block ?_)
    have hlt : 64 ≤ (tl.drop (64 * j)).length := by omega
    have hm := hT.cap.2
    have hcap : 64 ≤ c2 := by omega
    refine Run.regionP (D := [some 54, some 55, some 56, some 57]) [true, true, true] 3 rfl rfl rfl (by simp only [List.drop_succ_cons, List.drop_zero]; rfl) (fun Z hZ => ?_)
    refine QD.ev T (by decide) rfl rfl ?_
    first | refine QD.yv (by decide) rfl (Yv.load 0 T rfl rfl rfl rfl) ?_ | refine QD.yv (by decide) rfl (Yv.load 1 T rfl rfl rfl rfl) ?_ | refine QD.yv (by decide) rfl (Yv.load 2 T rfl rfl rfl rfl) ?_
    refine QD.e (Ev.sliceHi' T rfl rfl rfl rfl (by first | omega | (simp only [List.length_cons, List.length_nil] ; omega) | (simp; omega)) (by first | omega | (simp only [List.length_cons, List.length_nil] ; omega) | (simp; omega))) (by decide) rfl ?_
    refine QD.nil (hZ _ ?_)
    clear hZ Z
    refine Ops.callM (M := (b5, _) :: Mt) (N := N ++ Min) (Spec.lend (M := [_]) (N := Mt) (R := fun _ M' => M' = [(b5, shaObj (absorb hk tl (j + 1)) (.slice A2 (tl.drop (64 * j)).length c2) s.length)]) fun J hle hJ => (zz_block J (absorb hk tl j) b5 _ _ _ _ (hT.slTake hJ rfl hlt) (by simp; omega)).mono fun _ _ _ _ h => by rw [h, absorb_succ]; rfl) (List.Perm.cons _ List.perm_append_comm) rfl (by decide) Proofs.Tryd.call91 rfl ?_
    rintro _ J1 _ l1 ⟨_, rfl, rfl⟩
    refine Ops.nil ?_
    skip
    have hcut := hT.cut (lo := 64) rfl hlt
    refine Run.perm (L' := (b5, _) :: (N ++ Min ++ Mt)) (List.Perm.cons _ List.perm_append_comm) ?_
    refine Run.regionP (D := [some 58, some 59, some 60, some 61, none]) [true, true, true, true] 4 rfl rfl rfl (by simp only [List.drop_succ_cons, List.drop_zero]; rfl) (fun Z hZ => ?_)
    refine QD.ev T (by decide) rfl rfl ?_
    first | refine QD.yv (by decide) rfl (Yv.load 0 T rfl rfl rfl rfl) ?_ | refine QD.yv (by decide) rfl (Yv.load 1 T rfl rfl rfl rfl) ?_ | refine QD.yv (by decide) rfl (Yv.load 2 T rfl rfl rfl rfl) ?_
    refine QD.e (Ev.sliceLo' T rfl rfl rfl rfl (by first | omega | (simp only [List.length_cons, List.length_nil] ; omega) | (simp; omega)) (by first | omega | (simp only [List.length_cons, List.length_nil] ; omega) | (simp; omega)) (by first | omega | (simp only [List.length_cons, List.length_nil] ; omega) | (simp; omega))) (by decide) rfl ?_
    refine QD.ev T (by decide) rfl rfl ?_
    refine QD.nil (hZ _ ?_)
    clear hZ Z
    refine Ops.store 0 (cs' := (absorb hk tl (j + 1)).cs ++ [.slice (if c2 = 64 then A2 else A2.map (·.add 64)) ((tl.drop (64 * j)).length - 64) (c2 - 64), w64 (UInt64.ofNat s.length)]) rfl rfl rfl rfl rfl (T.sizeOk rfl) rfl (Nat.le_of_ble_eq_true rfl) rfl rfl ?_
    refine Ops.nil ?_
    repeat (first | refine Run.inBlock ?_)
    refine Run.keep [1, 5] [_, _] rfl ?_
    have elen : (tl.drop (64 * j)).length - 64 = (tl.drop (64 * (j + 1))).length := by simp; omega
    rw [List.drop_drop, show 64 * j + 64 = 64 * (j + 1) by omega, elen] at hcut
    exact ih (tl.length - 64 * (j + 1)) _ _ _ (by omega) ⟨j + 1, _, _, rfl, by omega, hcut, rfl, by rw [← elen]; rfl, hle0.trans l1⟩
  have hjt : j = tl.length / 64 := by omega
  clear ih h1
  rw [← hjt] at hR
  generalize absorb hk tl j = u at *
  repeat (first | refine Run.seq ?_ | refine Run.exit rfl ?_)
  refine Run.regionO (D := [some 62, some 63, some 64]) [true, true, true] rfl rfl rfl (fun Z hZ => ?_)
  refine QD.ev T (by decide) rfl rfl ?_
  first | refine QD.yv (by decide) rfl (Yv.loadN 0 T rfl rfl rfl rfl rfl rfl) ?_ | refine QD.yv (by decide) rfl (Yv.loadN 1 T rfl rfl rfl rfl rfl rfl) ?_ | refine QD.yv (by decide) rfl (Yv.loadN 2 T rfl rfl rfl rfl rfl rfl) ?_
  refine QD.ev T (by decide) rfl rfl ?_
  refine QD.nil (hZ _ ?_)
  clear hZ Z
  repeat (first | refine Run.block ?_)
  refine Run.dropL (L' := N ++ Min) ((List.sublist_append_left _ _).trans (List.sublist_cons_self _ _)) ?_
  refine Run.keep [1, 63, 64] [_, _, _] rfl ?_
  have hp0 := hp
  obtain ⟨Ai, ci, rfl⟩ := hp0.isSl
  refine Run.rounds (fun m env L J' => ∃ (j : Nat) (A2 : Option Addr) (c2 : Nat) (Mo : Own), m = 8 - j ∧ j ≤ 8 ∧ Buf 5 (.slice A2 (ib ++ (u.ws.take j).flatMap be4).length c2) (ib ++ (u.ws.take j).flatMap be4) Mo ∧ env = [(1, .slice A2 (ib ++ (u.ws.take j).flatMap be4).length c2), (63, .agg u.cs.toArray), (64, .int .i64 (j : Int))] ∧ L = N ++ Mo ∧ J = J') 8 ⟨0, Ai, ci, Min, rfl, by omega, by simpa using hp, by simp; rfl, rfl, rfl⟩ ?_
  clear hp hp0
  rintro m env L J' ⟨j, A2, c2, Mo, rfl, hj, hT, rfl, rfl, rfl⟩ ih
  repeat (first | refine Run.seq ?_)
  refine Run.regionO (D := [some 65]) [true] rfl rfl rfl (fun Z hZ => ?_)
  refine QD.e (Ev.lss rfl rfl) (by decide) rfl ?_
  refine QD.nil (hZ _ ?_)
  clear hZ Z
  repeat (first | refine Run.seq ?_)
  refine Run.cond rfl rfl (fun h1 => ?_) (fun h1 => ?_)
  all_goals (try rw [h1])
  all_goals (try simp only [decide_eq_true_eq, decide_eq_false_iff_not, Bool.not_eq_true', Bool.not_eq_false', Bool.and_eq_true, Bool.or_eq_true, Bool.and_eq_false_imp, Bool.or_eq_false_iff] at h1)
  · have hj8 : j < u.ws.length := by simp [H8.ws]; omega
    have hget : u.cs[(j : Int).toNat]? = some (w32 (u.ws.getD j 0)) := by
      rw [H8.cs_ws, List.getElem?_map, Int.toNat_natCast, List.getD_eq_getElem?_getD, List.getElem?_eq_getElem hj8]; rfl
    have hlx : ((u.ws.take j).flatMap be4).length ≤ 32 := by
      rw [flatMap_be4_len, List.length_take]; omega
    repeat (first | refine Run.seq ?_ | refine Run.skip ?_ | refine Run.block ?_)
    refine Run.regionO (D := [some 66, some 9]) [true, true] rfl rfl rfl (fun Z hZ => ?_)
    refine QD.e (Ev.indexA T rfl rfl rfl rfl rfl (by omega) (by omega) hget) (by decide) rfl ?_
    refine QD.ev T (by decide) rfl rfl ?_
    refine QD.nil (hZ _ ?_)
    clear hZ Z
    skip
    refine Run.regionP (D := [some 67, some 68, some 69, some 70, some 71, some 72, some 73, some 74, some 75, some 76, some 77, some 78, some 79, some 80, some 1]) [true, true, true, true, true, true, true, true, true, true, true, true] 12 rfl rfl rfl (by simp only [List.drop_succ_cons, List.drop_zero]; rfl) (fun Z hZ => ?_)
    refine QD.ev T (by decide) rfl rfl ?_
    refine QD.ev T (by decide) rfl rfl ?_
    refine QD.e (Ev.shr32 rfl rfl (by first | decide | omega) (by first | decide | omega)) (by decide) rfl ?_
    refine QD.e (Ev.c32_8 T rfl rfl rfl) (by decide) rfl ?_
    refine QD.ev T (by decide) rfl rfl ?_
    refine QD.e (Ev.shr32 rfl rfl (by first | decide | omega) (by first | decide | omega)) (by decide) rfl ?_
    refine QD.e (Ev.c32_8 T rfl rfl rfl) (by decide) rfl ?_
    refine QD.ev T (by decide) rfl rfl ?_
    refine QD.e (Ev.shr32 rfl rfl (by first | decide | omega) (by first | decide | omega)) (by decide) rfl ?_
    refine QD.e (Ev.c32_8 T rfl rfl rfl) (by decide) rfl ?_
    refine QD.ev T (by decide) rfl rfl ?_
    refine QD.e (Ev.c32_8 T rfl rfl rfl) (by decide) rfl ?_
    refine QD.nil (hZ _ ?_)
    clear hZ Z
    refine Ops.lit T rfl rfl rfl (by decide) rfl (by decide) (by decide) rfl rfl rfl rfl rfl (fun bq => ?_)
    refine Ops.appLit (be4 (u.ws.getD j 0)) (N := N) btB hT rfl (by decide) rfl rfl rfl rfl rfl (by rw [List.length_append]; simp only [be4, List.length_cons, List.length_nil]; omega) ?_
    clear hT
    intro vt Mo hT
    have hT0 := hT
    obtain ⟨A2, c2, rfl⟩ := hT0.isSl
    refine Ops.pure T rfl (by decide) rfl ?_
    refine Ops.nil ?_
    repeat (first | refine Run.inBlock ?_)
    refine Run.regionO (D := [some 81, some 64]) [true, true] rfl rfl rfl (fun Z hZ => ?_)
    refine QD.e (Ev.addI rfl rfl (wI (by first | omega | (simp only [List.length_cons, List.length_nil] ; omega) | (simp; omega)) (by first | omega | (simp only [List.length_cons, List.length_nil] ; omega) | (simp; omega)))) (by decide) rfl ?_
    refine QD.ev T (by decide) rfl rfl ?_
    refine QD.nil (hZ _ ?_)
    clear hZ Z
    skip
    refine Run.keep [1, 63, 64] [_, _, _] rfl ?_
    have etk : ib ++ (u.ws.take j).flatMap be4 ++ be4 (u.ws.getD j 0) = ib ++ (u.ws.take (j + 1)).flatMap be4 := by
      rw [List.append_assoc, List.take_add_one, List.flatMap_append, List.getD_eq_getElem?_getD, List.getElem?_eq_getElem hj8]
      simp
    rw [etk] at hT ⊢
    exact ih (8 - (j + 1)) _ _ _ (by omega) ⟨j + 1, A2, c2, Mo, rfl, by omega, hT, rfl, rfl, rfl⟩
  have : j = 8 := by omega
  subst this
  clear ih h1
  repeat (first | refine Run.seq ?_ | refine Run.exit rfl ?_)
  refine Run.regionO (D := [some 82, some 4]) [true, true] rfl rfl rfl (fun Z hZ => ?_)
  refine QD.ev T (by decide) rfl rfl ?_
  refine QD.ev T (by decide) rfl rfl ?_
  refine QD.nil (hZ _ ?_)
  clear hZ Z
  skip
  refine Run.ret1 (by rw [hCf]; exact Proofs.Tryd.func89) Proofs.Tryd.results89 rfl (hR _ _ _ ?_)
  exact ⟨Mo, hT, rfl⟩
end Go.V
