import Derived.Test.YthbokkmoafodcaaDoorBSM3
/-
  SHA-256: one block, by the package's function.
-/
namespace Go.V
open Go.RowKit
set_option linter.unusedVariables false
set_option linter.unusedSimpArgs false
set_option maxRecDepth 10000
attribute [local irreducible] Run Ops QD
structure H8 where
  a : UInt32
  b : UInt32
  c : UInt32
  d : UInt32
  e : UInt32
  f : UInt32
  g : UInt32
  h : UInt32
def H8.cs (v : H8) : List Value := [w32 v.a, w32 v.b, w32 v.c, w32 v.d, w32 v.e, w32 v.f, w32 v.g, w32 v.h]
def word (s : List UInt8) (i : Nat) : UInt32 :=
  sl32 (s.getD (4 * (i : Int)).toNat 0).toUInt32 24 ||| sl32 (s.getD (4 * (i : Int) + 1).toNat 0).toUInt32 16 ||| sl32 (s.getD (4 * (i : Int) + 2).toNat 0).toUInt32 8 ||| (s.getD (4 * (i : Int) + 3).toNat 0).toUInt32
def sg0 (x : UInt32) : UInt32 := rotr x 7 ^^^ rotr x 18 ^^^ sr32 x 3
def sg1 (x : UInt32) : UInt32 := rotr x 17 ^^^ rotr x 19 ^^^ sr32 x 10
def nextW (p : List UInt32) (i : Nat) : UInt32 := p.getD (i - 16) 0 + sg0 (p.getD (i - 15) 0) + p.getD (i - 7) 0 + sg1 (p.getD (i - 2) 0)
def sched (s : List UInt8) : Nat → List UInt32
  | 0 => []
  | i + 1 => sched s i ++ [if i < 16 then word s i else nextW (sched s i) i]
def rnd (v : H8) (k w : UInt32) : H8 :=
  ⟨v.h + (rotr v.e 6 ^^^ rotr v.e 11 ^^^ rotr v.e 25) + ((v.e &&& v.f) ^^^ (~~~v.e &&& v.g)) + k + w + ((rotr v.a 2 ^^^ rotr v.a 13 ^^^ rotr v.a 22) + ((v.a &&& v.b) ^^^ (v.a &&& v.c) ^^^ (v.b &&& v.c))),
    v.a, v.b, v.c, v.d + (v.h + (rotr v.e 6 ^^^ rotr v.e 11 ^^^ rotr v.e 25) + ((v.e &&& v.f) ^^^ (~~~v.e &&& v.g)) + k + w), v.e, v.f, v.g⟩
def rnds (s : List UInt8) (v : H8) : Nat → H8
  | 0 => v
  | i + 1 => rnd (rnds s v i) (kW.getD i 0) ((sched s 64).getD i 0)
theorem sched_succ (s : List UInt8) (i : Nat) : sched s (i + 1) = sched s i ++ [if i < 16 then word s i else nextW (sched s i) i] := rfl
theorem sched_zero (s : List UInt8) : sched s 0 = [] := rfl
theorem rnds_succ (s : List UInt8) (v : H8) (i : Nat) : rnds s v (i + 1) = rnd (rnds s v i) (kW.getD i 0) ((sched s 64).getD i 0) := rfl
theorem rnds_zero (s : List UInt8) (v : H8) : rnds s v 0 = v := rfl
attribute [irreducible] sched rnds
def H8.add (v u : H8) : H8 := ⟨v.a + u.a, v.b + u.b, v.c + u.c, v.d + u.d, v.e + u.e, v.f + u.f, v.g + u.g, v.h + u.h⟩
def compress (v : H8) (s : List UInt8) : H8 := v.add (rnds s v 64)
theorem ws_get {ws : List UInt32} {j : Int} (h0 : 0 ≤ j) (h1 : j < ws.length) : (ws.map w32)[0 + j.toNat * 1]? = some (w32 (ws.getD j.toNat 0)) := by
  rw [Nat.zero_add, Nat.mul_one, List.getElem?_map, List.getD_eq_getElem?_getD, List.getElem?_eq_getElem (by omega)]; rfl
theorem ws_set {ws : List UInt32} {i : Nat} {x : UInt32} (h : i < ws.length) : setAt (ws.map w32) (0 + (i : Int).toNat * 1) [w32 x] = (ws.set i x).map w32 := by
  rw [Nat.zero_add, Nat.mul_one, Int.toNat_natCast]
  unfold setAt
  rw [List.map_set, List.set_eq_take_append_cons_drop, if_pos (by simpa using h)]
  simp
theorem take_set {ws p : List UInt32} {i : Nat} {x : UInt32} (h : i < ws.length) (ht : ws.take i = p) : (ws.set i x).take (i + 1) = p ++ [x] := by
  subst ht
  rw [List.take_add_one, List.take_set, List.getElem?_set_self h, List.set_eq_of_length_le (by simp; omega)]
  rfl
theorem getD_take {ws p : List UInt32} {i j : Nat} (ht : ws.take i = p) (hj : j < i) : ws.getD j 0 = p.getD j 0 := by
  subst ht
  rw [List.getD_eq_getElem?_getD, List.getD_eq_getElem?_getD, List.getElem?_take_of_lt hj]
theorem nextW_eq {ws p : List UInt32} {i : Nat} (ht : ws.take i = p) (hi : 16 ≤ i) :
    ws.getD ((i : Int) - 16).toNat 0 + (rotr (ws.getD ((i : Int) - 15).toNat 0) 7 ^^^ rotr (ws.getD ((i : Int) - 15).toNat 0) 18 ^^^ sr32 (ws.getD ((i : Int) - 15).toNat 0) 3) + ws.getD ((i : Int) - 7).toNat 0 +
      (rotr (ws.getD ((i : Int) - 2).toNat 0) 17 ^^^ rotr (ws.getD ((i : Int) - 2).toNat 0) 19 ^^^ sr32 (ws.getD ((i : Int) - 2).toNat 0) 10) = nextW p i := by
  have e1 : ((i : Int) - 16).toNat = i - 16 := by omega
  have e2 : ((i : Int) - 15).toNat = i - 15 := by omega
  have e3 : ((i : Int) - 7).toNat = i - 7 := by omega
  have e4 : ((i : Int) - 2).toNat = i - 2 := by omega
  rw [e1, e2, e3, e4, getD_take (j := i - 16) ht (by omega), getD_take (j := i - 15) ht (by omega), getD_take (j := i - 7) ht (by omega), getD_take (j := i - 2) ht (by omega)]
  rfl
set_option maxHeartbeats 4000000 in
theorem zz_block (I : Imm) (v : H8) (sb : Nat) (held nv p : Value) (s : List UInt8) (hp : Sl tU8 I p s) (hs : s.length = 64) :
    Spec Proofs.Tryd.prog 91 [.pointer (some ⟨sb, 0, none⟩), p] I [(sb, blk (v.cs ++ [held, nv]) 89)]
      fun _ J M => M = [(sb, blk ((compress v s).cs ++ [held, nv]) 89)] := by
  obtain ⟨A, cp, rfl, hcp, hrow⟩ := hp
  rcases hrow with rfl | ⟨bp, offp, rfl, hrow⟩
  · simp at hs
  have rd : ∀ q : Int, 0 ≤ q → q < 64 → At I bp (offp + q.toNat * 1) [w8 (s.getD q.toNat 0)] := by
    intro q h0 h1
    have hq : q.toNat < s.length := by omega
    obtain ⟨cs, hr, hA⟩ := hrow q.toNat _ (List.getElem?_eq_getElem hq)
    obtain rfl : cs = _ := hr
    rw [List.getD_eq_getElem?_getD, List.getElem?_eq_getElem hq]
    exact hA
  rw [hs] at hcp ⊢
  refine Spec.enter 229 [(0, _), (1, _)] Proofs.Tryd.func91 rfl Proofs.Tryd.ntmps91 (by simp) rfl ?_
  intro C hCf hR hCI
  repeat (first | refine Run.seq ?_ | refine Run.region ?_)
  refine Ops.alloc (cs := (List.replicate 64 (0 : UInt32)).map w32) rfl (by decide) (T.zeroOk rfl) (by kernel_rfl) (fun b4 => ?_)
  repeat (first | refine Run.seq ?_ | refine Run.region ?_ | refine Ops.nil ?_ | refine Run.block ?_ | refine Ops.pure T rfl (by decide) rfl ?_)
  refine Run.keep [0, 1, 4, 22] [_, _, _, _] rfl ?_
  refine Run.rounds (fun m env L J => ∃ (i : Nat) (ws : List UInt32), m = 16 - i ∧ i ≤ 16 ∧ ws.length = 64 ∧ ws.take i = sched s i ∧ env = [(0, .pointer (some ⟨sb, 0, none⟩)), (1, .slice (some ⟨bp, offp, none⟩) 64 cp), (4, .pointer (some ⟨b4, 0, none⟩)), (22, .int .i64 i)] ∧ L = [(b4, blk (ws.map w32) 52), (sb, blk (v.cs ++ [held, nv]) 89)] ∧ I = J) 16 ⟨0, List.replicate 64 0, by omega, by omega, by simp, by rw [sched_zero]; rfl, rfl, rfl, rfl⟩ ?_
  rintro m env L J ⟨i, ws, rfl, hi, hw, ht, rfl, rfl, rfl⟩ ih
  repeat (first | refine Run.seq ?_ | refine Run.region ?_ | refine Ops.nil ?_ | refine Ops.lss rfl (by decide) rfl rfl ?_)
  refine Run.cond rfl rfl (fun h1 => ?_) (fun h1 => ?_)
  all_goals (try rw [h1])
  all_goals (try simp only [decide_eq_true_eq, decide_eq_false_iff_not, Bool.not_eq_true', Bool.not_eq_false', Bool.and_eq_true, Bool.or_eq_true, Bool.and_eq_false_imp, Bool.or_eq_false_iff] at h1)
  · skip
    repeat (first | refine Run.seq ?_ | refine Run.region ?_ | refine Ops.nil ?_ | refine Run.skip ?_ | refine Run.block ?_ | refine Ops.pure T rfl (by decide) rfl ?_)
    refine Run.regionT (D := [some 25, some 26, some 27, some 28, some 29, some 30, some 31, some 32, some 33, some 34, some 35, some 36, some 37, some 38, some 39, some 40, some 41, some 42, some 43, some 44, some 45, some 46, some 47, some 48, some 49, some 50, some 51, some 52, some 53, some 54, some 55, some 56, some 57, some 58, some 59, none]) (fun _ => True) [true, true, true, true, true, true, true, true, true, true, true, true, true, true, true, true, true, true, true, true, true, true, true, true, true, true, true, true, true, true, true, true, true, true, true] (bl 36 34359738367) 1 (by kernel_rfl) (by kernel_rfl) (by kernel_rfl) rfl (fun Z hZ => ?_)
    refine QD.ev T (by decide) rfl rfl ?_
    refine QD.ev T (by decide) rfl rfl ?_
    refine QD.ev T (by decide) rfl rfl ?_
    refine QD.e (Ev.mulI rfl rfl (wI (by first | omega | (simp only [List.length_cons, List.length_nil] ; omega) | (simp; omega)) (by first | omega | (simp only [List.length_cons, List.length_nil] ; omega) | (simp; omega)))) (by decide) rfl ?_
    refine QD.e (Ev.indexS T rfl rfl rfl rfl (by first | omega | (simp only [List.length_cons, List.length_nil] ; omega) | (simp; omega)) (by first | omega | (simp only [List.length_cons, List.length_nil] ; omega) | (simp; omega))) (by decide) rfl ?_
    first | refine QD.yv (by decide) rfl (Yv.load 0 T rfl rfl rfl rfl) ?_ | refine QD.yv (by decide) rfl (Yv.load 1 T rfl rfl rfl rfl) ?_ | refine QD.yv (by decide) rfl (Yv.load 2 T rfl rfl rfl rfl) ?_ | refine QD.yv (by decide) rfl (Yv.loadI T (rd _ (by omega) (by omega)) rfl rfl) ?_
    refine QD.e (Ev.c8_32 T rfl rfl rfl) (by decide) rfl ?_
    refine QD.e (Ev.shl32 rfl rfl (by first | decide | omega) (by first | decide | omega)) (by decide) rfl ?_
    refine QD.ev T (by decide) rfl rfl ?_
    refine QD.ev T (by decide) rfl rfl ?_
    refine QD.e (Ev.mulI rfl rfl (wI (by first | omega | (simp only [List.length_cons, List.length_nil] ; omega) | (simp; omega)) (by first | omega | (simp only [List.length_cons, List.length_nil] ; omega) | (simp; omega)))) (by decide) rfl ?_
    refine QD.e (Ev.addI rfl rfl (wI (by first | omega | (simp only [List.length_cons, List.length_nil] ; omega) | (simp; omega)) (by first | omega | (simp only [List.length_cons, List.length_nil] ; omega) | (simp; omega)))) (by decide) rfl ?_
    refine QD.e (Ev.indexS T rfl rfl rfl rfl (by first | omega | (simp only [List.length_cons, List.length_nil] ; omega) | (simp; omega)) (by first | omega | (simp only [List.length_cons, List.length_nil] ; omega) | (simp; omega))) (by decide) rfl ?_
    first | refine QD.yv (by decide) rfl (Yv.load 0 T rfl rfl rfl rfl) ?_ | refine QD.yv (by decide) rfl (Yv.load 1 T rfl rfl rfl rfl) ?_ | refine QD.yv (by decide) rfl (Yv.load 2 T rfl rfl rfl rfl) ?_ | refine QD.yv (by decide) rfl (Yv.loadI T (rd _ (by omega) (by omega)) rfl rfl) ?_
    refine QD.e (Ev.c8_32 T rfl rfl rfl) (by decide) rfl ?_
    refine QD.e (Ev.shl32 rfl rfl (by first | decide | omega) (by first | decide | omega)) (by decide) rfl ?_
    refine QD.e (Ev.or32 rfl rfl) (by decide) rfl ?_
    refine QD.ev T (by decide) rfl rfl ?_
    refine QD.ev T (by decide) rfl rfl ?_
    refine QD.e (Ev.mulI rfl rfl (wI (by first | omega | (simp only [List.length_cons, List.length_nil] ; omega) | (simp; omega)) (by first | omega | (simp only [List.length_cons, List.length_nil] ; omega) | (simp; omega)))) (by decide) rfl ?_
    refine QD.e (Ev.addI rfl rfl (wI (by first | omega | (simp only [List.length_cons, List.length_nil] ; omega) | (simp; omega)) (by first | omega | (simp only [List.length_cons, List.length_nil] ; omega) | (simp; omega)))) (by decide) rfl ?_
    refine QD.e (Ev.indexS T rfl rfl rfl rfl (by first | omega | (simp only [List.length_cons, List.length_nil] ; omega) | (simp; omega)) (by first | omega | (simp only [List.length_cons, List.length_nil] ; omega) | (simp; omega))) (by decide) rfl ?_
    first | refine QD.yv (by decide) rfl (Yv.load 0 T rfl rfl rfl rfl) ?_ | refine QD.yv (by decide) rfl (Yv.load 1 T rfl rfl rfl rfl) ?_ | refine QD.yv (by decide) rfl (Yv.load 2 T rfl rfl rfl rfl) ?_ | refine QD.yv (by decide) rfl (Yv.loadI T (rd _ (by omega) (by omega)) rfl rfl) ?_
    refine QD.e (Ev.c8_32 T rfl rfl rfl) (by decide) rfl ?_
    refine QD.e (Ev.shl32 rfl rfl (by first | decide | omega) (by first | decide | omega)) (by decide) rfl ?_
    refine QD.e (Ev.or32 rfl rfl) (by decide) rfl ?_
    refine QD.ev T (by decide) rfl rfl ?_
    refine QD.ev T (by decide) rfl rfl ?_
    refine QD.e (Ev.mulI rfl rfl (wI (by first | omega | (simp only [List.length_cons, List.length_nil] ; omega) | (simp; omega)) (by first | omega | (simp only [List.length_cons, List.length_nil] ; omega) | (simp; omega)))) (by decide) rfl ?_
    refine QD.e (Ev.addI rfl rfl (wI (by first | omega | (simp only [List.length_cons, List.length_nil] ; omega) | (simp; omega)) (by first | omega | (simp only [List.length_cons, List.length_nil] ; omega) | (simp; omega)))) (by decide) rfl ?_
    refine QD.e (Ev.indexS T rfl rfl rfl rfl (by first | omega | (simp only [List.length_cons, List.length_nil] ; omega) | (simp; omega)) (by first | omega | (simp only [List.length_cons, List.length_nil] ; omega) | (simp; omega))) (by decide) rfl ?_
    first | refine QD.yv (by decide) rfl (Yv.load 0 T rfl rfl rfl rfl) ?_ | refine QD.yv (by decide) rfl (Yv.load 1 T rfl rfl rfl rfl) ?_ | refine QD.yv (by decide) rfl (Yv.load 2 T rfl rfl rfl rfl) ?_ | refine QD.yv (by decide) rfl (Yv.loadI T (rd _ (by omega) (by omega)) rfl rfl) ?_
    refine QD.e (Ev.c8_32 T rfl rfl rfl) (by decide) rfl ?_
    refine QD.e (Ev.or32 rfl rfl) (by decide) rfl ?_
    refine QD.e (Ev.indexP T rfl rfl rfl rfl (by first | omega | (simp only [List.length_cons, List.length_nil] ; omega) | (simp; omega)) (by first | omega | (simp only [List.length_cons, List.length_nil] ; omega) | (simp; omega))) (by decide) rfl ?_
    refine QD.nil (hZ _ ?_)
    clear hZ Z
    refine RAny.os 35 (bl 36 68719476735) rfl (by kernel_rfl) rfl (Eff.store 0 rfl rfl rfl rfl (T.sizeOk rfl) rfl (show 0 + (i : Int).toNat * 1 + 1 ≤ _ by simp; omega) rfl (ws_set (by omega)) ⟨fun _ _ => trivial, ?_⟩)
    refine RAny.done _ (by kernel_rfl) ?_
    repeat (first | refine Run.region ?_ | refine Ops.nil ?_ | refine Run.inBlock ?_ | refine Ops.add rfl (by decide) rfl rfl (wI (by first | omega | (simp only [List.length_cons, List.length_nil] ; omega) | (simp; omega)) (by first | omega | (simp only [List.length_cons, List.length_nil] ; omega) | (simp; omega))) ?_ | refine Ops.pure T rfl (by decide) rfl ?_)
    refine Run.keep [0, 1, 4, 22] [_, _, _, _] rfl ?_
    refine ih (16 - (i + 1)) _ _ _ (by omega) ⟨i + 1, ws.set i (word s i), rfl, by omega, by simpa using hw, ?_, rfl, rfl, rfl⟩
    rw [take_set (by omega) ht]
    rw [sched_succ]
    rw [if_pos (by omega)]
  have : i = 16 := by omega
  subst this
  clear ih h1
  repeat (first | refine Run.seq ?_ | refine Run.exit rfl ?_)
  refine Run.regionO (D := [some 6]) [true] rfl rfl rfl (fun Z hZ => ?_)
  refine QD.ev T (by decide) rfl rfl ?_
  refine QD.nil (hZ _ ?_)
  clear hZ Z
  repeat (first | refine Run.block ?_)
  refine Run.keep [0, 4, 6] [_, _, _] rfl ?_
  refine Run.rounds (fun m env L J => ∃ (i : Nat) (ws : List UInt32), m = 64 - i ∧ 16 ≤ i ∧ i ≤ 64 ∧ ws.length = 64 ∧ ws.take i = sched s i ∧ env = [(0, .pointer (some ⟨sb, 0, none⟩)), (4, .pointer (some ⟨b4, 0, none⟩)), (6, .int .i64 i)] ∧ L = [(b4, blk (ws.map w32) 52), (sb, blk (v.cs ++ [held, nv]) 89)] ∧ I = J) 48 ⟨16, ws, by omega, by omega, by omega, hw, ht, rfl, rfl, rfl⟩ ?_
  clear hw ht
  rintro m env L J ⟨i, ws, rfl, hi0, hi, hw, ht, rfl, rfl, rfl⟩ ih
  repeat (first | refine Run.seq ?_)
  refine Run.regionO (D := [some 61, some 62]) [true, true] rfl rfl rfl (fun Z hZ => ?_)
  refine QD.ev T (by decide) rfl rfl ?_
  refine QD.e (Ev.lss rfl rfl) (by decide) rfl ?_
  refine QD.nil (hZ _ ?_)
  clear hZ Z
  skip
  refine Run.cond rfl rfl (fun h1 => ?_) (fun h1 => ?_)
  all_goals (try rw [h1])
  all_goals (try simp only [decide_eq_true_eq, decide_eq_false_iff_not, Bool.not_eq_true', Bool.not_eq_false', Bool.and_eq_true, Bool.or_eq_true, Bool.and_eq_false_imp, Bool.or_eq_false_iff] at h1)
  · skip
    repeat (first | refine Run.seq ?_ | refine Run.skip ?_ | refine Run.block ?_)
    refine Run.regionQ (D := [some 65, some 66, some 67, some 68, some 69, some 70, some 71, some 72, some 7, some 8]) [true, true, true, true, true, true, true, true, true, true] (bl 10 1023) (by kernel_rfl) (by kernel_rfl) (by kernel_rfl) (by kernel_rfl) rfl (fun Z hZ => ?_)
    refine QD.ev T (by decide) rfl rfl ?_
    refine QD.e (Ev.subI rfl rfl (wI (by first | omega | (simp only [List.length_cons, List.length_nil] ; omega) | (simp; omega)) (by first | omega | (simp only [List.length_cons, List.length_nil] ; omega) | (simp; omega)))) (by decide) rfl ?_
    refine QD.e (Ev.indexP T rfl rfl rfl rfl (by first | omega | (simp only [List.length_cons, List.length_nil] ; omega) | (simp; omega)) (by first | omega | (simp only [List.length_cons, List.length_nil] ; omega) | (simp; omega))) (by decide) rfl ?_
    first | refine QD.yv (by decide) rfl (Yv.load 0 T rfl rfl rfl rfl) ?_ | refine QD.yv (by decide) rfl (Yv.load 1 T rfl rfl rfl rfl) ?_ | refine QD.yv (by decide) rfl (Yv.load 2 T rfl rfl rfl rfl) ?_ | refine QD.yv (by decide) rfl (Yv.load 0 T rfl rfl rfl (ws_get (by omega) (by omega))) ?_
    refine QD.ev T (by decide) rfl rfl ?_
    refine QD.e (Ev.subI rfl rfl (wI (by first | omega | (simp only [List.length_cons, List.length_nil] ; omega) | (simp; omega)) (by first | omega | (simp only [List.length_cons, List.length_nil] ; omega) | (simp; omega)))) (by decide) rfl ?_
    refine QD.e (Ev.indexP T rfl rfl rfl rfl (by first | omega | (simp only [List.length_cons, List.length_nil] ; omega) | (simp; omega)) (by first | omega | (simp only [List.length_cons, List.length_nil] ; omega) | (simp; omega))) (by decide) rfl ?_
    first | refine QD.yv (by decide) rfl (Yv.load 0 T rfl rfl rfl rfl) ?_ | refine QD.yv (by decide) rfl (Yv.load 1 T rfl rfl rfl rfl) ?_ | refine QD.yv (by decide) rfl (Yv.load 2 T rfl rfl rfl rfl) ?_ | refine QD.yv (by decide) rfl (Yv.load 0 T rfl rfl rfl (ws_get (by omega) (by omega))) ?_
    refine QD.ev T (by decide) rfl rfl ?_
    refine QD.ev T (by decide) rfl rfl ?_
    refine QD.nil (hZ _ ?_)
    clear hZ Z
    skip
    refine Run.regionT (D := [some 73, some 74, some 75, some 76, some 77, some 78, some 79, some 80, some 81, some 82, some 83, some 84, some 85, some 86, some 87, some 88, some 89, some 90, some 91, some 92, some 93, some 94, some 95, some 96, some 97, some 98, some 99, some 100, some 101, none]) (fun _ => True) [true, true, true, true, true, true, true, true, true, true, true, true, true, true, true, true, true, true, true, true, true, true, true, true, true, true, true, true, true] (bl 30 536870911) 1 (by kernel_rfl) (by kernel_rfl) (by kernel_rfl) rfl (fun Z hZ => ?_)
    refine QD.ev T (by decide) rfl rfl ?_
    refine QD.ev T (by decide) rfl rfl ?_
    refine QD.e (Ev.subI rfl rfl (wI (by first | omega | (simp only [List.length_cons, List.length_nil] ; omega) | (simp; omega)) (by first | omega | (simp only [List.length_cons, List.length_nil] ; omega) | (simp; omega)))) (by decide) rfl ?_
    refine QD.e (Ev.indexP T rfl rfl rfl rfl (by first | omega | (simp only [List.length_cons, List.length_nil] ; omega) | (simp; omega)) (by first | omega | (simp only [List.length_cons, List.length_nil] ; omega) | (simp; omega))) (by decide) rfl ?_
    first | refine QD.yv (by decide) rfl (Yv.load 0 T rfl rfl rfl rfl) ?_ | refine QD.yv (by decide) rfl (Yv.load 1 T rfl rfl rfl rfl) ?_ | refine QD.yv (by decide) rfl (Yv.load 2 T rfl rfl rfl rfl) ?_ | refine QD.yv (by decide) rfl (Yv.load 0 T rfl rfl rfl (ws_get (by omega) (by omega))) ?_
    refine QD.ev T (by decide) rfl rfl ?_
    refine QD.call (zz_right _ _ _ (by decide) (by decide)) (by decide) rfl Proofs.Tryd.call92 rfl ?_
    refine QD.ev T (by decide) rfl rfl ?_
    refine QD.call (zz_right _ _ _ (by decide) (by decide)) (by decide) rfl Proofs.Tryd.call92 rfl ?_
    refine QD.e (Ev.xor32 rfl rfl) (by decide) rfl ?_
    refine QD.ev T (by decide) rfl rfl ?_
    refine QD.e (Ev.shr32 rfl rfl (by first | decide | omega) (by first | decide | omega)) (by decide) rfl ?_
    refine QD.e (Ev.xor32 rfl rfl) (by decide) rfl ?_
    refine QD.e (Ev.add32 rfl rfl) (by decide) rfl ?_
    refine QD.ev T (by decide) rfl rfl ?_
    refine QD.e (Ev.subI rfl rfl (wI (by first | omega | (simp only [List.length_cons, List.length_nil] ; omega) | (simp; omega)) (by first | omega | (simp only [List.length_cons, List.length_nil] ; omega) | (simp; omega)))) (by decide) rfl ?_
    refine QD.e (Ev.indexP T rfl rfl rfl rfl (by first | omega | (simp only [List.length_cons, List.length_nil] ; omega) | (simp; omega)) (by first | omega | (simp only [List.length_cons, List.length_nil] ; omega) | (simp; omega))) (by decide) rfl ?_
    first | refine QD.yv (by decide) rfl (Yv.load 0 T rfl rfl rfl rfl) ?_ | refine QD.yv (by decide) rfl (Yv.load 1 T rfl rfl rfl rfl) ?_ | refine QD.yv (by decide) rfl (Yv.load 2 T rfl rfl rfl rfl) ?_ | refine QD.yv (by decide) rfl (Yv.load 0 T rfl rfl rfl (ws_get (by omega) (by omega))) ?_
    refine QD.e (Ev.add32 rfl rfl) (by decide) rfl ?_
    refine QD.ev T (by decide) rfl rfl ?_
    refine QD.call (zz_right _ _ _ (by decide) (by decide)) (by decide) rfl Proofs.Tryd.call92 rfl ?_
    refine QD.ev T (by decide) rfl rfl ?_
    refine QD.call (zz_right _ _ _ (by decide) (by decide)) (by decide) rfl Proofs.Tryd.call92 rfl ?_
    refine QD.e (Ev.xor32 rfl rfl) (by decide) rfl ?_
    refine QD.ev T (by decide) rfl rfl ?_
    refine QD.e (Ev.shr32 rfl rfl (by first | decide | omega) (by first | decide | omega)) (by decide) rfl ?_
    refine QD.e (Ev.xor32 rfl rfl) (by decide) rfl ?_
    refine QD.e (Ev.add32 rfl rfl) (by decide) rfl ?_
    refine QD.e (Ev.indexP T rfl rfl rfl rfl (by first | omega | (simp only [List.length_cons, List.length_nil] ; omega) | (simp; omega)) (by first | omega | (simp only [List.length_cons, List.length_nil] ; omega) | (simp; omega))) (by decide) rfl ?_
    refine QD.nil (hZ _ ?_)
    clear hZ Z
    refine RAny.os 29 (bl 30 1073741823) rfl (by kernel_rfl) rfl (Eff.store 0 rfl rfl rfl rfl (T.sizeOk rfl) rfl (show 0 + (i : Int).toNat * 1 + 1 ≤ _ by simp; omega) rfl (ws_set (by omega)) ⟨fun _ _ => trivial, ?_⟩)
    refine RAny.done _ (by kernel_rfl) ?_
    repeat (first | refine Run.inBlock ?_)
    refine Run.regionO (D := [some 63, some 64, some 6]) [true, true, true] rfl rfl rfl (fun Z hZ => ?_)
    refine QD.ev T (by decide) rfl rfl ?_
    refine QD.e (Ev.addI rfl rfl (wI (by first | omega | (simp only [List.length_cons, List.length_nil] ; omega) | (simp; omega)) (by first | omega | (simp only [List.length_cons, List.length_nil] ; omega) | (simp; omega)))) (by decide) rfl ?_
    refine QD.ev T (by decide) rfl rfl ?_
    refine QD.nil (hZ _ ?_)
    clear hZ Z
    skip
    refine Run.keep [0, 4, 6] [_, _, _] rfl ?_
    refine ih (64 - (i + 1)) _ _ _ (by omega) ⟨i + 1, ws.set i _, rfl, by omega, by omega, by simpa using hw, ?_, rfl, rfl, rfl⟩
    rw [take_set (by omega) ht]
    rw [sched_succ]
    rw [if_neg (by omega)]
    exact congrArg (fun x => sched s i ++ [x]) (nextW_eq ht hi0)
  have : i = 64 := by omega
  subst this
  obtain rfl : ws = sched s 64 := by rw [← ht, List.take_of_length_le (by omega)]
  clear ih h1 ht rd hrow
  repeat (first | refine Run.seq ?_ | refine Run.exit rfl ?_)
  refine Run.regionQ (D := [some 102, some 103, some 104, some 105, some 106, some 107, some 108, some 109, some 110, some 111, some 112, some 113, some 114, some 115, some 116, some 117, some 118, some 119, some 120, some 121, some 122, some 123, some 124, some 125, some 126, some 127, some 128, some 129, some 130, some 131, some 132, some 133, some 134, some 135, some 136, some 137, some 138, some 139, some 140, some 141, some 9, some 10, some 11, some 12, some 13, some 14, some 15, some 16]) [true, true, true, true, true, true, true, true, true, true, true, true, true, true, true, true, true, true, true, true, true, true, true, true, true, true, true, true, true, true, true, true, true, true, true, true, true, true, true, true, true, true, true, true, true, true, true, true] (bl 48 281474976710655) (by kernel_rfl) (by kernel_rfl) (by kernel_rfl) (by kernel_rfl) rfl (fun Z hZ => ?_)
  refine QD.ev T (by decide) rfl rfl ?_
  refine QD.ev T (by decide) rfl rfl ?_
  refine QD.ev T (by decide) rfl rfl ?_
  refine QD.e (Ev.indexP T rfl rfl rfl rfl (by first | omega | (simp only [List.length_cons, List.length_nil] ; omega) | (simp; omega)) (by first | omega | (simp only [List.length_cons, List.length_nil] ; omega) | (simp; omega))) (by decide) rfl ?_
  first | refine QD.yv (by decide) rfl (Yv.load 0 T rfl rfl rfl rfl) ?_ | refine QD.yv (by decide) rfl (Yv.load 1 T rfl rfl rfl rfl) ?_ | refine QD.yv (by decide) rfl (Yv.load 2 T rfl rfl rfl rfl) ?_
  refine QD.ev T (by decide) rfl rfl ?_
  refine QD.ev T (by decide) rfl rfl ?_
  refine QD.ev T (by decide) rfl rfl ?_
  refine QD.e (Ev.indexP T rfl rfl rfl rfl (by first | omega | (simp only [List.length_cons, List.length_nil] ; omega) | (simp; omega)) (by first | omega | (simp only [List.length_cons, List.length_nil] ; omega) | (simp; omega))) (by decide) rfl ?_
  first | refine QD.yv (by decide) rfl (Yv.load 0 T rfl rfl rfl rfl) ?_ | refine QD.yv (by decide) rfl (Yv.load 1 T rfl rfl rfl rfl) ?_ | refine QD.yv (by decide) rfl (Yv.load 2 T rfl rfl rfl rfl) ?_
  refine QD.ev T (by decide) rfl rfl ?_
  refine QD.ev T (by decide) rfl rfl ?_
  refine QD.ev T (by decide) rfl rfl ?_
  refine QD.e (Ev.indexP T rfl rfl rfl rfl (by first | omega | (simp only [List.length_cons, List.length_nil] ; omega) | (simp; omega)) (by first | omega | (simp only [List.length_cons, List.length_nil] ; omega) | (simp; omega))) (by decide) rfl ?_
  first | refine QD.yv (by decide) rfl (Yv.load 0 T rfl rfl rfl rfl) ?_ | refine QD.yv (by decide) rfl (Yv.load 1 T rfl rfl rfl rfl) ?_ | refine QD.yv (by decide) rfl (Yv.load 2 T rfl rfl rfl rfl) ?_
  refine QD.ev T (by decide) rfl rfl ?_
  refine QD.ev T (by decide) rfl rfl ?_
  refine QD.ev T (by decide) rfl rfl ?_
  refine QD.e (Ev.indexP T rfl rfl rfl rfl (by first | omega | (simp only [List.length_cons, List.length_nil] ; omega) | (simp; omega)) (by first | omega | (simp only [List.length_cons, List.length_nil] ; omega) | (simp; omega))) (by decide) rfl ?_
  first | refine QD.yv (by decide) rfl (Yv.load 0 T rfl rfl rfl rfl) ?_ | refine QD.yv (by decide) rfl (Yv.load 1 T rfl rfl rfl rfl) ?_ | refine QD.yv (by decide) rfl (Yv.load 2 T rfl rfl rfl rfl) ?_
  refine QD.ev T (by decide) rfl rfl ?_
  refine QD.ev T (by decide) rfl rfl ?_
  refine QD.ev T (by decide) rfl rfl ?_
  refine QD.e (Ev.indexP T rfl rfl rfl rfl (by first | omega | (simp only [List.length_cons, List.length_nil] ; omega) | (simp; omega)) (by first | omega | (simp only [List.length_cons, List.length_nil] ; omega) | (simp; omega))) (by decide) rfl ?_
  first | refine QD.yv (by decide) rfl (Yv.load 0 T rfl rfl rfl rfl) ?_ | refine QD.yv (by decide) rfl (Yv.load 1 T rfl rfl rfl rfl) ?_ | refine QD.yv (by decide) rfl (Yv.load 2 T rfl rfl rfl rfl) ?_
  refine QD.ev T (by decide) rfl rfl ?_
  refine QD.ev T (by decide) rfl rfl ?_
  refine QD.ev T (by decide) rfl rfl ?_
  refine QD.e (Ev.indexP T rfl rfl rfl rfl (by first | omega | (simp only [List.length_cons, List.length_nil] ; omega) | (simp; omega)) (by first | omega | (simp only [List.length_cons, List.length_nil] ; omega) | (simp; omega))) (by decide) rfl ?_
  first | refine QD.yv (by decide) rfl (Yv.load 0 T rfl rfl rfl rfl) ?_ | refine QD.yv (by decide) rfl (Yv.load 1 T rfl rfl rfl rfl) ?_ | refine QD.yv (by decide) rfl (Yv.load 2 T rfl rfl rfl rfl) ?_
  refine QD.ev T (by decide) rfl rfl ?_
  refine QD.ev T (by decide) rfl rfl ?_
  refine QD.ev T (by decide) rfl rfl ?_
  refine QD.e (Ev.indexP T rfl rfl rfl rfl (by first | omega | (simp only [List.length_cons, List.length_nil] ; omega) | (simp; omega)) (by first | omega | (simp only [List.length_cons, List.length_nil] ; omega) | (simp; omega))) (by decide) rfl ?_
  first | refine QD.yv (by decide) rfl (Yv.load 0 T rfl rfl rfl rfl) ?_ | refine QD.yv (by decide) rfl (Yv.load 1 T rfl rfl rfl rfl) ?_ | refine QD.yv (by decide) rfl (Yv.load 2 T rfl rfl rfl rfl) ?_
  refine QD.ev T (by decide) rfl rfl ?_
  refine QD.ev T (by decide) rfl rfl ?_
  refine QD.ev T (by decide) rfl rfl ?_
  refine QD.e (Ev.indexP T rfl rfl rfl rfl (by first | omega | (simp only [List.length_cons, List.length_nil] ; omega) | (simp; omega)) (by first | omega | (simp only [List.length_cons, List.length_nil] ; omega) | (simp; omega))) (by decide) rfl ?_
  first | refine QD.yv (by decide) rfl (Yv.load 0 T rfl rfl rfl rfl) ?_ | refine QD.yv (by decide) rfl (Yv.load 1 T rfl rfl rfl rfl) ?_ | refine QD.yv (by decide) rfl (Yv.load 2 T rfl rfl rfl rfl) ?_
  refine QD.ev T (by decide) rfl rfl ?_
  refine QD.ev T (by decide) rfl rfl ?_
  refine QD.ev T (by decide) rfl rfl ?_
  refine QD.ev T (by decide) rfl rfl ?_
  refine QD.ev T (by decide) rfl rfl ?_
  refine QD.ev T (by decide) rfl rfl ?_
  refine QD.ev T (by decide) rfl rfl ?_
  refine QD.ev T (by decide) rfl rfl ?_
  refine QD.nil (hZ _ ?_)
  clear hZ Z
  repeat (first | refine Run.seq ?_)
  refine Run.regionO (D := [some 142]) [true] rfl rfl rfl (fun Z hZ => ?_)
  refine QD.ev T (by decide) rfl rfl ?_
  refine QD.nil (hZ _ ?_)
  clear hZ Z
  repeat (first | refine Run.block ?_)
  refine Run.keep [0, 4, 9, 10, 11, 12, 13, 14, 15, 16, 142] [_, _, _, _, _, _, _, _, _, _, _] rfl ?_
  refine Run.rounds (fun m env L J => ∃ (i : Nat), m = 64 - i ∧ i ≤ 64 ∧ env = [(0, .pointer (some ⟨sb, 0, none⟩)), (4, .pointer (some ⟨b4, 0, none⟩)), (9, w32 (rnds s v i).a), (10, w32 (rnds s v i).b), (11, w32 (rnds s v i).c), (12, w32 (rnds s v i).d), (13, w32 (rnds s v i).e), (14, w32 (rnds s v i).f), (15, w32 (rnds s v i).g), (16, w32 (rnds s v i).h), (142, .int .i64 i)] ∧ L = [(b4, blk ((sched s 64).map w32) 52), (sb, blk (v.cs ++ [held, nv]) 89)] ∧ I = J) 64 ⟨0, by omega, by omega, by rw [rnds_zero]; rfl, rfl, rfl⟩ ?_
  rintro m env L J ⟨i, rfl, hi, rfl, rfl, rfl⟩ ih
  repeat (first | refine Run.seq ?_)
  refine Run.regionO (D := [some 143]) [true] rfl rfl rfl (fun Z hZ => ?_)
  refine QD.e (Ev.lss rfl rfl) (by decide) rfl ?_
  refine QD.nil (hZ _ ?_)
  clear hZ Z
  repeat (first | refine Run.seq ?_)
  refine Run.cond rfl rfl (fun h1 => ?_) (fun h1 => ?_)
  all_goals (try rw [h1])
  all_goals (try simp only [decide_eq_true_eq, decide_eq_false_iff_not, Bool.not_eq_true', Bool.not_eq_false', Bool.and_eq_true, Bool.or_eq_true, Bool.and_eq_false_imp, Bool.or_eq_false_iff] at h1)
  · skip
    repeat (first | refine Run.seq ?_ | refine Run.skip ?_ | refine Run.block ?_)
    refine Run.regionO (D := [some 144, some 17]) [true, true] rfl rfl rfl (fun Z hZ => ?_)
    refine QD.ev T (by decide) rfl rfl ?_
    refine QD.ev T (by decide) rfl rfl ?_
    refine QD.nil (hZ _ ?_)
    clear hZ Z
    repeat (first | refine Run.seq ?_)
    refine Run.regionQ (D := [some 145, some 146, some 147, some 148, some 149, some 150, some 151, some 152, some 153, some 154, some 155, some 156, some 157, some 158, some 159, some 160, some 161, some 162, some 163, some 164, some 165, some 166, some 167, some 168, some 169, some 170, some 18]) [true, true, true, true, true, true, true, true, true, true, true, true, true, true, true, true, true, true, true, true, true, true, true, true, true, true, true] (bl 27 134217727) (by kernel_rfl) (by kernel_rfl) (by kernel_rfl) (by kernel_rfl) rfl (fun Z hZ => ?_)
    refine QD.ev T (by decide) rfl rfl ?_
    refine QD.ev T (by decide) rfl rfl ?_
    refine QD.call (zz_right _ _ _ (by decide) (by decide)) (by decide) rfl Proofs.Tryd.call92 rfl ?_
    refine QD.ev T (by decide) rfl rfl ?_
    refine QD.call (zz_right _ _ _ (by decide) (by decide)) (by decide) rfl Proofs.Tryd.call92 rfl ?_
    refine QD.e (Ev.xor32 rfl rfl) (by decide) rfl ?_
    refine QD.ev T (by decide) rfl rfl ?_
    refine QD.call (zz_right _ _ _ (by decide) (by decide)) (by decide) rfl Proofs.Tryd.call92 rfl ?_
    refine QD.e (Ev.xor32 rfl rfl) (by decide) rfl ?_
    refine QD.e (Ev.add32 rfl rfl) (by decide) rfl ?_
    refine QD.ev T (by decide) rfl rfl ?_
    refine QD.ev T (by decide) rfl rfl ?_
    refine QD.e (Ev.and32 rfl rfl) (by decide) rfl ?_
    refine QD.ev T (by decide) rfl rfl ?_
    refine QD.e (Ev.not32 rfl) (by decide) rfl ?_
    refine QD.ev T (by decide) rfl rfl ?_
    refine QD.e (Ev.and32 rfl rfl) (by decide) rfl ?_
    refine QD.e (Ev.xor32 rfl rfl) (by decide) rfl ?_
    refine QD.e (Ev.add32 rfl rfl) (by decide) rfl ?_
    refine QD.ev T (by decide) rfl rfl ?_
    refine QD.call (zz_k256 _ i (by omega)) (by decide) rfl Proofs.Tryd.call93 rfl ?_
    refine QD.e (Ev.add32 rfl rfl) (by decide) rfl ?_
    refine QD.ev T (by decide) rfl rfl ?_
    refine QD.e (Ev.indexP T rfl rfl rfl rfl (by first | omega | (simp only [List.length_cons, List.length_nil] ; omega) | (simp; omega)) (by first | omega | (simp only [List.length_cons, List.length_nil] ; omega) | (simp; omega))) (by decide) rfl ?_
    first | refine QD.yv (by decide) rfl (Yv.load 0 T rfl rfl rfl rfl) ?_ | refine QD.yv (by decide) rfl (Yv.load 1 T rfl rfl rfl rfl) ?_ | refine QD.yv (by decide) rfl (Yv.load 2 T rfl rfl rfl rfl) ?_ | refine QD.yv (by decide) rfl (Yv.load 0 T rfl rfl rfl (ws_get (by omega) (by omega))) ?_
    refine QD.e (Ev.add32 rfl rfl) (by decide) rfl ?_
    refine QD.ev T (by decide) rfl rfl ?_
    refine QD.nil (hZ _ ?_)
    clear hZ Z
    repeat (first | refine Run.seq ?_)
    refine Run.regionO (D := [some 171, some 172, some 173, some 174, some 175, some 176, some 177, some 178, some 179, some 180, some 181, some 182, some 183, some 184, some 185, some 186, some 187, some 188, some 189, some 190, some 19]) [true, true, true, true, true, true, true, true, true, true, true, true, true, true, true, true, true, true, true, true, true] rfl rfl rfl (fun Z hZ => ?_)
    refine QD.ev T (by decide) rfl rfl ?_
    refine QD.call (zz_right _ _ _ (by decide) (by decide)) (by decide) rfl Proofs.Tryd.call92 rfl ?_
    refine QD.ev T (by decide) rfl rfl ?_
    refine QD.call (zz_right _ _ _ (by decide) (by decide)) (by decide) rfl Proofs.Tryd.call92 rfl ?_
    refine QD.e (Ev.xor32 rfl rfl) (by decide) rfl ?_
    refine QD.ev T (by decide) rfl rfl ?_
    refine QD.call (zz_right _ _ _ (by decide) (by decide)) (by decide) rfl Proofs.Tryd.call92 rfl ?_
    refine QD.e (Ev.xor32 rfl rfl) (by decide) rfl ?_
    refine QD.ev T (by decide) rfl rfl ?_
    refine QD.ev T (by decide) rfl rfl ?_
    refine QD.e (Ev.and32 rfl rfl) (by decide) rfl ?_
    refine QD.ev T (by decide) rfl rfl ?_
    refine QD.ev T (by decide) rfl rfl ?_
    refine QD.e (Ev.and32 rfl rfl) (by decide) rfl ?_
    refine QD.e (Ev.xor32 rfl rfl) (by decide) rfl ?_
    refine QD.ev T (by decide) rfl rfl ?_
    refine QD.ev T (by decide) rfl rfl ?_
    refine QD.e (Ev.and32 rfl rfl) (by decide) rfl ?_
    refine QD.e (Ev.xor32 rfl rfl) (by decide) rfl ?_
    refine QD.e (Ev.add32 rfl rfl) (by decide) rfl ?_
    refine QD.ev T (by decide) rfl rfl ?_
    refine QD.nil (hZ _ ?_)
    clear hZ Z
    skip
    refine Run.regionO (D := [some 191, some 192, some 193, some 194, some 195, some 196, some 197, some 198, some 199, some 200, some 201, some 202, some 16, some 15, some 14, some 13, some 12, some 11, some 10, some 9]) [true, true, true, true, true, true, true, true, true, true, true, true, true, true, true, true, true, true, true, true] rfl rfl rfl (fun Z hZ => ?_)
    refine QD.ev T (by decide) rfl rfl ?_
    refine QD.ev T (by decide) rfl rfl ?_
    refine QD.ev T (by decide) rfl rfl ?_
    refine QD.ev T (by decide) rfl rfl ?_
    refine QD.ev T (by decide) rfl rfl ?_
    refine QD.e (Ev.add32 rfl rfl) (by decide) rfl ?_
    refine QD.ev T (by decide) rfl rfl ?_
    refine QD.ev T (by decide) rfl rfl ?_
    refine QD.ev T (by decide) rfl rfl ?_
    refine QD.ev T (by decide) rfl rfl ?_
    refine QD.ev T (by decide) rfl rfl ?_
    refine QD.e (Ev.add32 rfl rfl) (by decide) rfl ?_
    refine QD.ev T (by decide) rfl rfl ?_
    refine QD.ev T (by decide) rfl rfl ?_
    refine QD.ev T (by decide) rfl rfl ?_
    refine QD.ev T (by decide) rfl rfl ?_
    refine QD.ev T (by decide) rfl rfl ?_
    refine QD.ev T (by decide) rfl rfl ?_
    refine QD.ev T (by decide) rfl rfl ?_
    refine QD.ev T (by decide) rfl rfl ?_
    refine QD.nil (hZ _ ?_)
    clear hZ Z
    repeat (first | refine Run.inBlock ?_)
    refine Run.regionO (D := [some 203, some 142]) [true, true] rfl rfl rfl (fun Z hZ => ?_)
    refine QD.e (Ev.addI rfl rfl (wI (by first | omega | (simp only [List.length_cons, List.length_nil] ; omega) | (simp; omega)) (by first | omega | (simp only [List.length_cons, List.length_nil] ; omega) | (simp; omega)))) (by decide) rfl ?_
    refine QD.ev T (by decide) rfl rfl ?_
    refine QD.nil (hZ _ ?_)
    clear hZ Z
    skip
    refine Run.keep [0, 4, 9, 10, 11, 12, 13, 14, 15, 16, 142] [_, _, _, _, _, _, _, _, _, _, _] rfl ?_
    exact ih (64 - (i + 1)) _ _ _ (by omega) ⟨i + 1, rfl, by omega, by rw [rnds_succ]; rfl, rfl, rfl⟩
  have : i = 64 := by omega
  subst this
  clear ih h1
  unfold compress at hR
  generalize rnds s v 64 = u at *
  refine Run.dropL (List.sublist_cons_self _ _) ?_
  repeat (first | refine Run.seq ?_ | refine Run.exit rfl ?_)
  refine Run.regionO (D := [some 204, some 205, some 206, some 207, some 208, some 209, some 210, some 211, some 212, some 213]) [true, true, true, true, true, true, true, true, true, true] rfl rfl rfl (fun Z hZ => ?_)
  refine QD.ev T (by decide) rfl rfl ?_
  refine QD.ev T (by decide) rfl rfl ?_
  refine QD.ev T (by decide) rfl rfl ?_
  refine QD.ev T (by decide) rfl rfl ?_
  refine QD.ev T (by decide) rfl rfl ?_
  refine QD.ev T (by decide) rfl rfl ?_
  refine QD.ev T (by decide) rfl rfl ?_
  refine QD.ev T (by decide) rfl rfl ?_
  refine QD.e (Ev.buildArr T rfl rfl rfl rfl (by first | decide | rfl) (by first | decide | rfl) (by first | decide | rfl) rfl) (by decide) rfl ?_
  refine QD.ev T (by decide) rfl rfl ?_
  refine QD.nil (hZ _ ?_)
  clear hZ Z
  repeat (first | refine Run.block ?_)
  refine Run.keep [0, 212, 213] [_, _, _] rfl ?_
  refine Run.loop ?_
  repeat (first | refine Run.seq ?_)
  refine Run.regionO (D := [some 214]) [true] rfl rfl rfl (fun Z hZ => ?_)
  refine QD.e (Ev.lss rfl rfl) (by decide) rfl ?_
  refine QD.nil (hZ _ ?_)
  clear hZ Z
  repeat (first | refine Run.seq ?_ | refine Run.skip ?_ | refine Run.block ?_ | refine Run.cond_t rfl ?_)
  refine Run.regionO (D := [some 215, some 216, some 20, some 21]) [true, true, true, true] rfl rfl rfl (fun Z hZ => ?_)
  refine QD.ev T (by decide) rfl rfl ?_
  refine QD.e (Ev.indexA T rfl rfl rfl rfl rfl (by first | omega | (simp only [List.length_cons, List.length_nil] ; omega) | (simp; omega)) (by first | omega | (simp only [List.length_cons, List.length_nil] ; omega) | (simp; omega)) rfl) (by decide) rfl ?_
  refine QD.ev T (by decide) rfl rfl ?_
  refine QD.ev T (by decide) rfl rfl ?_
  refine QD.nil (hZ _ ?_)
  clear hZ Z
  skip
  refine Run.regionT (D := [some 217, some 218, some 219, some 220, some 221, some 222, some 223, some 224, some 225, some 226, some 227, none]) (fun _ => True) [true, true, true, true, true, true, true, true, true, true, true] (bl 12 2047) 1 (by kernel_rfl) (by kernel_rfl) (by kernel_rfl) rfl (fun Z hZ => ?_)
  refine QD.ev T (by decide) rfl rfl ?_
  refine QD.ev T (by decide) rfl rfl ?_
  refine QD.ev T (by decide) rfl rfl ?_
  refine QD.ev T (by decide) rfl rfl ?_
  refine QD.e (Ev.indexP T rfl rfl rfl rfl (by first | omega | (simp only [List.length_cons, List.length_nil] ; omega) | (simp; omega)) (by first | omega | (simp only [List.length_cons, List.length_nil] ; omega) | (simp; omega))) (by decide) rfl ?_
  first | refine QD.yv (by decide) rfl (Yv.load 0 T rfl rfl rfl rfl) ?_ | refine QD.yv (by decide) rfl (Yv.load 1 T rfl rfl rfl rfl) ?_ | refine QD.yv (by decide) rfl (Yv.load 2 T rfl rfl rfl rfl) ?_
  refine QD.ev T (by decide) rfl rfl ?_
  refine QD.e (Ev.add32 rfl rfl) (by decide) rfl ?_
  refine QD.ev T (by decide) rfl rfl ?_
  refine QD.ev T (by decide) rfl rfl ?_
  refine QD.e (Ev.indexP T rfl rfl rfl rfl (by first | omega | (simp only [List.length_cons, List.length_nil] ; omega) | (simp; omega)) (by first | omega | (simp only [List.length_cons, List.length_nil] ; omega) | (simp; omega))) (by decide) rfl ?_
  refine QD.nil (hZ _ ?_)
  clear hZ Z
  refine RAny.os 11 (bl 12 4095) rfl (by kernel_rfl) rfl (Eff.store 0 rfl rfl rfl rfl (T.sizeOk rfl) rfl (Nat.le_of_ble_eq_true rfl) rfl rfl ⟨fun _ _ => trivial, ?_⟩)
  refine RAny.done _ (by kernel_rfl) ?_
  repeat (first | refine Run.inBlock ?_)
  refine Run.regionO (D := [some 228, some 213]) [true, true] rfl rfl rfl (fun Z hZ => ?_)
  refine QD.e (Ev.addI rfl rfl (wI (by first | omega | (simp only [List.length_cons, List.length_nil] ; omega) | (simp; omega)) (by first | omega | (simp only [List.length_cons, List.length_nil] ; omega) | (simp; omega)))) (by decide) rfl ?_
  refine QD.ev T (by decide) rfl rfl ?_
  refine QD.nil (hZ _ ?_)
  clear hZ Z
  skip
  refine Run.keep [0, 212, 213] [_, _, _] rfl ?_
  refine Run.inLoop ?_
  repeat (first | refine Run.seq ?_)
  refine Run.regionO (D := [some 214]) [true] rfl rfl rfl (fun Z hZ => ?_)
  refine QD.e (Ev.lss rfl rfl) (by decide) rfl ?_
  refine QD.nil (hZ _ ?_)
  clear hZ Z
  repeat (first | refine Run.seq ?_ | refine Run.skip ?_ | refine Run.block ?_ | refine Run.cond_t rfl ?_)
  refine Run.regionO (D := [some 215, some 216, some 20, some 21]) [true, true, true, true] rfl rfl rfl (fun Z hZ => ?_)
  refine QD.ev T (by decide) rfl rfl ?_
  refine QD.e (Ev.indexA T rfl rfl rfl rfl rfl (by first | omega | (simp only [List.length_cons, List.length_nil] ; omega) | (simp; omega)) (by first | omega | (simp only [List.length_cons, List.length_nil] ; omega) | (simp; omega)) rfl) (by decide) rfl ?_
  refine QD.ev T (by decide) rfl rfl ?_
  refine QD.ev T (by decide) rfl rfl ?_
  refine QD.nil (hZ _ ?_)
  clear hZ Z
  skip
  refine Run.regionT (D := [some 217, some 218, some 219, some 220, some 221, some 222, some 223, some 224, some 225, some 226, some 227, none]) (fun _ => True) [true, true, true, true, true, true, true, true, true, true, true] (bl 12 2047) 1 (by kernel_rfl) (by kernel_rfl) (by kernel_rfl) rfl (fun Z hZ => ?_)
  refine QD.ev T (by decide) rfl rfl ?_
  refine QD.ev T (by decide) rfl rfl ?_
  refine QD.ev T (by decide) rfl rfl ?_
  refine QD.ev T (by decide) rfl rfl ?_
  refine QD.e (Ev.indexP T rfl rfl rfl rfl (by first | omega | (simp only [List.length_cons, List.length_nil] ; omega) | (simp; omega)) (by first | omega | (simp only [List.length_cons, List.length_nil] ; omega) | (simp; omega))) (by decide) rfl ?_
  first | refine QD.yv (by decide) rfl (Yv.load 0 T rfl rfl rfl rfl) ?_ | refine QD.yv (by decide) rfl (Yv.load 1 T rfl rfl rfl rfl) ?_ | refine QD.yv (by decide) rfl (Yv.load 2 T rfl rfl rfl rfl) ?_
  refine QD.ev T (by decide) rfl rfl ?_
  refine QD.e (Ev.add32 rfl rfl) (by decide) rfl ?_
  refine QD.ev T (by decide) rfl rfl ?_
  refine QD.ev T (by decide) rfl rfl ?_
  refine QD.e (Ev.indexP T rfl rfl rfl rfl (by first | omega | (simp only [List.length_cons, List.length_nil] ; omega) | (simp; omega)) (by first | omega | (simp only [List.length_cons, List.length_nil] ; omega) | (simp; omega))) (by decide) rfl ?_
  refine QD.nil (hZ _ ?_)
  clear hZ Z
  refine RAny.os 11 (bl 12 4095) rfl (by kernel_rfl) rfl (Eff.store 0 rfl rfl rfl rfl (T.sizeOk rfl) rfl (Nat.le_of_ble_eq_true rfl) rfl rfl ⟨fun _ _ => trivial, ?_⟩)
  refine RAny.done _ (by kernel_rfl) ?_
  repeat (first | refine Run.inBlock ?_)
  refine Run.regionO (D := [some 228, some 213]) [true, true] rfl rfl rfl (fun Z hZ => ?_)
  refine QD.e (Ev.addI rfl rfl (wI (by first | omega | (simp only [List.length_cons, List.length_nil] ; omega) | (simp; omega)) (by first | omega | (simp only [List.length_cons, List.length_nil] ; omega) | (simp; omega)))) (by decide) rfl ?_
  refine QD.ev T (by decide) rfl rfl ?_
  refine QD.nil (hZ _ ?_)
  clear hZ Z
  skip
  refine Run.keep [0, 212, 213] [_, _, _] rfl ?_
  refine Run.inLoop ?_
  repeat (first | refine Run.seq ?_)
  refine Run.regionO (D := [some 214]) [true] rfl rfl rfl (fun Z hZ => ?_)
  refine QD.e (Ev.lss rfl rfl) (by decide) rfl ?_
  refine QD.nil (hZ _ ?_)
  clear hZ Z
  repeat (first | refine Run.seq ?_ | refine Run.skip ?_ | refine Run.block ?_ | refine Run.cond_t rfl ?_)
  refine Run.regionO (D := [some 215, some 216, some 20, some 21]) [true, true, true, true] rfl rfl rfl (fun Z hZ => ?_)
  refine QD.ev T (by decide) rfl rfl ?_
  refine QD.e (Ev.indexA T rfl rfl rfl rfl rfl (by first | omega | (simp only [List.length_cons, List.length_nil] ; omega) | (simp; omega)) (by first | omega | (simp only [List.length_cons, List.length_nil] ; omega) | (simp; omega)) rfl) (by decide) rfl ?_
  refine QD.ev T (by decide) rfl rfl ?_
  refine QD.ev T (by decide) rfl rfl ?_
  refine QD.nil (hZ _ ?_)
  clear hZ Z
  skip
  refine Run.regionT (D := [some 217, some 218, some 219, some 220, some 221, some 222, some 223, some 224, some 225, some 226, some 227, none]) (fun _ => True) [true, true, true, true, true, true, true, true, true, true, true] (bl 12 2047) 1 (by kernel_rfl) (by kernel_rfl) (by kernel_rfl) rfl (fun Z hZ => ?_)
  refine QD.ev T (by decide) rfl rfl ?_
  refine QD.ev T (by decide) rfl rfl ?_
  refine QD.ev T (by decide) rfl rfl ?_
  refine QD.ev T (by decide) rfl rfl ?_
  refine QD.e (Ev.indexP T rfl rfl rfl rfl (by first | omega | (simp only [List.length_cons, List.length_nil] ; omega) | (simp; omega)) (by first | omega | (simp only [List.length_cons, List.length_nil] ; omega) | (simp; omega))) (by decide) rfl ?_
  first | refine QD.yv (by decide) rfl (Yv.load 0 T rfl rfl rfl rfl) ?_ | refine QD.yv (by decide) rfl (Yv.load 1 T rfl rfl rfl rfl) ?_ | refine QD.yv (by decide) rfl (Yv.load 2 T rfl rfl rfl rfl) ?_
  refine QD.ev T (by decide) rfl rfl ?_
  refine QD.e (Ev.add32 rfl rfl) (by decide) rfl ?_
  refine QD.ev T (by decide) rfl rfl ?_
  refine QD.ev T (by decide) rfl rfl ?_
  refine QD.e (Ev.indexP T rfl rfl rfl rfl (by first | omega | (simp only [List.length_cons, List.length_nil] ; omega) | (simp; omega)) (by first | omega | (simp only [List.length_cons, List.length_nil] ; omega) | (simp; omega))) (by decide) rfl ?_
  refine QD.nil (hZ _ ?_)
  clear hZ Z
  refine RAny.os 11 (bl 12 4095) rfl (by kernel_rfl) rfl (Eff.store 0 rfl rfl rfl rfl (T.sizeOk rfl) rfl (Nat.le_of_ble_eq_true rfl) rfl rfl ⟨fun _ _ => trivial, ?_⟩)
  refine RAny.done _ (by kernel_rfl) ?_
  repeat (first | refine Run.inBlock ?_)
  refine Run.regionO (D := [some 228, some 213]) [true, true] rfl rfl rfl (fun Z hZ => ?_)
  refine QD.e (Ev.addI rfl rfl (wI (by first | omega | (simp only [List.length_cons, List.length_nil] ; omega) | (simp; omega)) (by first | omega | (simp only [List.length_cons, List.length_nil] ; omega) | (simp; omega)))) (by decide) rfl ?_
  refine QD.ev T (by decide) rfl rfl ?_
  refine QD.nil (hZ _ ?_)
  clear hZ Z
  skip
  refine Run.keep [0, 212, 213] [_, _, _] rfl ?_
  refine Run.inLoop ?_
  repeat (first | refine Run.seq ?_)
  refine Run.regionO (D := [some 214]) [true] rfl rfl rfl (fun Z hZ => ?_)
  refine QD.e (Ev.lss rfl rfl) (by decide) rfl ?_
  refine QD.nil (hZ _ ?_)
  clear hZ Z
  repeat (first | refine Run.seq ?_ | refine Run.skip ?_ | refine Run.block ?_ | refine Run.cond_t rfl ?_)
  refine Run.regionO (D := [some 215, some 216, some 20, some 21]) [true, true, true, true] rfl rfl rfl (fun Z hZ => ?_)
  refine QD.ev T (by decide) rfl rfl ?_
  refine QD.e (Ev.indexA T rfl rfl rfl rfl rfl (by first | omega | (simp only [List.length_cons, List.length_nil] ; omega) | (simp; omega)) (by first | omega | (simp only [List.length_cons, List.length_nil] ; omega) | (simp; omega)) rfl) (by decide) rfl ?_
  refine QD.ev T (by decide) rfl rfl ?_
  refine QD.ev T (by decide) rfl rfl ?_
  refine QD.nil (hZ _ ?_)
  clear hZ Z
  skip
  refine Run.regionT (D := [some 217, some 218, some 219, some 220, some 221, some 222, some 223, some 224, some 225, some 226, some 227, none]) (fun _ => True) [true, true, true, true, true, true, true, true, true, true, true] (bl 12 2047) 1 (by kernel_rfl) (by kernel_rfl) (by kernel_rfl) rfl (fun Z hZ => ?_)
  refine QD.ev T (by decide) rfl rfl ?_
  refine QD.ev T (by decide) rfl rfl ?_
  refine QD.ev T (by decide) rfl rfl ?_
  refine QD.ev T (by decide) rfl rfl ?_
  refine QD.e (Ev.indexP T rfl rfl rfl rfl (by first | omega | (simp only [List.length_cons, List.length_nil] ; omega) | (simp; omega)) (by first | omega | (simp only [List.length_cons, List.length_nil] ; omega) | (simp; omega))) (by decide) rfl ?_
  first | refine QD.yv (by decide) rfl (Yv.load 0 T rfl rfl rfl rfl) ?_ | refine QD.yv (by decide) rfl (Yv.load 1 T rfl rfl rfl rfl) ?_ | refine QD.yv (by decide) rfl (Yv.load 2 T rfl rfl rfl rfl) ?_
  refine QD.ev T (by decide) rfl rfl ?_
  refine QD.e (Ev.add32 rfl rfl) (by decide) rfl ?_
  refine QD.ev T (by decide) rfl rfl ?_
  refine QD.ev T (by decide) rfl rfl ?_
  refine QD.e (Ev.indexP T rfl rfl rfl rfl (by first | omega | (simp only [List.length_cons, List.length_nil] ; omega) | (simp; omega)) (by first | omega | (simp only [List.length_cons, List.length_nil] ; omega) | (simp; omega))) (by decide) rfl ?_
  refine QD.nil (hZ _ ?_)
  clear hZ Z
  refine RAny.os 11 (bl 12 4095) rfl (by kernel_rfl) rfl (Eff.store 0 rfl rfl rfl rfl (T.sizeOk rfl) rfl (Nat.le_of_ble_eq_true rfl) rfl rfl ⟨fun _ _ => trivial, ?_⟩)
  refine RAny.done _ (by kernel_rfl) ?_
  repeat (first | refine Run.inBlock ?_)
  refine Run.regionO (D := [some 228, some 213]) [true, true] rfl rfl rfl (fun Z hZ => ?_)
  refine QD.e (Ev.addI rfl rfl (wI (by first | omega | (simp only [List.length_cons, List.length_nil] ; omega) | (simp; omega)) (by first | omega | (simp only [List.length_cons, List.length_nil] ; omega) | (simp; omega)))) (by decide) rfl ?_
  refine QD.ev T (by decide) rfl rfl ?_
  refine QD.nil (hZ _ ?_)
  clear hZ Z
  skip
  refine Run.keep [0, 212, 213] [_, _, _] rfl ?_
  refine Run.inLoop ?_
  repeat (first | refine Run.seq ?_)
  refine Run.regionO (D := [some 214]) [true] rfl rfl rfl (fun Z hZ => ?_)
  refine QD.e (Ev.lss rfl rfl) (by decide) rfl ?_
  refine QD.nil (hZ _ ?_)
  clear hZ Z
  repeat (first | refine Run.seq ?_ | refine Run.skip ?_ | refine Run.block ?_ | refine Run.cond_t rfl ?_)
  refine Run.regionO (D := [some 215, some 216, some 20, some 21]) [true, true, true, true] rfl rfl rfl (fun Z hZ => ?_)
  refine QD.ev T (by decide) rfl rfl ?_
  refine QD.e (Ev.indexA T rfl rfl rfl rfl rfl (by first | omega | (simp only [List.length_cons, List.length_nil] ; omega) | (simp; omega)) (by first | omega | (simp only [List.length_cons, List.length_nil] ; omega) | (simp; omega)) rfl) (by decide) rfl ?_
  refine QD.ev T (by decide) rfl rfl ?_
  refine QD.ev T (by decide) rfl rfl ?_
  refine QD.nil (hZ _ ?_)
  clear hZ Z
  skip
  refine Run.regionT (D := [some 217, some 218, some 219, some 220, some 221, some 222, some 223, some 224, some 225, some 226, some 227, none]) (fun _ => True) [true, true, true, true, true, true, true, true, true, true, true] (bl 12 2047) 1 (by kernel_rfl) (by kernel_rfl) (by kernel_rfl) rfl (fun Z hZ => ?_)
  refine QD.ev T (by decide) rfl rfl ?_
  refine QD.ev T (by decide) rfl rfl ?_
  refine QD.ev T (by decide) rfl rfl ?_
  refine QD.ev T (by decide) rfl rfl ?_
  refine QD.e (Ev.indexP T rfl rfl rfl rfl (by first | omega | (simp only [List.length_cons, List.length_nil] ; omega) | (simp; omega)) (by first | omega | (simp only [List.length_cons, List.length_nil] ; omega) | (simp; omega))) (by decide) rfl ?_
  first | refine QD.yv (by decide) rfl (Yv.load 0 T rfl rfl rfl rfl) ?_ | refine QD.yv (by decide) rfl (Yv.load 1 T rfl rfl rfl rfl) ?_ | refine QD.yv (by decide) rfl (Yv.load 2 T rfl rfl rfl rfl) ?_
  refine QD.ev T (by decide) rfl rfl ?_
  refine QD.e (Ev.add32 rfl rfl) (by decide) rfl ?_
  refine QD.ev T (by decide) rfl rfl ?_
  refine QD.ev T (by decide) rfl rfl ?_
  refine QD.e (Ev.indexP T rfl rfl rfl rfl (by first | omega | (simp only [List.length_cons, List.length_nil] ; omega) | (simp; omega)) (by first | omega | (simp only [List.length_cons, List.length_nil] ; omega) | (simp; omega))) (by decide) rfl ?_
  refine QD.nil (hZ _ ?_)
  clear hZ Z
  refine RAny.os 11 (bl 12 4095) rfl (by kernel_rfl) rfl (Eff.store 0 rfl rfl rfl rfl (T.sizeOk rfl) rfl (Nat.le_of_ble_eq_true rfl) rfl rfl ⟨fun _ _ => trivial, ?_⟩)
  refine RAny.done _ (by kernel_rfl) ?_
  repeat (first | refine Run.inBlock ?_)
  refine Run.regionO (D := [some 228, some 213]) [true, true] rfl rfl rfl (fun Z hZ => ?_)
  refine QD.e (Ev.addI rfl rfl (wI (by first | omega | (simp only [List.length_cons, List.length_nil] ; omega) | (simp; omega)) (by first | omega | (simp only [List.length_cons, List.length_nil] ; omega) | (simp; omega)))) (by decide) rfl ?_
  refine QD.ev T (by decide) rfl rfl ?_
  refine QD.nil (hZ _ ?_)
  clear hZ Z
  skip
  refine Run.keep [0, 212, 213] [_, _, _] rfl ?_
  refine Run.inLoop ?_
  repeat (first | refine Run.seq ?_)
  refine Run.regionO (D := [some 214]) [true] rfl rfl rfl (fun Z hZ => ?_)
  refine QD.e (Ev.lss rfl rfl) (by decide) rfl ?_
  refine QD.nil (hZ _ ?_)
  clear hZ Z
  repeat (first | refine Run.seq ?_ | refine Run.skip ?_ | refine Run.block ?_ | refine Run.cond_t rfl ?_)
  refine Run.regionO (D := [some 215, some 216, some 20, some 21]) [true, true, true, true] rfl rfl rfl (fun Z hZ => ?_)
  refine QD.ev T (by decide) rfl rfl ?_
  refine QD.e (Ev.indexA T rfl rfl rfl rfl rfl (by first | omega | (simp only [List.length_cons, List.length_nil] ; omega) | (simp; omega)) (by first | omega | (simp only [List.length_cons, List.length_nil] ; omega) | (simp; omega)) rfl) (by decide) rfl ?_
  refine QD.ev T (by decide) rfl rfl ?_
  refine QD.ev T (by decide) rfl rfl ?_
  refine QD.nil (hZ _ ?_)
  clear hZ Z
  skip
  refine Run.regionT (D := [some 217, some 218, some 219, some 220, some 221, some 222, some 223, some 224, some 225, some 226, some 227, none]) (fun _ => True) [true, true, true, true, true, true, true, true, true, true, true] (bl 12 2047) 1 (by kernel_rfl) (by kernel_rfl) (by kernel_rfl) rfl (fun Z hZ => ?_)
  refine QD.ev T (by decide) rfl rfl ?_
  refine QD.ev T (by decide) rfl rfl ?_
  refine QD.ev T (by decide) rfl rfl ?_
  refine QD.ev T (by decide) rfl rfl ?_
  refine QD.e (Ev.indexP T rfl rfl rfl rfl (by first | omega | (simp only [List.length_cons, List.length_nil] ; omega) | (simp; omega)) (by first | omega | (simp only [List.length_cons, List.length_nil] ; omega) | (simp; omega))) (by decide) rfl ?_
  first | refine QD.yv (by decide) rfl (Yv.load 0 T rfl rfl rfl rfl) ?_ | refine QD.yv (by decide) rfl (Yv.load 1 T rfl rfl rfl rfl) ?_ | refine QD.yv (by decide) rfl (Yv.load 2 T rfl rfl rfl rfl) ?_
  refine QD.ev T (by decide) rfl rfl ?_
  refine QD.e (Ev.add32 rfl rfl) (by decide) rfl ?_
  refine QD.ev T (by decide) rfl rfl ?_
  refine QD.ev T (by decide) rfl rfl ?_
  refine QD.e (Ev.indexP T rfl rfl rfl rfl (by first | omega | (simp only [List.length_cons, List.length_nil] ; omega) | (simp; omega)) (by first | omega | (simp only [List.length_cons, List.length_nil] ; omega) | (simp; omega))) (by decide) rfl ?_
  refine QD.nil (hZ _ ?_)
  clear hZ Z
  refine RAny.os 11 (bl 12 4095) rfl (by kernel_rfl) rfl (Eff.store 0 rfl rfl rfl rfl (T.sizeOk rfl) rfl (Nat.le_of_ble_eq_true rfl) rfl rfl ⟨fun _ _ => trivial, ?_⟩)
  refine RAny.done _ (by kernel_rfl) ?_
  repeat (first | refine Run.inBlock ?_)
  refine Run.regionO (D := [some 228, some 213]) [true, true] rfl rfl rfl (fun Z hZ => ?_)
  refine QD.e (Ev.addI rfl rfl (wI (by first | omega | (simp only [List.length_cons, List.length_nil] ; omega) | (simp; omega)) (by first | omega | (simp only [List.length_cons, List.length_nil] ; omega) | (simp; omega)))) (by decide) rfl ?_
  refine QD.ev T (by decide) rfl rfl ?_
  refine QD.nil (hZ _ ?_)
  clear hZ Z
  skip
  refine Run.keep [0, 212, 213] [_, _, _] rfl ?_
  refine Run.inLoop ?_
  repeat (first | refine Run.seq ?_)
  refine Run.regionO (D := [some 214]) [true] rfl rfl rfl (fun Z hZ => ?_)
  refine QD.e (Ev.lss rfl rfl) (by decide) rfl ?_
  refine QD.nil (hZ _ ?_)
  clear hZ Z
  repeat (first | refine Run.seq ?_ | refine Run.skip ?_ | refine Run.block ?_ | refine Run.cond_t rfl ?_)
  refine Run.regionO (D := [some 215, some 216, some 20, some 21]) [true, true, true, true] rfl rfl rfl (fun Z hZ => ?_)
  refine QD.ev T (by decide) rfl rfl ?_
  refine QD.e (Ev.indexA T rfl rfl rfl rfl rfl (by first | omega | (simp only [List.length_cons, List.length_nil] ; omega) | (simp; omega)) (by first | omega | (simp only [List.length_cons, List.length_nil] ; omega) | (simp; omega)) rfl) (by decide) rfl ?_
  refine QD.ev T (by decide) rfl rfl ?_
  refine QD.ev T (by decide) rfl rfl ?_
  refine QD.nil (hZ _ ?_)
  clear hZ Z
  skip
  refine Run.regionT (D := [some 217, some 218, some 219, some 220, some 221, some 222, some 223, some 224, some 225, some 226, some 227, none]) (fun _ => True) [true, true, true, true, true, true, true, true, true, true, true] (bl 12 2047) 1 (by kernel_rfl) (by kernel_rfl) (by kernel_rfl) rfl (fun Z hZ => ?_)
  refine QD.ev T (by decide) rfl rfl ?_
  refine QD.ev T (by decide) rfl rfl ?_
  refine QD.ev T (by decide) rfl rfl ?_
  refine QD.ev T (by decide) rfl rfl ?_
  refine QD.e (Ev.indexP T rfl rfl rfl rfl (by first | omega | (simp only [List.length_cons, List.length_nil] ; omega) | (simp; omega)) (by first | omega | (simp only [List.length_cons, List.length_nil] ; omega) | (simp; omega))) (by decide) rfl ?_
  first | refine QD.yv (by decide) rfl (Yv.load 0 T rfl rfl rfl rfl) ?_ | refine QD.yv (by decide) rfl (Yv.load 1 T rfl rfl rfl rfl) ?_ | refine QD.yv (by decide) rfl (Yv.load 2 T rfl rfl rfl rfl) ?_
  refine QD.ev T (by decide) rfl rfl ?_
  refine QD.e (Ev.add32 rfl rfl) (by decide) rfl ?_
  refine QD.ev T (by decide) rfl rfl ?_
  refine QD.ev T (by decide) rfl rfl ?_
  refine QD.e (Ev.indexP T rfl rfl rfl rfl (by first | omega | (simp only [List.length_cons, List.length_nil] ; omega) | (simp; omega)) (by first | omega | (simp only [List.length_cons, List.length_nil] ; omega) | (simp; omega))) (by decide) rfl ?_
  refine QD.nil (hZ _ ?_)
  clear hZ Z
  refine RAny.os 11 (bl 12 4095) rfl (by kernel_rfl) rfl (Eff.store 0 rfl rfl rfl rfl (T.sizeOk rfl) rfl (Nat.le_of_ble_eq_true rfl) rfl rfl ⟨fun _ _ => trivial, ?_⟩)
  refine RAny.done _ (by kernel_rfl) ?_
  repeat (first | refine Run.inBlock ?_)
  refine Run.regionO (D := [some 228, some 213]) [true, true] rfl rfl rfl (fun Z hZ => ?_)
  refine QD.e (Ev.addI rfl rfl (wI (by first | omega | (simp only [List.length_cons, List.length_nil] ; omega) | (simp; omega)) (by first | omega | (simp only [List.length_cons, List.length_nil] ; omega) | (simp; omega)))) (by decide) rfl ?_
  refine QD.ev T (by decide) rfl rfl ?_
  refine QD.nil (hZ _ ?_)
  clear hZ Z
  skip
  refine Run.keep [0, 212, 213] [_, _, _] rfl ?_
  refine Run.inLoop ?_
  repeat (first | refine Run.seq ?_)
  refine Run.regionO (D := [some 214]) [true] rfl rfl rfl (fun Z hZ => ?_)
  refine QD.e (Ev.lss rfl rfl) (by decide) rfl ?_
  refine QD.nil (hZ _ ?_)
  clear hZ Z
  repeat (first | refine Run.seq ?_ | refine Run.skip ?_ | refine Run.block ?_ | refine Run.cond_t rfl ?_)
  refine Run.regionO (D := [some 215, some 216, some 20, some 21]) [true, true, true, true] rfl rfl rfl (fun Z hZ => ?_)
  refine QD.ev T (by decide) rfl rfl ?_
  refine QD.e (Ev.indexA T rfl rfl rfl rfl rfl (by first | omega | (simp only [List.length_cons, List.length_nil] ; omega) | (simp; omega)) (by first | omega | (simp only [List.length_cons, List.length_nil] ; omega) | (simp; omega)) rfl) (by decide) rfl ?_
  refine QD.ev T (by decide) rfl rfl ?_
  refine QD.ev T (by decide) rfl rfl ?_
  refine QD.nil (hZ _ ?_)
  clear hZ Z
  skip
  refine Run.regionT (D := [some 217, some 218, some 219, some 220, some 221, some 222, some 223, some 224, some 225, some 226, some 227, none]) (fun _ => True) [true, true, true, true, true, true, true, true, true, true, true] (bl 12 2047) 1 (by kernel_rfl) (by kernel_rfl) (by kernel_rfl) rfl (fun Z hZ => ?_)
  refine QD.ev T (by decide) rfl rfl ?_
  refine QD.ev T (by decide) rfl rfl ?_
  refine QD.ev T (by decide) rfl rfl ?_
  refine QD.ev T (by decide) rfl rfl ?_
  refine QD.e (Ev.indexP T rfl rfl rfl rfl (by first | omega | (simp only [List.length_cons, List.length_nil] ; omega) | (simp; omega)) (by first | omega | (simp only [List.length_cons, List.length_nil] ; omega) | (simp; omega))) (by decide) rfl ?_
  first | refine QD.yv (by decide) rfl (Yv.load 0 T rfl rfl rfl rfl) ?_ | refine QD.yv (by decide) rfl (Yv.load 1 T rfl rfl rfl rfl) ?_ | refine QD.yv (by decide) rfl (Yv.load 2 T rfl rfl rfl rfl) ?_
  refine QD.ev T (by decide) rfl rfl ?_
  refine QD.e (Ev.add32 rfl rfl) (by decide) rfl ?_
  refine QD.ev T (by decide) rfl rfl ?_
  refine QD.ev T (by decide) rfl rfl ?_
  refine QD.e (Ev.indexP T rfl rfl rfl rfl (by first | omega | (simp only [List.length_cons, List.length_nil] ; omega) | (simp; omega)) (by first | omega | (simp only [List.length_cons, List.length_nil] ; omega) | (simp; omega))) (by decide) rfl ?_
  refine QD.nil (hZ _ ?_)
  clear hZ Z
  refine RAny.os 11 (bl 12 4095) rfl (by kernel_rfl) rfl (Eff.store 0 rfl rfl rfl rfl (T.sizeOk rfl) rfl (Nat.le_of_ble_eq_true rfl) rfl rfl ⟨fun _ _ => trivial, ?_⟩)
  refine RAny.done _ (by kernel_rfl) ?_
  repeat (first | refine Run.inBlock ?_)
  refine Run.regionO (D := [some 228, some 213]) [true, true] rfl rfl rfl (fun Z hZ => ?_)
  refine QD.e (Ev.addI rfl rfl (wI (by first | omega | (simp only [List.length_cons, List.length_nil] ; omega) | (simp; omega)) (by first | omega | (simp only [List.length_cons, List.length_nil] ; omega) | (simp; omega)))) (by decide) rfl ?_
  refine QD.ev T (by decide) rfl rfl ?_
  refine QD.nil (hZ _ ?_)
  clear hZ Z
  skip
  refine Run.keep [0, 212, 213] [_, _, _] rfl ?_
  refine Run.inLoop ?_
  repeat (first | refine Run.seq ?_)
  refine Run.regionO (D := [some 214]) [true] rfl rfl rfl (fun Z hZ => ?_)
  refine QD.e (Ev.lss rfl rfl) (by decide) rfl ?_
  refine QD.nil (hZ _ ?_)
  clear hZ Z
  repeat (first | refine Run.seq ?_ | refine Run.exit rfl ?_ | refine Run.cond_f rfl ?_)
  refine Run.end0 (by rw [hCf]; exact Proofs.Tryd.func91) Proofs.Tryd.results91 (hR _ _ _ rfl)
end Go.V
