import Derived.Test.YthbokkmoafodcaaDoorBPM4
import Derived.Test.YthbokkmoafodcaaDoorBPM2
import Derived.LaidLaws
import Derived.MakeChecks
import Derived.ChangeBears2
import Derived.Lay
import Derived.Stop.Joined
import Derived.Deep.DeepHandedRow
/-
  Plain runes read and written.
-/
namespace Go.V
open Go.RowKit
set_option linter.unusedVariables false
set_option linter.unusedSimpArgs false
set_option maxRecDepth 10000
attribute [local irreducible] Run Ops QD
theorem utf8_DecodeB (I : Imm) (db off m cp : Nat) (c : UInt8) (hA : At I db (off + (0 : Int).toNat * 1) [.int .u8 (c.toNat : Int)]) (hm : 0 < m) (hmc : m ≤ cp) (hc : c.toNat < 128) :
    Pure Proofs.Tryd.prog 55 [.slice (some ⟨db, off, none⟩) m cp] I fun w J => w = .tuple #[.int .i32 (c.toNat : Int), .int .i64 1] := by
  refine Spec.enter 22 [(0, _)] Proofs.Tryd.func55 rfl Proofs.Tryd.ntmps55 (by simp) rfl ?_
  intro C hCf hR hCI
  repeat (first | refine Run.seq ?_)
  refine Run.regionO (D := [some 2, some 3]) [true, true] rfl rfl rfl (fun Z hZ => ?_)
  refine QD.ev T (by decide) rfl rfl ?_
  refine QD.ev T (by decide) rfl rfl ?_
  refine QD.nil (hZ _ ?_)
  clear hZ Z
  repeat (first | refine Run.seq ?_)
  refine Run.regionO (D := [some 6, some 7, some 8]) [true, true, true] rfl rfl rfl (fun Z hZ => ?_)
  refine QD.ev T (by decide) rfl rfl ?_
  refine QD.ev T (by decide) rfl rfl ?_
  refine QD.ev T (by decide) rfl rfl ?_
  refine QD.nil (hZ _ ?_)
  clear hZ Z
  repeat (first | refine Run.block ?_)
  refine Run.loop ?_
  repeat (first | refine Run.seq ?_)
  refine Run.regionO (D := [some 9]) [true] rfl rfl rfl (fun Z hZ => ?_)
  refine QD.e (Ev.lss rfl rfl) (by decide) rfl ?_
  refine QD.nil (hZ _ ?_)
  clear hZ Z
  rw [decide_eq_true (show (0 : Int) < (m : Int) by omega)]
  repeat (first | refine Run.seq ?_ | refine Run.skip ?_ | refine Run.block ?_ | refine Run.cond_t rfl ?_)
  refine Run.regionO (D := [some 10, some 11, some 5]) [true, true, true] rfl rfl rfl (fun Z hZ => ?_)
  refine QD.e (Ev.indexS T rfl rfl rfl rfl (by first | omega | (simp only [List.length_cons, List.length_nil] ; omega) | (simp; omega)) (by first | omega | (simp only [List.length_cons, List.length_nil] ; omega) | (simp; omega))) (by decide) rfl ?_
  first | refine QD.yv (by decide) rfl (Yv.load 0 T rfl rfl rfl rfl) ?_ | refine QD.yv (by decide) rfl (Yv.load 1 T rfl rfl rfl rfl) ?_ | refine QD.yv (by decide) rfl (Yv.load 2 T rfl rfl rfl rfl) ?_ | refine QD.yv (by decide) rfl (Yv.loadI T hA rfl rfl) ?_
  refine QD.ev T (by decide) rfl rfl ?_
  refine QD.nil (hZ _ ?_)
  clear hZ Z
  repeat (first | refine Run.seq ?_)
  refine Run.regionO (D := [some 12, some 13]) [true, true] rfl rfl rfl (fun Z hZ => ?_)
  refine QD.ev T (by decide) rfl rfl ?_
  refine QD.e (Ev.lss rfl rfl) (by decide) rfl ?_
  refine QD.nil (hZ _ ?_)
  clear hZ Z
  rw [decide_eq_true (show (c.toNat : Int) < 128 by omega)]
  repeat (first | refine Run.seq ?_ | refine Run.cond_t rfl ?_)
  refine Run.regionO (D := [some 14, some 15, some 2, some 3]) [true, true, true, true] rfl rfl rfl (fun Z hZ => ?_)
  refine QD.ev T (by decide) rfl rfl ?_
  refine QD.e (Ev.conv (a := (c.toNat : Int)) (r := (c.toNat : Int)) T rfl rfl rfl (wrapR hc)) (by decide) rfl ?_
  refine QD.ev T (by decide) rfl rfl ?_
  refine QD.ev T (by decide) rfl rfl ?_
  refine QD.nil (hZ _ ?_)
  clear hZ Z
  skip
  refine Run.fin (Run.ret2 (by rw [hCf]; exact Proofs.Tryd.func55) Proofs.Tryd.results55 rfl rfl (hR _ _ _ ?_))
  exact ⟨rfl, rfl⟩
theorem wrapU_all : ∀ k : Fin 128, IntKind.u32.wrap (k.val : Int) = (k.val : Int) := by decide
theorem wrapU {k : Nat} (h : k < 128) : IntKind.u32.wrap (k : Int) = (k : Int) := wrapU_all ⟨k, h⟩
theorem wrapB_all : ∀ k : Fin 128, IntKind.u8.wrap (k.val : Int) = (k.val : Int) := by decide
theorem wrapB {k : Nat} (h : k < 128) : IntKind.u8.wrap (k : Int) = (k : Int) := wrapB_all ⟨k, h⟩
theorem utf8_AppendA (I : Imm) (v : Value) (xs : Tx) (c : UInt8) (M : Own) (hB : Buf 5 v xs M) (hx : xs.length ≤ 1099511627776) (hc : c.toNat < 128) :
    Spec Proofs.Tryd.prog 56 [v, .int .i32 (c.toNat : Int)] I M fun w J M' => Buf 5 w (xs ++ [c]) M' := by
  refine Spec.enter 16 [(0, _), (1, _)] Proofs.Tryd.func56 rfl Proofs.Tryd.ntmps56 (by simp) rfl ?_
  intro C hCf hR hCI
  repeat (first | refine Run.seq ?_)
  refine Run.regionO (D := [some 4]) [true] rfl rfl rfl (fun Z hZ => ?_)
  refine QD.ev T (by decide) rfl rfl ?_
  refine QD.nil (hZ _ ?_)
  clear hZ Z
  repeat (first | refine Run.seq ?_)
  refine Run.regionO (D := [some 5, some 6, some 7]) [true, true, true] rfl rfl rfl (fun Z hZ => ?_)
  refine QD.ev T (by decide) rfl rfl ?_
  refine QD.e (Ev.conv (a := (c.toNat : Int)) (r := (c.toNat : Int)) T rfl rfl rfl (wrapU hc)) (by decide) rfl ?_
  refine QD.e (Ev.leq rfl rfl) (by decide) rfl ?_
  refine QD.nil (hZ _ ?_)
  clear hZ Z
  rw [decide_eq_true (show (c.toNat : Int) ≤ 127 by omega)]
  repeat (first | refine Run.seq ?_ | refine Run.cond_t rfl ?_)
  refine Run.regionP (D := [some 8, some 9, some 10, some 11, some 12, some 4]) [true, true, true] 3 rfl rfl rfl (by simp only [List.drop_succ_cons, List.drop_zero]; rfl) (fun Z hZ => ?_)
  refine QD.ev T (by decide) rfl rfl ?_
  refine QD.ev T (by decide) rfl rfl ?_
  refine QD.e (Ev.conv (a := (c.toNat : Int)) (r := (c.toNat : Int)) T rfl rfl rfl (wrapB hc)) (by decide) rfl ?_
  refine QD.nil (hZ _ ?_)
  clear hZ Z
  refine Ops.lit T rfl rfl rfl (by decide) rfl (by decide) (by decide) rfl rfl rfl rfl rfl (fun bq => ?_)
  refine Ops.appLit [c] (N := []) btB hB rfl (by decide) rfl rfl rfl rfl rfl (by simp; omega) fun v1 M1 hB1 => ?_
  refine Ops.pure T rfl (by decide) rfl ?_
  refine Ops.nil ?_
  skip
  refine Run.ret1 (by rw [hCf]; exact Proofs.Tryd.func56) Proofs.Tryd.results56 rfl (hR _ _ _ ?_)
  exact hB1
end Go.V
/-
  A plain text read from JSON.
-/
namespace Go.V
open Go.RowKit
set_option linter.unusedVariables false
set_option linter.unusedSimpArgs false
set_option maxRecDepth 10000
attribute [local irreducible] Run Ops QD
theorem quoted_at {u z : Tx} (s : Tx) (hs : s = u ++ z) : ([34] ++ s ++ [34] : Tx).getD (u.length + 1) 0 = (z ++ [34]).getD 0 0 := by
  subst hs
  rw [List.getD_eq_getElem?_getD, List.getD_eq_getElem?_getD]
  simp [List.getElem?_append_right]
set_option maxHeartbeats 2000000 in
theorem reader_text (I : Imm) (s : Tx) (v : Value) (db off c r d : Nat) (hR0 : Rd I v ([34] ++ s ++ [34]) db off c) (hs : s.length ≤ 1099511627000) (hp : plT s) :
    Spec Proofs.Tryd.prog 50 [.pointer (some ⟨r, 0, none⟩)] I [(r, rdr v 0 d)] fun w J M => w = .tuple #[str s, .bool true] ∧ M = [(r, rdr v (s.length + 2) d)] := by
  obtain rfl := hR0.eq
  have hcap := hR0.cap
  have hlen : ([34] ++ s ++ [34] : Tx).length = s.length + 2 := by simp
  rw [hlen] at hcap
  generalize hxs : ([34] ++ s ++ [34] : Tx) = xs at *
  refine Spec.enter 198 [(0, _)] Proofs.Tryd.func50 rfl Proofs.Tryd.ntmps50 (by simp) rfl ?_
  intro C hCf hR hCI
  repeat (first | refine Run.seq ?_)
  refine Run.regionO (D := [some 2, some 3]) [true, true] rfl rfl rfl (fun Z hZ => ?_)
  refine QD.ev T (by decide) rfl rfl ?_
  refine QD.ev T (by decide) rfl rfl ?_
  refine QD.nil (hZ _ ?_)
  clear hZ Z
  repeat (first | refine Run.seq ?_)
  refine Run.regionP (D := [some 13, some 14, some 15, some 16, some 17, some 18, some 19, none]) [true, true, true, true, true, true, true] 7 rfl rfl rfl (by simp only [List.drop_succ_cons, List.drop_zero]; rfl) (fun Z hZ => ?_)
  refine QD.ev T (by decide) rfl rfl ?_
  refine QD.ev T (by decide) rfl rfl ?_
  refine QD.ev T (by decide) rfl rfl ?_
  first | refine QD.yv (by decide) rfl (Yv.load 0 T rfl rfl rfl rfl) ?_ | refine QD.yv (by decide) rfl (Yv.load 1 T rfl rfl rfl rfl) ?_ | refine QD.yv (by decide) rfl (Yv.load 2 T rfl rfl rfl rfl) ?_
  refine QD.e (Ev.addI rfl rfl (wI (by first | omega | (simp only [List.length_cons, List.length_nil] ; omega) | (simp; omega)) (by first | omega | (simp only [List.length_cons, List.length_nil] ; omega) | (simp; omega)))) (by decide) rfl ?_
  refine QD.ev T (by decide) rfl rfl ?_
  refine QD.ev T (by decide) rfl rfl ?_
  refine QD.nil (hZ _ ?_)
  clear hZ Z
  first | refine Ops.store 0 rfl rfl rfl rfl rfl (T.sizeOk rfl) rfl (Nat.le_of_ble_eq_true rfl) rfl rfl ?_ | refine Ops.store 1 rfl rfl rfl rfl rfl (T.sizeOk rfl) rfl (Nat.le_of_ble_eq_true rfl) rfl rfl ?_ | refine Ops.store 2 rfl rfl rfl rfl rfl (T.sizeOk rfl) rfl (Nat.le_of_ble_eq_true rfl) rfl rfl ?_
  refine Ops.nil ?_
  repeat (first | refine Run.seq ?_)
  refine Run.regionO (D := [some 4]) [true] rfl rfl rfl (fun Z hZ => ?_)
  refine QD.ev T (by decide) rfl rfl ?_
  refine QD.nil (hZ _ ?_)
  clear hZ Z
  repeat (first | refine Run.seq ?_ | refine Run.block ?_)
  refine Run.keep [0, 4] [_, _] rfl ?_
  refine Run.rounds (fun m env L J => ∃ (u z : Tx) (v2 : Value) (M2 : Own), m = z.length ∧ s = u ++ z ∧ Buf 5 v2 u M2 ∧
    env = [(0, .pointer (some ⟨r, 0, none⟩)), (4, v2)] ∧ L = (r, rdr (.slice (some ⟨db, off, none⟩) xs.length c) (u.length + 1) d) :: M2 ∧ Le I J) s.length ⟨[], s, _, [], rfl, rfl, Buf.nil _, rfl, rfl, Le.refl _⟩ ?_
  rintro m env L J ⟨u, z, v2, M2, rfl, hsz, hB2, rfl, rfl, hle⟩ ih
  have hul : u.length + z.length = s.length := by rw [hsz]; simp
  have hA := (hR0.mono hle).at' (u.length + 1) (by omega)
  rw [← hxs, quoted_at s hsz] at hA
  have hlt : ((u.length + 1 : Nat) : Int) < (xs.length : Int) := by omega
  repeat (first | refine Run.seq ?_)
  refine Run.regionQ (D := [some 20, some 21, some 22, some 23, some 24, some 25, some 26, some 27, some 28, some 29]) [true, true, true, true, true, true, true, true, true, true] (bl 10 1023) (by kernel_rfl) (by kernel_rfl) (by kernel_rfl) (by kernel_rfl) rfl (fun Z hZ => ?_)
  refine QD.ev T (by decide) rfl rfl ?_
  refine QD.ev T (by decide) rfl rfl ?_
  refine QD.ev T (by decide) rfl rfl ?_
  first | refine QD.yv (by decide) rfl (Yv.load 0 T rfl rfl rfl rfl) ?_ | refine QD.yv (by decide) rfl (Yv.load 1 T rfl rfl rfl rfl) ?_ | refine QD.yv (by decide) rfl (Yv.load 2 T rfl rfl rfl rfl) ?_
  refine QD.ev T (by decide) rfl rfl ?_
  refine QD.ev T (by decide) rfl rfl ?_
  refine QD.ev T (by decide) rfl rfl ?_
  first | refine QD.yv (by decide) rfl (Yv.load 0 T rfl rfl rfl rfl) ?_ | refine QD.yv (by decide) rfl (Yv.load 1 T rfl rfl rfl rfl) ?_ | refine QD.yv (by decide) rfl (Yv.load 2 T rfl rfl rfl rfl) ?_
  refine QD.ev T (by decide) rfl rfl ?_
  refine QD.e (Ev.lss rfl rfl) (by decide) rfl ?_
  refine QD.nil (hZ _ ?_)
  clear hZ Z
  rw [decide_eq_true hlt]
  repeat (first | refine Run.seq ?_ | refine Run.skip ?_ | refine Run.block ?_ | refine Run.cond_t rfl ?_)
  cases z with
  | nil =>
    rw [List.append_nil] at hsz
    subst hsz
    have hA2 : At J db (off + ((s.length + 1 : Nat) : Int).toNat * 1) [.int .u8 34] := hA
    refine Run.regionQ (D := [some 30, some 31, some 32, some 33, some 34, some 35, some 36, some 37, some 38, some 39, some 5]) [true, true, true, true, true, true, true, true, true, true, true] (bl 11 2047) (by kernel_rfl) (by kernel_rfl) (by kernel_rfl) (by kernel_rfl) rfl (fun Z hZ => ?_)
    refine QD.ev T (by decide) rfl rfl ?_
    refine QD.ev T (by decide) rfl rfl ?_
    refine QD.ev T (by decide) rfl rfl ?_
    first | refine QD.yv (by decide) rfl (Yv.load 0 T rfl rfl rfl rfl) ?_ | refine QD.yv (by decide) rfl (Yv.load 1 T rfl rfl rfl rfl) ?_ | refine QD.yv (by decide) rfl (Yv.load 2 T rfl rfl rfl rfl) ?_ | refine QD.yv (by decide) rfl (Yv.loadI T hA2 rfl rfl) ?_
    refine QD.ev T (by decide) rfl rfl ?_
    refine QD.ev T (by decide) rfl rfl ?_
    refine QD.ev T (by decide) rfl rfl ?_
    first | refine QD.yv (by decide) rfl (Yv.load 0 T rfl rfl rfl rfl) ?_ | refine QD.yv (by decide) rfl (Yv.load 1 T rfl rfl rfl rfl) ?_ | refine QD.yv (by decide) rfl (Yv.load 2 T rfl rfl rfl rfl) ?_ | refine QD.yv (by decide) rfl (Yv.loadI T hA2 rfl rfl) ?_
    refine QD.e (Ev.indexS T rfl rfl rfl rfl (by first | omega | (simp only [List.length_cons, List.length_nil] ; omega) | (simp; omega)) (by first | omega | (simp only [List.length_cons, List.length_nil] ; omega) | (simp; omega))) (by decide) rfl ?_
    first | refine QD.yv (by decide) rfl (Yv.load 0 T rfl rfl rfl rfl) ?_ | refine QD.yv (by decide) rfl (Yv.load 1 T rfl rfl rfl rfl) ?_ | refine QD.yv (by decide) rfl (Yv.load 2 T rfl rfl rfl rfl) ?_ | refine QD.yv (by decide) rfl (Yv.loadI T hA2 rfl rfl) ?_
    refine QD.ev T (by decide) rfl rfl ?_
    refine QD.nil (hZ _ ?_)
    clear hZ Z
    repeat (first | refine Run.seq ?_ | refine Run.block ?_)
    refine Run.regionO (D := [some 41, some 42, some 40]) [true, true, true] rfl rfl rfl (fun Z hZ => ?_)
    refine QD.ev T (by decide) rfl rfl ?_
    refine QD.e (Ev.eqlI rfl rfl) (by decide) rfl ?_
    refine QD.ev T (by decide) rfl rfl ?_
    refine QD.nil (hZ _ ?_)
    clear hZ Z
    repeat (first | refine Run.seq ?_ | refine Run.cond_t rfl ?_)
    refine Run.regionP (D := [some 43, some 44, some 45, some 46, some 47, some 48, some 49, none]) [true, true, true, true, true, true, true] 7 rfl rfl rfl (by simp only [List.drop_succ_cons, List.drop_zero]; rfl) (fun Z hZ => ?_)
    refine QD.ev T (by decide) rfl rfl ?_
    refine QD.ev T (by decide) rfl rfl ?_
    refine QD.ev T (by decide) rfl rfl ?_
    first | refine QD.yv (by decide) rfl (Yv.load 0 T rfl rfl rfl rfl) ?_ | refine QD.yv (by decide) rfl (Yv.load 1 T rfl rfl rfl rfl) ?_ | refine QD.yv (by decide) rfl (Yv.load 2 T rfl rfl rfl rfl) ?_
    refine QD.e (Ev.addI rfl rfl (wI (by first | omega | (simp only [List.length_cons, List.length_nil] ; omega) | (simp; omega)) (by first | omega | (simp only [List.length_cons, List.length_nil] ; omega) | (simp; omega)))) (by decide) rfl ?_
    refine QD.ev T (by decide) rfl rfl ?_
    refine QD.ev T (by decide) rfl rfl ?_
    refine QD.nil (hZ _ ?_)
    clear hZ Z
    first | refine Ops.store 0 rfl rfl rfl rfl rfl (T.sizeOk rfl) rfl (Nat.le_of_ble_eq_true rfl) rfl rfl ?_ | refine Ops.store 1 rfl rfl rfl rfl rfl (T.sizeOk rfl) rfl (Nat.le_of_ble_eq_true rfl) rfl rfl ?_ | refine Ops.store 2 rfl rfl rfl rfl rfl (T.sizeOk rfl) rfl (Nat.le_of_ble_eq_true rfl) rfl rfl ?_
    refine Ops.nil ?_
    repeat (first | refine Run.seq ?_)
    refine Run.regionO (D := [some 50, some 51, some 2, some 3]) [true, true, true, true] rfl rfl rfl (fun Z hZ => ?_)
    refine QD.ev T (by decide) rfl rfl ?_
    refine QD.yv (by decide) rfl (Yv.bytesBuf T hB2 (fun x hx => List.mem_cons_of_mem _ hx) rfl rfl rfl rfl) ?_
    refine QD.ev T (by decide) rfl rfl ?_
    refine QD.ev T (by decide) rfl rfl ?_
    refine QD.nil (hZ _ ?_)
    clear hZ Z
    skip
    refine Run.dropL (L' := [(r, rdr (.slice (some ⟨db, off, none⟩) xs.length c) (s.length + 2) d)]) (List.Sublist.cons_cons _ (List.nil_sublist _)) ?_
    refine Run.ret2 (by rw [hCf]; exact Proofs.Tryd.func50) Proofs.Tryd.results50 rfl rfl (hR _ _ _ ?_)
    exact ⟨rfl, rfl⟩
  | cons e z =>
    have hc := plB_of (hp e (by rw [hsz]; simp))
    obtain ⟨p1, p2, p3, p4, p5, p6, p7⟩ := hc
    have hA2 : At J db (off + ((u.length + 1 : Nat) : Int).toNat * 1) [.int .u8 (e.toNat : Int)] := hA
    have ne : ∀ n : Int, (e.toNat : Int) ≠ n → decide ((e.toNat : Int) = n) = false := fun n h => decide_eq_false h
    refine Run.regionQ (D := [some 30, some 31, some 32, some 33, some 34, some 35, some 36, some 37, some 38, some 39, some 5]) [true, true, true, true, true, true, true, true, true, true, true] (bl 11 2047) (by kernel_rfl) (by kernel_rfl) (by kernel_rfl) (by kernel_rfl) rfl (fun Z hZ => ?_)
    refine QD.ev T (by decide) rfl rfl ?_
    refine QD.ev T (by decide) rfl rfl ?_
    refine QD.ev T (by decide) rfl rfl ?_
    first | refine QD.yv (by decide) rfl (Yv.load 0 T rfl rfl rfl rfl) ?_ | refine QD.yv (by decide) rfl (Yv.load 1 T rfl rfl rfl rfl) ?_ | refine QD.yv (by decide) rfl (Yv.load 2 T rfl rfl rfl rfl) ?_ | refine QD.yv (by decide) rfl (Yv.loadI T hA2 rfl rfl) ?_
    refine QD.ev T (by decide) rfl rfl ?_
    refine QD.ev T (by decide) rfl rfl ?_
    refine QD.ev T (by decide) rfl rfl ?_
    first | refine QD.yv (by decide) rfl (Yv.load 0 T rfl rfl rfl rfl) ?_ | refine QD.yv (by decide) rfl (Yv.load 1 T rfl rfl rfl rfl) ?_ | refine QD.yv (by decide) rfl (Yv.load 2 T rfl rfl rfl rfl) ?_ | refine QD.yv (by decide) rfl (Yv.loadI T hA2 rfl rfl) ?_
    refine QD.e (Ev.indexS T rfl rfl rfl rfl (by first | omega | (simp only [List.length_cons, List.length_nil] ; omega) | (simp; omega)) (by first | omega | (simp only [List.length_cons, List.length_nil] ; omega) | (simp; omega))) (by decide) rfl ?_
    first | refine QD.yv (by decide) rfl (Yv.load 0 T rfl rfl rfl rfl) ?_ | refine QD.yv (by decide) rfl (Yv.load 1 T rfl rfl rfl rfl) ?_ | refine QD.yv (by decide) rfl (Yv.load 2 T rfl rfl rfl rfl) ?_ | refine QD.yv (by decide) rfl (Yv.loadI T hA2 rfl rfl) ?_
    refine QD.ev T (by decide) rfl rfl ?_
    refine QD.nil (hZ _ ?_)
    clear hZ Z
    repeat (first | refine Run.seq ?_ | refine Run.block ?_)
    refine Run.regionO (D := [some 41, some 42, some 40]) [true, true, true] rfl rfl rfl (fun Z hZ => ?_)
    refine QD.ev T (by decide) rfl rfl ?_
    refine QD.e (Ev.eqlI rfl rfl) (by decide) rfl ?_
    refine QD.ev T (by decide) rfl rfl ?_
    refine QD.nil (hZ _ ?_)
    clear hZ Z
    rw [ne 34 (by omega)]
    repeat (first | refine Run.seq ?_ | refine Run.cond_f rfl ?_)
    refine Run.regionO (D := [some 53, some 54, some 52]) [true, true, true] rfl rfl rfl (fun Z hZ => ?_)
    refine QD.ev T (by decide) rfl rfl ?_
    refine QD.e (Ev.lss rfl rfl) (by decide) rfl ?_
    refine QD.ev T (by decide) rfl rfl ?_
    refine QD.nil (hZ _ ?_)
    clear hZ Z
    rw [show decide ((e.toNat : Int) < 32) = false from decide_eq_false (by omega)]
    repeat (first | refine Run.seq ?_ | refine Run.cond_f rfl ?_)
    refine Run.regionO (D := [some 56, some 57, some 55]) [true, true, true] rfl rfl rfl (fun Z hZ => ?_)
    refine QD.ev T (by decide) rfl rfl ?_
    refine QD.e (Ev.neqI rfl rfl) (by decide) rfl ?_
    refine QD.ev T (by decide) rfl rfl ?_
    refine QD.nil (hZ _ ?_)
    clear hZ Z
    rw [ne 92 (by omega)]
    repeat (first | refine Run.seq ?_ | refine Run.cond_t rfl ?_)
    refine Run.regionQ (D := [some 59, some 60, some 61, some 62, some 63, some 64, some 65, some 66, some 67, some 68, some 58, some 69, some 70, some 6, some 7]) [true, true, true, true, true, true, true, true, true, true, true, true, true, true, true] (bl 15 32767) (by kernel_rfl) (by kernel_rfl) (by kernel_rfl) (by kernel_rfl) rfl (fun Z hZ => ?_)
    refine QD.ev T (by decide) rfl rfl ?_
    refine QD.ev T (by decide) rfl rfl ?_
    refine QD.ev T (by decide) rfl rfl ?_
    first | refine QD.yv (by decide) rfl (Yv.load 0 T rfl rfl rfl rfl) ?_ | refine QD.yv (by decide) rfl (Yv.load 1 T rfl rfl rfl rfl) ?_ | refine QD.yv (by decide) rfl (Yv.load 2 T rfl rfl rfl rfl) ?_
    refine QD.ev T (by decide) rfl rfl ?_
    refine QD.ev T (by decide) rfl rfl ?_
    refine QD.ev T (by decide) rfl rfl ?_
    first | refine QD.yv (by decide) rfl (Yv.load 0 T rfl rfl rfl rfl) ?_ | refine QD.yv (by decide) rfl (Yv.load 1 T rfl rfl rfl rfl) ?_ | refine QD.yv (by decide) rfl (Yv.load 2 T rfl rfl rfl rfl) ?_
    refine QD.e ((Ev.sliceLo (j := u.length + 1) T rfl rfl rfl rfl (by omega) (by omega)).as (show _ = Value.slice (some ⟨db, off + (u.length + 1) * 1, none⟩) (xs.length - (u.length + 1)) (c - (u.length + 1)) from by rw [if_neg (by omega)]; rfl)) (by decide) rfl ?_
    refine QD.call (utf8_DecodeB J db (off + (u.length + 1) * 1) _ _ e (by simpa using hA2) (by omega) (by omega) p2) (by decide) rfl Proofs.Tryd.call55 rfl ?_
    refine QD.ev T (by decide) rfl rfl ?_
    refine QD.ev T (by decide) rfl rfl ?_
    refine QD.ev T (by decide) rfl rfl ?_
    refine QD.ev T (by decide) rfl rfl ?_
    refine QD.ev T (by decide) rfl rfl ?_
    refine QD.nil (hZ _ ?_)
    clear hZ Z
    repeat (first | refine Run.seq ?_)
    refine Run.regionP (D := [some 71, some 72, some 73, some 74, some 75, some 76, some 77, some 78, none]) [true, true, true, true, true, true, true, true] 8 rfl rfl rfl (by simp only [List.drop_succ_cons, List.drop_zero]; rfl) (fun Z hZ => ?_)
    refine QD.ev T (by decide) rfl rfl ?_
    refine QD.ev T (by decide) rfl rfl ?_
    refine QD.ev T (by decide) rfl rfl ?_
    first | refine QD.yv (by decide) rfl (Yv.load 0 T rfl rfl rfl rfl) ?_ | refine QD.yv (by decide) rfl (Yv.load 1 T rfl rfl rfl rfl) ?_ | refine QD.yv (by decide) rfl (Yv.load 2 T rfl rfl rfl rfl) ?_
    refine QD.ev T (by decide) rfl rfl ?_
    refine QD.e (Ev.addI rfl rfl (wI (by first | omega | (simp only [List.length_cons, List.length_nil] ; omega) | (simp; omega)) (by first | omega | (simp only [List.length_cons, List.length_nil] ; omega) | (simp; omega)))) (by decide) rfl ?_
    refine QD.ev T (by decide) rfl rfl ?_
    refine QD.ev T (by decide) rfl rfl ?_
    refine QD.nil (hZ _ ?_)
    clear hZ Z
    first | refine Ops.store 0 rfl rfl rfl rfl rfl (T.sizeOk rfl) rfl (Nat.le_of_ble_eq_true rfl) rfl rfl ?_ | refine Ops.store 1 rfl rfl rfl rfl rfl (T.sizeOk rfl) rfl (Nat.le_of_ble_eq_true rfl) rfl rfl ?_ | refine Ops.store 2 rfl rfl rfl rfl rfl (T.sizeOk rfl) rfl (Nat.le_of_ble_eq_true rfl) rfl rfl ?_
    refine Ops.nil ?_
    repeat (first | refine Run.seq ?_)
    refine Run.regionP (D := [some 79, some 80, some 81, some 4]) [true, true] 2 rfl rfl rfl (by simp only [List.drop_succ_cons, List.drop_zero]; rfl) (fun Z hZ => ?_)
    refine QD.ev T (by decide) rfl rfl ?_
    refine QD.ev T (by decide) rfl rfl ?_
    refine QD.nil (hZ _ ?_)
    clear hZ Z
    refine Ops.callP (N := [_]) ((utf8_AppendA J v2 u e M2 hB2 (by simp at hul; omega) p2)) (.refl _) rfl (by decide) Proofs.Tryd.call56 rfl ?_
    rintro w J3 M3 l3 hB3
    refine Ops.pure T rfl (by decide) rfl ?_
    refine Ops.nil ?_
    repeat (first | refine Run.exit rfl ?_)
    refine Run.keep [0, 4] [_, _] rfl ?_
    exact ih z.length _ _ _ (by simp) ⟨u ++ [e], z, _, M3, rfl, by rw [hsz]; simp, hB3, rfl, by rw [List.length_append]; rfl, hle.trans l3⟩
end Go.V
/-
  A JSON text's value.
-/
namespace Go.V
open Go.RowKit
set_option linter.unusedVariables false
set_option linter.unusedSimpArgs false
set_option maxRecDepth 10000
/-- a struct in variable t, and another result; other blocks are handed back -/
theorem Run.retCTK {P : Program} {n : Nat} {C : Cx} {env : Env} {I : Imm} {L : Own} (T : Tab P) (j : Nat) {fn : Func} {t u b m : Nat} {x : Value} {vs cs : List Value} {rt t' : TypeId} {todo : List Item} {L' : Own} (hfn : P.funcs[C.f]? = some fn) (hres : fn.results = #[.cell t rt, .tmp u]) (hp : look env t = some (.pointer (some ⟨b, 0, none⟩)))
    (hL : L[j]? = some (b, blk cs t')) (ha : T.agg rt = some true) (hs : T.size rt = some m) (hv : (cs.drop 0).take m = vs) (hm : vs.length = m) (hu : look env u = some x) (hsub : L'.Sublist L) (h : C.R (.tuple #[.agg vs.toArray, x]) I L') : Run P n C (.code .ret :: todo) env L I := by
  intro bb a cs' W hb hk he hi
  have hr : (results fn a.tmps).run P W = .ok (.tuple #[.agg vs.toArray, x]) W := by
    have h1 := run_cellN T hi hL ha hs hv hm
    have hp' : a.tmps.getD t undef = .pointer (some ⟨b, 0, none⟩) := he.getD hp
    rw [results_cell_tmp hres, hp', he.getD hu]
    simp [asAddr, h1]
  exact ⟨.returned (.tuple #[.agg vs.toArray, x]), W, _, ⟨_, I, L', rfl, h, hi.weakenL hsub⟩, Steps.one step_ret, hb, rfl, he.defers, hk, fn, by simpa [Frame.at, hb] using hfn, hr⟩
attribute [local irreducible] Run Ops QD
abbrev valC (s : Tx) : List Value := [.int .u8 34, .bool true, str s, .slice none 0 0, .slice none 0 0]
set_option maxHeartbeats 2000000 in
theorem reader_value (I : Imm) (s : Tx) (v : Value) (db off c r d : Nat) (hR0 : Rd I v ([34] ++ s ++ [34]) db off c) (hs : s.length ≤ 1099511627000) (hp : plT s) :
    Spec Proofs.Tryd.prog 42 [.pointer (some ⟨r, 0, none⟩)] I [(r, rdr v 0 d)] fun w J M => w = .tuple #[.agg (valC s).toArray, .bool true] ∧ M = [(r, rdr v (s.length + 2) d)] := by
  have hlen : ([34] ++ s ++ [34] : Tx).length = s.length + 2 := by simp
  have hne : ∀ i, i < s.length + 2 → (([34] ++ s ++ [34] : Tx).getD i 0).toNat ≠ 92 := by
    intro i hi
    have hm : ([34] ++ s ++ [34] : Tx).getD i 0 ∈ ([34] ++ s ++ [34] : Tx) := by
      rw [List.getD_eq_getElem?_getD, List.getElem?_eq_getElem (by omega)]; exact List.getElem_mem _
    generalize ([34] ++ s ++ [34] : Tx).getD i 0 = b at hm
    simp only [List.mem_append, List.mem_singleton] at hm
    rcases hm with (rfl | hm) | rfl
    · decide
    · exact (plB_of (hp b hm)).2.2.2.1
    · decide
  refine Spec.enter 107 [(0, _)] Proofs.Tryd.func42 rfl Proofs.Tryd.ntmps42 (by simp) rfl ?_
  intro C hCf hR hCI
  repeat (first | refine Run.seq ?_)
  refine Run.region ?_
  refine Ops.alloc rfl (by decide) (T.zeroOk rfl) rfl (fun b2 => ?_)
  refine Ops.pure T rfl (by decide) rfl ?_
  refine Ops.nil ?_
  repeat (first | refine Run.seq ?_)
  refine Run.regionP (D := [some 8, some 9]) [true] 1 rfl rfl rfl (by simp only [List.drop_succ_cons, List.drop_zero]; rfl) (fun Z hZ => ?_)
  refine QD.ev T (by decide) rfl rfl ?_
  refine QD.nil (hZ _ ?_)
  clear hZ Z
  refine Ops.callP (N := [_]) ((reader_blankQ I _ v db off c r 0 d hR0 (by omega) rfl)) (.refl _) rfl (by decide) Proofs.Tryd.call43 rfl ?_
  rintro w J1 M1 l1 ⟨rfl, rfl⟩
  refine Ops.nil ?_
  repeat (first | refine Run.seq ?_)
  have hcap := hR0.cap
  have hA0 := hR0.at' 0 (by omega)
  have hA1 : At J1 db (off + ((0 : Nat) : Int).toNat * 1) [.int .u8 34] := hA0
  have hbt := reader_text J1 s v db off c r d hR0 hs hp
  obtain rfl := hR0.eq
  refine Run.regionQ (D := [some 10, some 11, some 12, some 13, some 14, some 15, some 16, some 17, some 18, some 19]) [true, true, true, true, true, true, true, true, true, true] (bl 10 1023) (by kernel_rfl) (by kernel_rfl) (by kernel_rfl) (by kernel_rfl) rfl (fun Z hZ => ?_)
  refine QD.ev T (by decide) rfl rfl ?_
  refine QD.ev T (by decide) rfl rfl ?_
  refine QD.ev T (by decide) rfl rfl ?_
  first | refine QD.yv (by decide) rfl (Yv.load 0 T rfl rfl rfl rfl) ?_ | refine QD.yv (by decide) rfl (Yv.load 1 T rfl rfl rfl rfl) ?_ | refine QD.yv (by decide) rfl (Yv.load 2 T rfl rfl rfl rfl) ?_
  refine QD.ev T (by decide) rfl rfl ?_
  refine QD.ev T (by decide) rfl rfl ?_
  refine QD.ev T (by decide) rfl rfl ?_
  first | refine QD.yv (by decide) rfl (Yv.load 0 T rfl rfl rfl rfl) ?_ | refine QD.yv (by decide) rfl (Yv.load 1 T rfl rfl rfl rfl) ?_ | refine QD.yv (by decide) rfl (Yv.load 2 T rfl rfl rfl rfl) ?_
  refine QD.ev T (by decide) rfl rfl ?_
  refine QD.e ((Ev.geq rfl rfl).as (show _ = Value.bool false from congrArg Value.bool (decide_eq_false (by rw [hlen]; omega)))) (by decide) rfl ?_
  refine QD.nil (hZ _ ?_)
  clear hZ Z
  repeat (first | refine Run.seq ?_ | refine Run.skip ?_ | refine Run.cond_f rfl ?_)
  refine Run.regionQ (D := [some 21, some 22, some 23, some 24, some 25, some 26, some 27, some 28, some 29, some 30, some 4]) [true, true, true, true, true, true, true, true, true, true, true] (bl 11 2047) (by kernel_rfl) (by kernel_rfl) (by kernel_rfl) (by kernel_rfl) rfl (fun Z hZ => ?_)
  refine QD.ev T (by decide) rfl rfl ?_
  refine QD.ev T (by decide) rfl rfl ?_
  refine QD.ev T (by decide) rfl rfl ?_
  first | refine QD.yv (by decide) rfl (Yv.load 0 T rfl rfl rfl rfl) ?_ | refine QD.yv (by decide) rfl (Yv.load 1 T rfl rfl rfl rfl) ?_ | refine QD.yv (by decide) rfl (Yv.load 2 T rfl rfl rfl rfl) ?_ | refine QD.yv (by decide) rfl (Yv.loadI T hA1 rfl rfl) ?_
  refine QD.ev T (by decide) rfl rfl ?_
  refine QD.ev T (by decide) rfl rfl ?_
  refine QD.ev T (by decide) rfl rfl ?_
  first | refine QD.yv (by decide) rfl (Yv.load 0 T rfl rfl rfl rfl) ?_ | refine QD.yv (by decide) rfl (Yv.load 1 T rfl rfl rfl rfl) ?_ | refine QD.yv (by decide) rfl (Yv.load 2 T rfl rfl rfl rfl) ?_ | refine QD.yv (by decide) rfl (Yv.loadI T hA1 rfl rfl) ?_
  refine QD.e (Ev.indexS T rfl rfl rfl rfl (by first | omega | (simp only [List.length_cons, List.length_nil] ; omega) | (simp; omega)) (by first | omega | (simp only [List.length_cons, List.length_nil] ; omega) | (simp; omega))) (by decide) rfl ?_
  first | refine QD.yv (by decide) rfl (Yv.load 0 T rfl rfl rfl rfl) ?_ | refine QD.yv (by decide) rfl (Yv.load 1 T rfl rfl rfl rfl) ?_ | refine QD.yv (by decide) rfl (Yv.load 2 T rfl rfl rfl rfl) ?_ | refine QD.yv (by decide) rfl (Yv.loadI T hA1 rfl rfl) ?_
  refine QD.ev T (by decide) rfl rfl ?_
  refine QD.nil (hZ _ ?_)
  clear hZ Z
  repeat (first | refine Run.seq ?_)
  repeat (first | refine Run.seq ?_ | refine Run.region ?_ | refine Ops.nil ?_ | refine Run.block ?_ | refine Run.cond_t rfl ?_ | refine Run.cond_f rfl ?_ | refine Ops.eql rfl (by decide) rfl rfl ?_ | refine Ops.pure T rfl (by decide) rfl ?_ | refine Ops.load 1 rfl (by decide) rfl rfl (T.aggOk rfl) rfl ?_ | refine Ops.store 0 rfl rfl rfl rfl rfl (T.sizeOk rfl) rfl (Nat.le_of_ble_eq_true rfl) rfl rfl ?_)
  refine Ops.callP (N := [_]) (hbt) (.refl _) rfl (by decide) Proofs.Tryd.call50 rfl ?_
  rintro w2 J2 M2 l2 ⟨rfl, rfl⟩
  repeat (first | refine Run.seq ?_ | refine Ops.nil ?_ | refine Ops.pure T rfl (by decide) rfl ?_ | refine Ops.store 0 rfl rfl rfl rfl rfl (T.sizeOk rfl) rfl (Nat.le_of_ble_eq_true rfl) rfl rfl ?_)
  refine Run.regionQ (D := [some 58, some 59, some 60, some 61, some 62, some 63, some 64, some 65, some 66, some 67, some 68, some 69]) [true, true, true, true, true, true, true, true, true, true, true, true] (bl 12 4095) (by kernel_rfl) (by kernel_rfl) (by kernel_rfl) (by kernel_rfl) rfl (fun Z hZ => ?_)
  refine QD.ev T (by decide) rfl rfl ?_
  refine QD.ev T (by decide) rfl rfl ?_
  refine QD.ev T (by decide) rfl rfl ?_
  first | refine QD.yv (by decide) rfl (Yv.load 0 T rfl rfl rfl rfl) ?_ | refine QD.yv (by decide) rfl (Yv.load 1 T rfl rfl rfl rfl) ?_ | refine QD.yv (by decide) rfl (Yv.load 2 T rfl rfl rfl rfl) ?_
  refine QD.ev T (by decide) rfl rfl ?_
  refine QD.ev T (by decide) rfl rfl ?_
  refine QD.ev T (by decide) rfl rfl ?_
  refine QD.ev T (by decide) rfl rfl ?_
  first | refine QD.yv (by decide) rfl (Yv.load 0 T rfl rfl rfl rfl) ?_ | refine QD.yv (by decide) rfl (Yv.load 1 T rfl rfl rfl rfl) ?_ | refine QD.yv (by decide) rfl (Yv.load 2 T rfl rfl rfl rfl) ?_
  refine QD.e (Ev.slice0H (q := s.length + 2) T rfl rfl rfl rfl rfl rfl (by omega)) (by decide) rfl ?_
  refine QD.ev T (by decide) rfl rfl ?_
  refine QD.ev T (by decide) rfl rfl ?_
  refine QD.nil (hZ _ ?_)
  clear hZ Z
  repeat (first | refine Run.block ?_)
  refine Run.keep [0, 2, 3, 67, 68, 69] [_, _, _, _, _, _] rfl ?_
  refine Run.rounds (fun m env L J => ∃ i : Nat, m = (s.length + 2) - i ∧ i ≤ s.length + 2 ∧
    env = [(0, .pointer (some ⟨r, 0, none⟩)), (2, .pointer (some ⟨b2, 0, none⟩)), (3, .bool true), (67, .slice (some ⟨db, off, none⟩) (s.length + 2) c), (68, .int .i64 ((s.length + 2 : Nat) : Int)), (69, .int .i64 (i : Int))] ∧
    L = [(b2, blk (valC s) 106), (r, rdr (.slice (some ⟨db, off, none⟩) ([34] ++ s ++ [34] : Tx).length c) (s.length + 2) d)] ∧ Le J1 J) (s.length + 2) ⟨0, by omega, by omega, rfl, rfl, l2⟩ ?_
  rintro m env L J ⟨i, rfl, hi, rfl, rfl, hle⟩ ih
  repeat (first | refine Run.seq ?_)
  refine Run.regionO (D := [some 70]) [true] rfl rfl rfl (fun Z hZ => ?_)
  refine QD.e (Ev.lss rfl rfl) (by decide) rfl ?_
  refine QD.nil (hZ _ ?_)
  clear hZ Z
  by_cases hlt : i < s.length + 2
  · rw [decide_eq_true (show ((i : Nat) : Int) < ((s.length + 2 : Nat) : Int) by omega)]
    have hA := (hR0.mono hle).at' i (by omega)
    have hn := hne i hlt
    generalize ([34] ++ s ++ [34] : Tx).getD i 0 = b at hA hn
    repeat (first | refine Run.seq ?_ | refine Run.skip ?_ | refine Run.block ?_ | refine Run.cond_t rfl ?_)
    refine Run.regionO (D := [some 71, some 72, some 7]) [true, true, true] rfl rfl rfl (fun Z hZ => ?_)
    refine QD.e (Ev.indexS T rfl rfl rfl rfl (by first | omega | (simp only [List.length_cons, List.length_nil] ; omega) | (simp; omega)) (by first | omega | (simp only [List.length_cons, List.length_nil] ; omega) | (simp; omega))) (by decide) rfl ?_
    first | refine QD.yv (by decide) rfl (Yv.load 0 T rfl rfl rfl rfl) ?_ | refine QD.yv (by decide) rfl (Yv.load 1 T rfl rfl rfl rfl) ?_ | refine QD.yv (by decide) rfl (Yv.load 2 T rfl rfl rfl rfl) ?_ | refine QD.yv (by decide) rfl (Yv.loadI T hA rfl rfl) ?_
    refine QD.ev T (by decide) rfl rfl ?_
    refine QD.nil (hZ _ ?_)
    clear hZ Z
    skip
    repeat (first | refine Run.region ?_ | refine Ops.nil ?_ | refine Run.inBlock ?_ | refine Ops.add rfl (by decide) rfl rfl (wI (by first | omega | (simp only [List.length_cons, List.length_nil] ; omega) | (simp; omega)) (by first | omega | (simp only [List.length_cons, List.length_nil] ; omega) | (simp; omega))) ?_ | refine Ops.neq rfl (by decide) rfl rfl ?_ | refine Ops.pure T rfl (by decide) rfl ?_ | refine Ops.load 0 rfl (by decide) rfl rfl (T.aggOk rfl) rfl ?_ | refine Ops.store 0 rfl rfl rfl rfl rfl (T.sizeOk rfl) rfl (Nat.le_of_ble_eq_true rfl) rfl rfl ?_)
    rw [decide_eq_false (show ¬ (b.toNat : Int) = 92 by omega)]
    skip
    refine Run.keep [0, 2, 3, 67, 68, 69] [_, _, _, _, _, _] rfl ?_
    exact ih ((s.length + 2) - (i + 1)) _ _ _ (by omega) ⟨i + 1, rfl, by omega, rfl, rfl, hle⟩
  · rw [decide_eq_false (show ¬ ((i : Nat) : Int) < ((s.length + 2 : Nat) : Int) by omega)]
    repeat (first | refine Run.seq ?_ | refine Run.exit rfl ?_ | refine Run.cond_f rfl ?_)
    repeat (first | refine Run.region ?_ | refine Ops.nil ?_ | refine Ops.pure T rfl (by decide) rfl ?_ | refine Ops.loadN 0 rfl (by decide) rfl rfl (T.aggOk rfl) (T.sizeOk rfl) rfl rfl ?_ | refine Ops.store 0 rfl rfl rfl rfl rfl (T.sizeOk rfl) rfl (Nat.le_of_ble_eq_true rfl) rfl rfl ?_)
    refine Run.retCTK T 0 (by rw [hCf]; exact Proofs.Tryd.func42) Proofs.Tryd.results42 rfl rfl rfl rfl rfl rfl rfl (List.sublist_cons_self _ _) (hR _ _ _ ?_)
    exact ⟨rfl, rfl⟩
end Go.V
/-
  A hash read from JSON.
-/
namespace Go.V
open Go.RowKit
set_option linter.unusedVariables false
set_option linter.unusedSimpArgs false
set_option maxRecDepth 10000
attribute [local irreducible] Run Ops QD
abbrev strO (s : Tx) : Obj := blk [str s] 9
theorem Value_Str (I : Imm) (s old : Tx) (x : Nat) : Spec Proofs.Tryd.prog 85 [.agg (valC s).toArray, .pointer (some ⟨x, 0, none⟩)] I [(x, strO old)] fun w J M => w = .bool true ∧ M = [(x, strO s)] := by
  refine Spec.enter 20 [(0, _), (1, _)] Proofs.Tryd.func85 rfl Proofs.Tryd.ntmps85 (by simp) rfl ?_
  intro C hCf hR hCI
  repeat (first | refine Run.seq ?_)
  refine Run.region ?_
  refine Ops.box rfl (by decide) rfl rfl (fun b3 => ?_)
  refine Ops.pure T rfl (by decide) rfl ?_
  refine Ops.nil ?_
  repeat (first | refine Run.seq ?_)
  repeat (first | refine Run.seq ?_ | refine Run.region ?_ | refine Ops.nil ?_ | refine Run.cond_t rfl ?_ | refine Ops.not rfl (by decide) ?_ | refine Ops.eql rfl (by decide) rfl rfl ?_ | refine Ops.pure T rfl (by decide) rfl ?_ | refine Ops.load 0 rfl (by decide) rfl rfl (T.aggOk rfl) rfl ?_ | refine Ops.store 1 rfl rfl rfl rfl rfl (T.sizeOk rfl) rfl (Nat.le_of_ble_eq_true rfl) rfl rfl ?_)
  refine Run.dropL (L' := [(x, strO s)]) (List.sublist_cons_self _ _) ?_
  refine Run.ret1 (by rw [hCf]; exact Proofs.Tryd.func85) Proofs.Tryd.results85 rfl (hR _ _ _ ?_)
  exact ⟨rfl, rfl⟩
theorem Text_ZzTake (I : Imm) (s old : Tx) (x : Nat) : Spec Proofs.Tryd.prog 86 [.pointer (some ⟨x, 0, none⟩), .agg (valC s).toArray] I [(x, strO old)] fun w J M => w = .bool true ∧ M = [(x, strO s)] := by
  refine Spec.enter 8 [(0, _), (1, _)] Proofs.Tryd.func86 rfl Proofs.Tryd.ntmps86 (by simp) rfl ?_
  intro C hCf hR hCI
  repeat (first | refine Run.seq ?_)
  refine Run.region ?_
  refine Ops.box rfl (by decide) rfl rfl (fun b3 => ?_)
  refine Ops.pure T rfl (by decide) rfl ?_
  refine Ops.nil ?_
  repeat (first | refine Run.seq ?_)
  refine Run.regionP (D := [some 5, some 6, some 7, some 4]) [true, true] 2 rfl rfl rfl (by simp only [List.drop_succ_cons, List.drop_zero]; rfl) (fun Z hZ => ?_)
  first | refine QD.yv (by decide) rfl (Yv.loadN 0 T rfl rfl rfl rfl rfl rfl) ?_ | refine QD.yv (by decide) rfl (Yv.loadN 1 T rfl rfl rfl rfl rfl rfl) ?_ | refine QD.yv (by decide) rfl (Yv.loadN 2 T rfl rfl rfl rfl rfl rfl) ?_
  refine QD.ev T (by decide) rfl rfl ?_
  refine QD.nil (hZ _ ?_)
  clear hZ Z
  refine Ops.callP (N := [_]) ((Value_Str I s old x)) (.refl _) rfl (by decide) Proofs.Tryd.call85 rfl ?_
  rintro w J1 M1 l1 ⟨rfl, rfl⟩
  refine Ops.pure T rfl (by decide) rfl ?_
  refine Ops.nil ?_
  skip
  refine Run.dropL (L' := [(x, strO s)]) (List.sublist_cons_self _ _) ?_
  refine Run.ret1 (by rw [hCf]; exact Proofs.Tryd.func86) Proofs.Tryd.results86 rfl (hR _ _ _ ?_)
  exact ⟨rfl, rfl⟩
theorem meth_ZzTake : ∀ u w, (method (Proofs.Tryd.prog.types.size + Made.depth) 83 u "ZzTake").run Proofs.Tryd.prog w = .ok (86, u) w := by intro u w; kernel_rfl
set_option maxHeartbeats 1000000 in
theorem zz_Unmarshal (I : Imm) (s old : Tx) (v : Value) (db off c x : Nat) (hR0 : Rd I v ([34] ++ s ++ [34]) db off c) (hs : s.length ≤ 1099511627000) (hp : plT s) :
    Spec Proofs.Tryd.prog 34 [v, .iface 83 (.pointer (some ⟨x, 0, none⟩))] I [(x, strO old)] fun w J M => w = .nilIface ∧ M = [(x, strO s)] := by
  have hlen : ([34] ++ s ++ [34] : Tx).length = s.length + 2 := by simp
  have hE : ∀ J r, Le I J → Spec Proofs.Tryd.prog 43 [.pointer (some ⟨r, 0, none⟩)] J [(r, rdr v (s.length + 2) 0)] fun w J' M => M = [(r, rdr v (s.length + 2) 0)] ∧ J' = J := by
    intro J r hle
    have := reader_blankE J _ v db off c r 0 (hR0.mono hle)
    rw [hlen] at this; exact this
  have hV : ∀ r, _ := fun r => reader_value I s v db off c r 0 hR0 hs hp
  obtain rfl := hR0.eq
  rw [hlen] at hE hV ⊢
  refine Spec.enter 38 [(0, _), (1, _)] Proofs.Tryd.func34 rfl Proofs.Tryd.ntmps34 (by simp) rfl ?_
  intro C hCf hR hCI
  repeat (first | refine Run.seq ?_)
  refine Run.regionO (D := [some 4]) [true] rfl rfl rfl (fun Z hZ => ?_)
  refine QD.ev T (by decide) rfl rfl ?_
  refine QD.nil (hZ _ ?_)
  clear hZ Z
  repeat (first | refine Run.seq ?_)
  refine Run.regionP (D := [some 8, some 9, some 10, some 5]) [true] 1 rfl rfl rfl (by simp only [List.drop_succ_cons, List.drop_zero]; rfl) (fun Z hZ => ?_)
  refine QD.ev T (by decide) rfl rfl ?_
  refine QD.nil (hZ _ ?_)
  clear hZ Z
  refine Ops.buildL bd102 rfl (by decide) rfl rfl ?_
  refine Ops.box rfl (by decide) rfl rfl (fun r => ?_)
  refine Ops.pure T rfl (by decide) rfl ?_
  refine Ops.nil ?_
  repeat (first | refine Run.seq ?_)
  refine Run.regionP (D := [some 12, some 13, some 11, some 14, some 15, some 6, none, some 7]) [true] 1 rfl rfl rfl (by simp only [List.drop_succ_cons, List.drop_zero]; rfl) (fun Z hZ => ?_)
  refine QD.ev T (by decide) rfl rfl ?_
  refine QD.nil (hZ _ ?_)
  clear hZ Z
  refine Ops.callP (N := [(x, _)]) (hV r) (List.Perm.swap _ _ _) rfl (by decide) Proofs.Tryd.call42 rfl ?_
  rintro w J1 M1 l1 ⟨rfl, rfl⟩
  refine Ops.pure T rfl (by decide) rfl ?_
  refine Ops.pure T rfl (by decide) rfl ?_
  refine Ops.pure T rfl (by decide) rfl ?_
  refine Ops.alloc rfl (by decide) (T.zeroOk rfl) rfl (fun b6 => ?_)
  first | refine Ops.store 0 rfl rfl rfl rfl rfl (T.sizeOk rfl) rfl (Nat.le_of_ble_eq_true rfl) rfl rfl ?_ | refine Ops.store 1 rfl rfl rfl rfl rfl (T.sizeOk rfl) rfl (Nat.le_of_ble_eq_true rfl) rfl rfl ?_ | refine Ops.store 2 rfl rfl rfl rfl rfl (T.sizeOk rfl) rfl (Nat.le_of_ble_eq_true rfl) rfl rfl ?_
  refine Ops.pure T rfl (by decide) rfl ?_
  refine Ops.nil ?_
  repeat (first | refine Run.seq ?_)
  refine Run.regionP (D := [some 16, some 17]) [true] 1 rfl rfl rfl (by simp only [List.drop_succ_cons, List.drop_zero]; rfl) (fun Z hZ => ?_)
  refine QD.ev T (by decide) rfl rfl ?_
  refine QD.nil (hZ _ ?_)
  clear hZ Z
  refine Ops.callP (N := [_, _]) ((hE J1 r l1)) (.refl _) rfl (by decide) Proofs.Tryd.call43 rfl ?_
  rintro w J2 M2 l2 ⟨rfl, rfl⟩
  refine Ops.nil ?_
  repeat (first | refine Run.seq ?_)
  refine Run.regionQ (D := [some 18, some 19, some 20, some 21, some 22, some 23, some 24, some 25, some 26, some 27, some 28, some 29, some 30, some 31]) [true, true, true, true, true, true, true, true, true, true, true, true, true, true] (bl 14 16383) (by kernel_rfl) (by kernel_rfl) (by kernel_rfl) (by kernel_rfl) rfl (fun Z hZ => ?_)
  refine QD.ev T (by decide) rfl rfl ?_
  refine QD.ev T (by decide) rfl rfl ?_
  refine QD.ev T (by decide) rfl rfl ?_
  first | refine QD.ev T (by decide) rfl rfl ?_ | refine QD.off (by decide) rfl ?_
  first | refine QD.ev T (by decide) rfl rfl ?_ | refine QD.off (by decide) rfl ?_
  first | refine QD.ev T (by decide) rfl rfl ?_ | refine QD.off (by decide) rfl ?_
  first | refine QD.yv (by decide) rfl (Yv.load 0 T rfl rfl rfl rfl) ?_ | refine QD.yv (by decide) rfl (Yv.load 1 T rfl rfl rfl rfl) ?_ | refine QD.yv (by decide) rfl (Yv.load 2 T rfl rfl rfl rfl) ?_ | refine QD.off (by decide) rfl ?_
  first | refine QD.ev T (by decide) rfl rfl ?_ | refine QD.off (by decide) rfl ?_
  first | refine QD.ev T (by decide) rfl rfl ?_ | refine QD.off (by decide) rfl ?_
  first | refine QD.ev T (by decide) rfl rfl ?_ | refine QD.off (by decide) rfl ?_
  first | refine QD.yv (by decide) rfl (Yv.load 0 T rfl rfl rfl rfl) ?_ | refine QD.yv (by decide) rfl (Yv.load 1 T rfl rfl rfl rfl) ?_ | refine QD.yv (by decide) rfl (Yv.load 2 T rfl rfl rfl rfl) ?_ | refine QD.off (by decide) rfl ?_
  first | refine QD.ev T (by decide) rfl rfl ?_ | refine QD.off (by decide) rfl ?_
  refine QD.e ((Ev.lss rfl rfl).as (show _ = Value.bool false from congrArg Value.bool (decide_eq_false (Int.lt_irrefl _)))) (by decide) rfl ?_
  refine QD.ev T (by decide) rfl rfl ?_
  refine QD.nil (hZ _ ?_)
  clear hZ Z
  repeat (first | refine Run.seq ?_ | refine Run.skip ?_ | refine Run.cond_f rfl ?_)
  refine Run.regionP (D := [some 33, some 34, some 35, some 36]) [true, true] 2 rfl rfl rfl (by simp only [List.drop_succ_cons, List.drop_zero]; rfl) (fun Z hZ => ?_)
  refine QD.ev T (by decide) rfl rfl ?_
  first | refine QD.yv (by decide) rfl (Yv.loadN 0 T rfl rfl rfl rfl rfl rfl) ?_ | refine QD.yv (by decide) rfl (Yv.loadN 1 T rfl rfl rfl rfl rfl rfl) ?_ | refine QD.yv (by decide) rfl (Yv.loadN 2 T rfl rfl rfl rfl rfl rfl) ?_
  refine QD.nil (hZ _ ?_)
  clear hZ Z
  refine Ops.eff rfl (dOk (by decide)) (Eff.invokeM (M := [(x, _)]) (N := [(b6, _), (r, _)]) (Text_ZzTake _ s old x) (perm_of_count fun x => by simp only [List.count_append, List.count_cons, List.count_nil, Nat.add_zero, Nat.zero_add] <;> ac_rfl) Proofs.Tryd.call86 rfl (meth_ZzTake _) rfl fun w J3 M' l3 hw => ?_)
  obtain ⟨rfl, rfl⟩ := hw
  refine Ops.pure T rfl (by decide) rfl ?_
  refine Ops.nil ?_
  repeat (first | refine Run.seq ?_ | refine Run.skip ?_ | refine Run.cond_f rfl ?_)
  refine Run.regionO (D := [some 4]) [true] rfl rfl rfl (fun Z hZ => ?_)
  refine QD.ev T (by decide) rfl rfl ?_
  refine QD.nil (hZ _ ?_)
  clear hZ Z
  skip
  refine Run.dropL (L' := [(x, strO s)]) (List.Sublist.cons_cons _ (List.nil_sublist _)) ?_
  refine Run.ret1 (by rw [hCf]; exact Proofs.Tryd.func34) Proofs.Tryd.results34 rfl (hR _ _ _ ?_)
  exact ⟨rfl, rfl⟩
theorem v1_UnmarshalJSON (I : Imm) (s a x : Tx) (h : Nat) (v : Value) (db off c : Nat) (hR0 : Rd I v ([34] ++ s ++ [34]) db off c) (hs : s.length ≤ 1099511627000) (hp : plT s) (h5 : ∀ k, ix 58 s = some k → allR (s.drop (k + 1)) hexT = true → s.take k ≠ [115, 104, 97, 53, 49, 50]) :
    Spec Proofs.Tryd.prog 22 [.pointer (some ⟨h, 0, none⟩), v] I [(h, hashO a x)] fun w J M' => if digGood s then w = .nilIface ∧ M' = [(h, hashO sha256T' (s.drop 7))] else errW w ∧ M' = [(h, hashO a x)] := by
  rw [← pOk_eq]
  refine Spec.enter 16 [(0, _), (1, _)] Proofs.Tryd.func22 rfl Proofs.Tryd.ntmps22 (by simp) rfl ?_
  intro C hCf hR hCI
  repeat (first | refine Run.seq ?_)
  refine Run.regionO (D := [some 4]) [true] rfl rfl rfl (fun Z hZ => ?_)
  refine QD.ev T (by decide) rfl rfl ?_
  refine QD.nil (hZ _ ?_)
  clear hZ Z
  repeat (first | refine Run.seq ?_)
  refine Run.region ?_
  refine Ops.alloc rfl (by decide) (T.zeroOk rfl) rfl (fun b5 => ?_)
  refine Ops.nil ?_
  repeat (first | refine Run.seq ?_)
  refine Run.regionP (D := [some 7, some 8, some 9, some 6]) [true, true] 2 rfl rfl rfl (by simp only [List.drop_succ_cons, List.drop_zero]; rfl) (fun Z hZ => ?_)
  refine QD.ev T (by decide) rfl rfl ?_
  refine QD.ev T (by decide) rfl rfl ?_
  refine QD.nil (hZ _ ?_)
  clear hZ Z
  refine Ops.callP (N := [(h, _)]) (zz_Unmarshal I s [] v db off c b5 hR0 hs hp) (List.Perm.swap _ _ _) rfl (by decide) Proofs.Tryd.call34 rfl ?_
  rintro w J1 M1 l1 ⟨rfl, rfl⟩
  refine Ops.pure T rfl (by decide) rfl ?_
  refine Ops.nil ?_
  repeat (first | refine Run.seq ?_)
  repeat (first | refine Run.seq ?_ | refine Run.region ?_ | refine Ops.nil ?_ | refine Run.skip ?_ | refine Run.cond_f rfl ?_ | refine Ops.neqNil T rfl (by decide) rfl rfl rfl rfl rfl ?_ | refine Ops.pure T rfl (by decide) rfl ?_ | refine Ops.load 1 rfl (by decide) rfl rfl (T.aggOk rfl) rfl ?_)
  refine Ops.callP (N := [(b5, _)]) (v1_parse J1 s a x h (by omega) h5) (List.Perm.swap _ _ _) rfl (by decide) Proofs.Tryd.call33 rfl ?_
  intro w J2 M2 l2 hw
  repeat (first | refine Ops.nil ?_ | refine Ops.pure T rfl (by decide) rfl ?_)
  refine Run.dropL (L' := M2) (List.sublist_cons_self _ _) ?_
  refine Run.ret1 (by rw [hCf]; exact Proofs.Tryd.func22) Proofs.Tryd.results22 rfl (hR _ _ _ ?_)
  exact hw
end Go.V
/-
  A hash from JSON, as the program's wrapper reads it.
-/
namespace Go.V
open Go.RowKit
set_option linter.unusedVariables false
set_option linter.unusedSimpArgs false
set_option maxRecDepth 10000
attribute [local irreducible] Run Ops QD
theorem Rd.of {I : Imm} {v : Value} {xs : Tx} (h : Sl tU8 I v xs) (hne : xs ≠ []) : ∃ db off c, Rd I v xs db off c := by
  obtain ⟨A, c, rfl, hc, hrow⟩ := h
  rcases hrow with rfl | ⟨b, off, rfl, hrow⟩
  · exact absurd rfl hne
  · refine ⟨b, off, c, rfl, hc, fun i hi => ?_⟩
    obtain ⟨cs, hr, hA⟩ := hrow i _ (List.getElem?_eq_getElem hi)
    obtain rfl : cs = _ := hr
    rw [List.getD_eq_getElem?_getD, List.getElem?_eq_getElem hi]
    exact hA
theorem impl_HashOfJson (I : Imm) (s : Tx) (hs : s.length ≤ 1099511627000) (hp : plT s) (h5 : ∀ k, ix 58 s = some k → allR (s.drop (k + 1)) hexT = true → s.take k ≠ [115, 104, 97, 53, 49, 50]) :
    Pure Proofs.Tryd.prog 10 [str ([34] ++ s ++ [34]), .bool true] I fun w J => w = .tuple #[if digGood s then hashV sha256T' (s.drop 7) else zeroH, .bool (digGood s)] := by
  refine Spec.enter 20 [(0, _), (1, _)] Proofs.Tryd.func10 rfl Proofs.Tryd.ntmps10 (by simp) rfl ?_
  intro C hCf hR hCI
  repeat (first | refine Run.seq ?_)
  refine Run.region ?_
  refine Ops.alloc rfl (by decide) (T.zeroOk rfl) rfl (fun b4 => ?_)
  refine Ops.pure T rfl (by decide) rfl ?_
  refine Ops.nil ?_
  repeat (first | refine Run.seq ?_)
  refine Run.region ?_
  refine Ops.alloc rfl (by decide) (T.zeroOk rfl) rfl (fun b6 => ?_)
  refine Ops.nil ?_
  repeat (first | refine Run.seq ?_ | refine Run.region ?_ | refine Ops.nil ?_ | refine Run.cond_t rfl ?_ | refine Ops.pure T rfl (by decide) rfl ?_)
  refine Ops.convBytes T rfl (by decide) rfl rfl rfl rfl fun v J1 l1 hv => ?_
  obtain ⟨db, off, c, hR0⟩ := Rd.of hv (by simp)
  refine Ops.callP (N := [(b4, _)]) (v1_UnmarshalJSON J1 s [] [] b6 v db off c hR0 hs hp h5) (List.Perm.swap _ _ _) rfl (by decide) Proofs.Tryd.call22 rfl ?_
  intro w J2 M2 l2 hw
  cases hd : digGood s with
  | true =>
    rw [hd, if_pos rfl] at hw
    obtain ⟨rfl, rfl⟩ := hw
    repeat (first | refine Run.seq ?_ | refine Run.region ?_ | refine Ops.nil ?_ | refine Run.skip ?_ | refine Run.cond_f rfl ?_ | refine Ops.neqNil T rfl (by decide) rfl rfl rfl rfl rfl ?_ | refine Ops.pure T rfl (by decide) rfl ?_ | refine Ops.loadN 1 rfl (by decide) rfl rfl (T.aggOk rfl) (T.sizeOk rfl) rfl rfl ?_)
    refine Ops.call ((impl_hashOf J2 _ _)) rfl (by decide) Proofs.Tryd.call14 rfl ?_
    rintro _ J3 l3 rfl
    repeat (first | refine Ops.nil ?_ | refine Ops.pure T rfl (by decide) rfl ?_ | refine Ops.store 0 rfl rfl rfl rfl rfl (T.sizeOk rfl) rfl (Nat.le_of_ble_eq_true rfl) rfl rfl ?_)
    refine Run.retCT T 0 (by rw [hCf]; exact Proofs.Tryd.func10) Proofs.Tryd.results10 rfl rfl rfl rfl rfl rfl rfl (hR _ _ _ ?_)
    rw [hd]; exact ⟨rfl, rfl⟩
  | false =>
    rw [hd, if_neg (by decide)] at hw
    obtain ⟨⟨y, rfl⟩, rfl⟩ := hw
    repeat (first | refine Run.seq ?_ | refine Run.region ?_ | refine Ops.nil ?_ | refine Run.cond_t rfl ?_ | refine Ops.neqNil T rfl (by decide) rfl rfl rfl rfl rfl ?_ | refine Ops.pure T rfl (by decide) rfl ?_)
    refine Ops.buildL bd24 rfl (by decide) rfl rfl ?_
    repeat (first | refine Ops.nil ?_ | refine Ops.pure T rfl (by decide) rfl ?_ | refine Ops.store 0 rfl rfl rfl rfl rfl (T.sizeOk rfl) rfl (Nat.le_of_ble_eq_true rfl) rfl rfl ?_)
    refine Run.retCT T 0 (by rw [hCf]; exact Proofs.Tryd.func10) Proofs.Tryd.results10 rfl rfl rfl rfl rfl rfl rfl (hR _ _ _ ?_)
    rw [hd]; exact ⟨rfl, rfl⟩
end Go.V
/-
  The law: a hash's text read.
-/
namespace Go.V
open Go.RowKit
set_option linter.unusedVariables false
set_option linter.unusedSimpArgs false
set_option maxRecDepth 10000
attribute [local irreducible] Run Ops QD
theorem not512 {s : Tx} (h : hOpen s = false) : ∀ k, ix 58 s = some k → allR (s.drop (k + 1)) hexT = true → s.take k ≠ [115, 104, 97, 53, 49, 50] := by
  intro k hk hx he
  rw [allR_hex] at hx
  have hl : lx 58 s = some k := by
    have e := (ix_split hk).1
    have hlt := ix_lt hk
    have := lx_app (x := s.take k) (allIn_not 58 hx (by decide))
    rw [← e] at this
    rw [this]; simp; omega
  have hd : digGood s = false := by
    cases hd : digGood s with
    | false => rfl
    | true =>
      have e6 := ix_dig hd
      rw [hk] at e6; cases e6
      have e7 : s.take 6 = [115, 104, 97, 50, 53, 54] := by rw [(digGood_split hd).1]; rfl
      rw [e7] at he; cases he
  have ho : otherAl s = true := by simp [otherAl, hk, he]
  have hi : ixI 58 s = lxI 58 s := by rw [ixI_eq hk, lxI, hl]
  simp [hOpen, hi, hd, ho] at h
theorem plT_dig {s : Tx} (h : digGood s = true) : plT s := by
  obtain ⟨e, _, h2⟩ := digGood_split h
  have hh : ∀ b ∈ hexT, plB b = true := by decide
  have h7 : ∀ b ∈ ([115, 104, 97, 50, 53, 54, 58] : Tx), plB b = true := by decide
  intro b hb
  rw [e] at hb
  rcases List.mem_append.1 hb with hb | hb
  · exact h7 b hb
  · exact hh b (allIn_mem.1 h2 b hb)
end Go.V
/-
  The law: a hash's text read.
-/
namespace Go.V
open Go.RowKit
set_option linter.unusedVariables false
set_option linter.unusedSimpArgs false
set_option maxRecDepth 10000
attribute [local irreducible] Run Ops QD
theorem Ev.eqlAgg {P : Program} {n : Nat} {env : Env} {x y : Operand} {t t' : TypeId} {xs ys : List Value} {r : Bool} (T : Tab P) (S : List Nat) (hS : S.all (fun t => !P.stoodInHeld t && !P.eqGuardType P.depth t) = true) (hin : S.contains t = true)
    (hx : opnd env x = some (.agg xs.toArray)) (hy : opnd env y = some (.agg ys.toArray)) (h : eqV T S 10000 t (.agg xs.toArray) (.agg ys.toArray) = some r) : Ev P n env (.binOp .eql t x y t') (.bool r) :=
  fun a W he _ _ _ _ _ => by
    obtain ⟨h1, _, h2, _⟩ := run_eqlAgg T S hS hin h x y W
    simp only [execOp, eval_opnd he hx, eval_opnd he hy, Sem.run_bind, h1, h2, Result.andThen_ok]; rfl
theorem Ev.neqAgg {P : Program} {n : Nat} {env : Env} {x y : Operand} {t t' : TypeId} {xs ys : List Value} {r : Bool} (T : Tab P) (S : List Nat) (hS : S.all (fun t => !P.stoodInHeld t && !P.eqGuardType P.depth t) = true) (hin : S.contains t = true)
    (hx : opnd env x = some (.agg xs.toArray)) (hy : opnd env y = some (.agg ys.toArray)) (h : eqV T S 10000 t (.agg xs.toArray) (.agg ys.toArray) = some r) : Ev P n env (.binOp .neq t x y t') (.bool (!r)) :=
  fun a W he _ _ _ _ _ => by
    obtain ⟨_, h1, _, h2⟩ := run_eqlAgg T S hS hin h x y W
    simp only [execOp, eval_opnd he hx, eval_opnd he hy, Sem.run_bind, h1, h2, Result.andThen_ok]; rfl
theorem eqH (a h : Tx) : eqV T [24] 10000 24 (.agg [str a, str h].toArray) (.agg [str a, str h].toArray) = some true := by
  have e : eqV T [24] 10000 24 (.agg [str a, str h].toArray) (.agg [str a, str h].toArray) = some ((a == a) && ((h == h) && true)) := rfl
  rw [e]; simp
set_option maxHeartbeats 2000000 in
theorem laws_FnHashParse (I : Imm) (v0 : Value) (s : Tx) (hv0 : Val .str I v0 s) (k0 : Cd.str.ok s) : Pure Proofs.Tryd.prog 4 [v0] I fun v _ => v = .bool true := by
  obtain rfl := hv0.str
  refine Spec.enter 101 [(0, _)] Proofs.Tryd.func4 rfl Proofs.Tryd.ntmps4 (by simp) rfl ?_
  intro C hCf hR hCI
  repeat (first | refine Run.seq ?_)
  refine Run.regionO (D := [some 2]) [true] rfl rfl rfl (fun Z hZ => ?_)
  refine QD.ev T (by decide) rfl rfl ?_
  refine QD.nil (hZ _ ?_)
  clear hZ Z
  repeat (first | refine Run.seq ?_)
  refine Run.regionO (D := [some 15, some 16, some 17]) [true, true, true] rfl rfl rfl (fun Z hZ => ?_)
  refine QD.ev T (by decide) rfl rfl ?_
  refine QD.e (Ev.lenS T rfl rfl) (by decide) rfl ?_
  refine QD.e (Ev.gtr rfl rfl) (by decide) rfl ?_
  refine QD.nil (hZ _ ?_)
  clear hZ Z
  cases hb : decide ((2147483647 : Int) < (s.length : Int)) with
  | true =>
    repeat (first | refine Run.seq ?_ | refine Run.cond_t rfl ?_)
    refine Run.regionO (D := [some 2]) [true] rfl rfl rfl (fun Z hZ => ?_)
    refine QD.ev T (by decide) rfl rfl ?_
    refine QD.nil (hZ _ ?_)
    clear hZ Z
    skip
    refine Run.fin (Run.ret1 (by rw [hCf]; exact Proofs.Tryd.func4) Proofs.Tryd.results4 rfl (hR _ _ _ ?_))
    exact ⟨rfl, rfl⟩
  | false =>
    have hb' := of_decide_eq_false hb
    have hs : s.length ≤ 4620000000000000000 := by omega
    repeat (first | refine Run.seq ?_ | refine Run.skip ?_ | refine Run.cond_f rfl ?_)
    refine Run.regionP (D := [some 19, some 20, some 18, some 21, some 22, some 23, some 3, none, some 4, some 5]) [true] 1 rfl rfl rfl (by simp only [List.drop_succ_cons, List.drop_zero]; rfl) (fun Z hZ => ?_)
    refine QD.ev T (by decide) rfl rfl ?_
    refine QD.nil (hZ _ ?_)
    clear hZ Z
    refine Ops.call ((spec_HashRead I s hs)) rfl (by decide) Proofs.Tryd.call7 rfl ?_
    rintro _ J1 l1 rfl
    cases hd : digGood s with
    | true =>
      simp only [if_true]
      unfold hashV
      skip
      refine Ops.pure T rfl (by decide) rfl ?_
      refine Ops.pure T rfl (by decide) rfl ?_
      refine Ops.pure T rfl (by decide) rfl ?_
      refine Ops.pure T rfl (by decide) rfl ?_
      refine Ops.alloc rfl (by decide) (T.zeroOk rfl) rfl (fun b3 => ?_)
      first | refine Ops.store 0 rfl rfl rfl rfl rfl (T.sizeOk rfl) rfl (Nat.le_of_ble_eq_true rfl) rfl rfl ?_ | refine Ops.store 1 rfl rfl rfl rfl rfl (T.sizeOk rfl) rfl (Nat.le_of_ble_eq_true rfl) rfl rfl ?_ | refine Ops.store 2 rfl rfl rfl rfl rfl (T.sizeOk rfl) rfl (Nat.le_of_ble_eq_true rfl) rfl rfl ?_
      refine Ops.pure T rfl (by decide) rfl ?_
      refine Ops.pure T rfl (by decide) rfl ?_
      refine Ops.nil ?_
      repeat (first | refine Run.seq ?_)
      cases ho : hOpen s with
      | true =>
        repeat (first | refine Run.seq ?_ | refine Run.region ?_ | refine Ops.nil ?_ | refine Run.cond_t rfl ?_ | refine Ops.not rfl (by decide) ?_ | refine Ops.pure T rfl (by decide) rfl ?_)
        refine Ops.call ((hashAwake _)) rfl (by decide) Proofs.Tryd.call8 rfl ?_
        rintro _ J9 l9 rfl
        repeat (first | refine Ops.nil ?_ | refine Ops.pure T rfl (by decide) rfl ?_)
        refine Run.fin (Run.ret1 (by rw [hCf]; exact Proofs.Tryd.func4) Proofs.Tryd.results4 rfl (hR _ _ _ ?_))
        exact ⟨rfl, rfl⟩
      | false =>
        repeat (first | refine Run.region ?_ | refine Ops.nil ?_ | refine Ops.gtr rfl (by decide) rfl rfl ?_ | refine Ops.pure T rfl (by decide) rfl ?_ | refine Ops.lenS T rfl (by decide) rfl rfl ?_)
        cases hk : decide ((1000 : Int) < (s.length : Int)) with
        | true =>
          repeat (first | refine Run.seq ?_ | refine Run.region ?_ | refine Run.cond_t rfl ?_)
          refine Ops.call ((hashAwake _)) rfl (by decide) Proofs.Tryd.call8 rfl ?_
          rintro _ J9 l9 rfl
          repeat (first | refine Ops.nil ?_ | refine Ops.pure T rfl (by decide) rfl ?_)
          refine Run.fin (Run.ret1 (by rw [hCf]; exact Proofs.Tryd.func4) Proofs.Tryd.results4 rfl (hR _ _ _ ?_))
          exact ⟨rfl, rfl⟩
        | false =>
          have h5 := not512 ho
          repeat (first | refine Run.seq ?_ | refine Run.skip ?_ | refine Run.cond_f rfl ?_)
          refine Run.regionP (D := [some 32, some 33, some 31, some 34, some 35, some 6, none, some 7]) [true] 1 rfl rfl rfl (by simp only [List.drop_succ_cons, List.drop_zero]; rfl) (fun Z hZ => ?_)
          refine QD.ev T (by decide) rfl rfl ?_
          refine QD.nil (hZ _ ?_)
          clear hZ Z
          refine Ops.call ((impl_HashParse J1 s hs h5)) rfl (by decide) Proofs.Tryd.call9 rfl ?_
          rintro _ J2 l2 rfl
          simp only [hd, if_true, if_false, Bool.false_eq_true]
          first | unfold zeroH hashV | unfold hashV
          skip
          refine Ops.pure T rfl (by decide) rfl ?_
          refine Ops.pure T rfl (by decide) rfl ?_
          refine Ops.pure T rfl (by decide) rfl ?_
          refine Ops.alloc rfl (by decide) (T.zeroOk rfl) rfl (fun b6 => ?_)
          first | refine Ops.store 0 rfl rfl rfl rfl rfl (T.sizeOk rfl) rfl (Nat.le_of_ble_eq_true rfl) rfl rfl ?_ | refine Ops.store 1 rfl rfl rfl rfl rfl (T.sizeOk rfl) rfl (Nat.le_of_ble_eq_true rfl) rfl rfl ?_ | refine Ops.store 2 rfl rfl rfl rfl rfl (T.sizeOk rfl) rfl (Nat.le_of_ble_eq_true rfl) rfl rfl ?_
          refine Ops.pure T rfl (by decide) rfl ?_
          refine Ops.nil ?_
          repeat (first | refine Run.seq ?_)
          refine Run.regionO (D := [some 36, some 37, some 38, some 39, some 40, some 41, some 42, some 43]) [true, true, true, true, true, true, true, true] rfl rfl rfl (fun Z hZ => ?_)
          refine QD.ev T (by decide) rfl rfl ?_
          refine QD.ev T (by decide) rfl rfl ?_
          refine QD.e (Ev.neqB rfl rfl T rfl) (by decide) rfl ?_
          refine QD.ev T (by decide) rfl rfl ?_
          first | refine QD.yv (by decide) rfl (Yv.loadN 0 T rfl rfl rfl rfl rfl rfl) ?_ | refine QD.yv (by decide) rfl (Yv.loadN 1 T rfl rfl rfl rfl rfl rfl) ?_ | refine QD.yv (by decide) rfl (Yv.loadN 2 T rfl rfl rfl rfl rfl rfl) ?_ | refine QD.off (by decide) rfl ?_
          first | refine QD.yv (by decide) rfl (Yv.loadN 0 T rfl rfl rfl rfl rfl rfl) ?_ | refine QD.yv (by decide) rfl (Yv.loadN 1 T rfl rfl rfl rfl rfl rfl) ?_ | refine QD.yv (by decide) rfl (Yv.loadN 2 T rfl rfl rfl rfl rfl rfl) ?_ | refine QD.off (by decide) rfl ?_
          refine QD.e (Ev.neqAgg (r := true) T [24] (by kernel_rfl) rfl rfl rfl (eqH _ _)) (by decide) rfl ?_
          refine QD.ev T (by decide) rfl rfl ?_
          refine QD.nil (hZ _ ?_)
          clear hZ Z
          repeat (first | refine Run.seq ?_ | refine Run.skip ?_ | refine Run.cond_f rfl ?_)
          refine Run.regionP (D := [some 45, some 46, some 44, some 47, some 48, some 8, none, some 9]) [true] 1 rfl rfl rfl (by simp only [List.drop_succ_cons, List.drop_zero]; rfl) (fun Z hZ => ?_)
          refine QD.ev T (by decide) rfl rfl ?_
          refine QD.nil (hZ _ ?_)
          clear hZ Z
          refine Ops.call ((impl_HashOfText J2 s hs h5)) rfl (by decide) Proofs.Tryd.call10 rfl ?_
          rintro _ J3 l3 rfl
          simp only [hd, if_true, if_false, Bool.false_eq_true]
          first | unfold zeroH hashV | unfold hashV
          skip
          refine Ops.pure T rfl (by decide) rfl ?_
          refine Ops.pure T rfl (by decide) rfl ?_
          refine Ops.pure T rfl (by decide) rfl ?_
          refine Ops.alloc rfl (by decide) (T.zeroOk rfl) rfl (fun b8 => ?_)
          first | refine Ops.store 0 rfl rfl rfl rfl rfl (T.sizeOk rfl) rfl (Nat.le_of_ble_eq_true rfl) rfl rfl ?_ | refine Ops.store 1 rfl rfl rfl rfl rfl (T.sizeOk rfl) rfl (Nat.le_of_ble_eq_true rfl) rfl rfl ?_ | refine Ops.store 2 rfl rfl rfl rfl rfl (T.sizeOk rfl) rfl (Nat.le_of_ble_eq_true rfl) rfl rfl ?_
          refine Ops.pure T rfl (by decide) rfl ?_
          refine Ops.nil ?_
          repeat (first | refine Run.seq ?_)
          refine Run.regionO (D := [some 49, some 50]) [true, true] rfl rfl rfl (fun Z hZ => ?_)
          refine QD.ev T (by decide) rfl rfl ?_
          refine QD.ev T (by decide) rfl rfl ?_
          refine QD.nil (hZ _ ?_)
          clear hZ Z
          repeat (first | refine Run.seq ?_ | refine Run.skip ?_ | refine Run.cond_f rfl ?_)
          have e : hText sha256T' (s.drop 7) = s := (digGood_split hd).1.symm
          have ej : hJson sha256T' (s.drop 7) = [34] ++ s ++ [34] := congrArg (fun x => [34] ++ x ++ [34]) e
          have hT := impl_HashText J3 sha256T' (s.drop 7) (by decide) (by rw [(digGood_split hd).2.1]; decide) (by rw [e]; exact plT_dig hd)
          rw [e, ej] at hT
          refine Run.regionP (D := [some 57, some 58, some 56, some 59, some 60, some 61, some 10, some 11, some 12]) [true] 1 rfl rfl rfl (by simp only [List.drop_succ_cons, List.drop_zero]; rfl) (fun Z hZ => ?_)
          first | refine QD.yv (by decide) rfl (Yv.loadN 0 T rfl rfl rfl rfl rfl rfl) ?_ | refine QD.yv (by decide) rfl (Yv.loadN 1 T rfl rfl rfl rfl rfl rfl) ?_ | refine QD.yv (by decide) rfl (Yv.loadN 2 T rfl rfl rfl rfl rfl rfl) ?_
          refine QD.nil (hZ _ ?_)
          clear hZ Z
          refine Ops.call (hT) rfl (by decide) Proofs.Tryd.call11 rfl ?_
          rintro _ J4 l4 rfl
          refine Ops.pure T rfl (by decide) rfl ?_
          refine Ops.pure T rfl (by decide) rfl ?_
          refine Ops.pure T rfl (by decide) rfl ?_
          refine Ops.pure T rfl (by decide) rfl ?_
          refine Ops.pure T rfl (by decide) rfl ?_
          refine Ops.pure T rfl (by decide) rfl ?_
          refine Ops.pure T rfl (by decide) rfl ?_
          refine Ops.nil ?_
          repeat (first | refine Run.seq ?_)
          refine Run.regionP (D := [some 63, some 64, some 62, some 65, some 66, some 13, none, some 14]) [true] 1 rfl rfl rfl (by simp only [List.drop_succ_cons, List.drop_zero]; rfl) (fun Z hZ => ?_)
          refine QD.ev T (by decide) rfl rfl ?_
          refine QD.nil (hZ _ ?_)
          clear hZ Z
          refine Ops.call ((impl_HashOfJson J4 s (by omega) (plT_dig hd) h5)) rfl (by decide) Proofs.Tryd.call10 rfl ?_
          rintro _ J5 l5 rfl
          simp only [hd, if_true]
          unfold hashV
          skip
          refine Ops.pure T rfl (by decide) rfl ?_
          refine Ops.pure T rfl (by decide) rfl ?_
          refine Ops.pure T rfl (by decide) rfl ?_
          refine Ops.alloc rfl (by decide) (T.zeroOk rfl) rfl (fun b13 => ?_)
          first | refine Ops.store 0 rfl rfl rfl rfl rfl (T.sizeOk rfl) rfl (Nat.le_of_ble_eq_true rfl) rfl rfl ?_ | refine Ops.store 1 rfl rfl rfl rfl rfl (T.sizeOk rfl) rfl (Nat.le_of_ble_eq_true rfl) rfl rfl ?_ | refine Ops.store 2 rfl rfl rfl rfl rfl (T.sizeOk rfl) rfl (Nat.le_of_ble_eq_true rfl) rfl rfl ?_
          refine Ops.pure T rfl (by decide) rfl ?_
          refine Ops.nil ?_
          repeat (first | refine Run.seq ?_)
          refine Run.regionO (D := [some 67, some 68, some 69, some 70, some 71, some 72, some 73, some 74, some 75, some 76, some 77, some 78, some 79, some 80, some 81, some 82, some 83, some 84, some 85, some 86, some 87, some 88, some 89, some 90, some 91, some 92, some 93, some 94, some 95, some 96, some 97, some 98, some 99, some 100, some 2]) [true, true, true, true, true, true, true, true, true, true, true, true, true, true, true, true, true, true, true, true, true, true, true, true, true, true, true, true, true, true, true, true, true, true, true] rfl rfl rfl (fun Z hZ => ?_)
          refine QD.ev T (by decide) rfl rfl ?_
          refine QD.ev T (by decide) rfl rfl ?_
          refine QD.e ((Ev.eqlS rfl rfl).as (show _ = Value.bool true from congrArg Value.bool (decide_eq_true rfl))) (by decide) rfl ?_
          refine QD.ev T (by decide) rfl rfl ?_
          first | refine QD.ev T (by decide) rfl rfl ?_ | refine QD.off (by decide) rfl ?_
          first | refine QD.ev T (by decide) rfl rfl ?_ | refine QD.off (by decide) rfl ?_
          refine QD.e ((Ev.eqlS rfl rfl).as (show _ = Value.bool true from congrArg Value.bool (decide_eq_true rfl))) (by decide) rfl ?_
          refine QD.ev T (by decide) rfl rfl ?_
          refine QD.ev T (by decide) rfl rfl ?_
          first | refine QD.ev T (by decide) rfl rfl ?_ | refine QD.off (by decide) rfl ?_
          first | refine QD.ev T (by decide) rfl rfl ?_ | refine QD.off (by decide) rfl ?_
          first | refine QD.e (Ev.catS rfl rfl (by first | omega | (simp only [List.length_cons, List.length_nil] ; omega) | (simp; omega))) (by decide) rfl ?_ | refine QD.off (by decide) rfl ?_
          first | refine QD.e (Ev.catS rfl rfl (by first | omega | (simp only [List.length_cons, List.length_nil] ; omega) | (simp; omega))) (by decide) rfl ?_ | refine QD.off (by decide) rfl ?_
          refine QD.e ((Ev.eqlS rfl rfl).as (show _ = Value.bool true from congrArg Value.bool (decide_eq_true rfl))) (by decide) rfl ?_
          refine QD.ev T (by decide) rfl rfl ?_
          refine QD.ev T (by decide) rfl rfl ?_
          first | refine QD.ev T (by decide) rfl rfl ?_ | refine QD.off (by decide) rfl ?_
          refine QD.ev T (by decide) rfl rfl ?_
          refine QD.ev T (by decide) rfl rfl ?_
          first | refine QD.ev T (by decide) rfl rfl ?_ | refine QD.off (by decide) rfl ?_
          refine QD.ev T (by decide) rfl rfl ?_
          refine QD.ev T (by decide) rfl rfl ?_
          first | refine QD.yv (by decide) rfl (Yv.loadN 0 T rfl rfl rfl rfl rfl rfl) ?_ | refine QD.yv (by decide) rfl (Yv.loadN 1 T rfl rfl rfl rfl rfl rfl) ?_ | refine QD.yv (by decide) rfl (Yv.loadN 2 T rfl rfl rfl rfl rfl rfl) ?_ | refine QD.off (by decide) rfl ?_
          first | refine QD.yv (by decide) rfl (Yv.loadN 0 T rfl rfl rfl rfl rfl rfl) ?_ | refine QD.yv (by decide) rfl (Yv.loadN 1 T rfl rfl rfl rfl rfl rfl) ?_ | refine QD.yv (by decide) rfl (Yv.loadN 2 T rfl rfl rfl rfl rfl rfl) ?_ | refine QD.off (by decide) rfl ?_
          refine QD.e (Ev.eqlAgg (r := true) T [24] (by kernel_rfl) rfl rfl rfl (eqH _ _)) (by decide) rfl ?_
          refine QD.ev T (by decide) rfl rfl ?_
          refine QD.ev T (by decide) rfl rfl ?_
          first | refine QD.yv (by decide) rfl (Yv.loadN 0 T rfl rfl rfl rfl rfl rfl) ?_ | refine QD.yv (by decide) rfl (Yv.loadN 1 T rfl rfl rfl rfl rfl rfl) ?_ | refine QD.yv (by decide) rfl (Yv.loadN 2 T rfl rfl rfl rfl rfl rfl) ?_ | refine QD.off (by decide) rfl ?_
          first | refine QD.yv (by decide) rfl (Yv.loadN 0 T rfl rfl rfl rfl rfl rfl) ?_ | refine QD.yv (by decide) rfl (Yv.loadN 1 T rfl rfl rfl rfl rfl rfl) ?_ | refine QD.yv (by decide) rfl (Yv.loadN 2 T rfl rfl rfl rfl rfl rfl) ?_ | refine QD.off (by decide) rfl ?_
          refine QD.e (Ev.eqlAgg (r := true) T [24] (by kernel_rfl) rfl rfl rfl (eqH _ _)) (by decide) rfl ?_
          refine QD.ev T (by decide) rfl rfl ?_
          refine QD.ev T (by decide) rfl rfl ?_
          first | refine QD.call (hashAwake J5) (by decide) rfl Proofs.Tryd.call8 rfl ?_ | refine QD.off (by decide) rfl ?_
          refine QD.ev T (by decide) rfl rfl ?_
          refine QD.ev T (by decide) rfl rfl ?_
          refine QD.nil (hZ _ ?_)
          clear hZ Z
          skip
          refine Run.fin (Run.ret1 (by rw [hCf]; exact Proofs.Tryd.func4) Proofs.Tryd.results4 rfl (hR _ _ _ ?_))
          exact ⟨rfl, rfl⟩
    | false =>
      simp only [Bool.false_eq_true, if_false]
      unfold zeroH hashV
      skip
      refine Ops.pure T rfl (by decide) rfl ?_
      refine Ops.pure T rfl (by decide) rfl ?_
      refine Ops.pure T rfl (by decide) rfl ?_
      refine Ops.pure T rfl (by decide) rfl ?_
      refine Ops.alloc rfl (by decide) (T.zeroOk rfl) rfl (fun b3 => ?_)
      first | refine Ops.store 0 rfl rfl rfl rfl rfl (T.sizeOk rfl) rfl (Nat.le_of_ble_eq_true rfl) rfl rfl ?_ | refine Ops.store 1 rfl rfl rfl rfl rfl (T.sizeOk rfl) rfl (Nat.le_of_ble_eq_true rfl) rfl rfl ?_ | refine Ops.store 2 rfl rfl rfl rfl rfl (T.sizeOk rfl) rfl (Nat.le_of_ble_eq_true rfl) rfl rfl ?_
      refine Ops.pure T rfl (by decide) rfl ?_
      refine Ops.pure T rfl (by decide) rfl ?_
      refine Ops.nil ?_
      repeat (first | refine Run.seq ?_)
      cases ho : hOpen s with
      | true =>
        repeat (first | refine Run.seq ?_ | refine Run.region ?_ | refine Ops.nil ?_ | refine Run.cond_t rfl ?_ | refine Ops.not rfl (by decide) ?_ | refine Ops.pure T rfl (by decide) rfl ?_)
        refine Ops.call ((hashAwake _)) rfl (by decide) Proofs.Tryd.call8 rfl ?_
        rintro _ J9 l9 rfl
        repeat (first | refine Ops.nil ?_ | refine Ops.pure T rfl (by decide) rfl ?_)
        refine Run.fin (Run.ret1 (by rw [hCf]; exact Proofs.Tryd.func4) Proofs.Tryd.results4 rfl (hR _ _ _ ?_))
        exact ⟨rfl, rfl⟩
      | false =>
        repeat (first | refine Run.region ?_ | refine Ops.nil ?_ | refine Ops.gtr rfl (by decide) rfl rfl ?_ | refine Ops.pure T rfl (by decide) rfl ?_ | refine Ops.lenS T rfl (by decide) rfl rfl ?_)
        cases hk : decide ((1000 : Int) < (s.length : Int)) with
        | true =>
          repeat (first | refine Run.seq ?_ | refine Run.region ?_ | refine Run.cond_t rfl ?_)
          refine Ops.call ((hashAwake _)) rfl (by decide) Proofs.Tryd.call8 rfl ?_
          rintro _ J9 l9 rfl
          repeat (first | refine Ops.nil ?_ | refine Ops.pure T rfl (by decide) rfl ?_)
          refine Run.fin (Run.ret1 (by rw [hCf]; exact Proofs.Tryd.func4) Proofs.Tryd.results4 rfl (hR _ _ _ ?_))
          exact ⟨rfl, rfl⟩
        | false =>
          have h5 := not512 ho
          repeat (first | refine Run.seq ?_ | refine Run.skip ?_ | refine Run.cond_f rfl ?_)
          refine Run.regionP (D := [some 32, some 33, some 31, some 34, some 35, some 6, none, some 7]) [true] 1 rfl rfl rfl (by simp only [List.drop_succ_cons, List.drop_zero]; rfl) (fun Z hZ => ?_)
          refine QD.ev T (by decide) rfl rfl ?_
          refine QD.nil (hZ _ ?_)
          clear hZ Z
          refine Ops.call ((impl_HashParse J1 s hs h5)) rfl (by decide) Proofs.Tryd.call9 rfl ?_
          rintro _ J2 l2 rfl
          simp only [hd, if_true, if_false, Bool.false_eq_true]
          first | unfold zeroH hashV | unfold hashV
          skip
          refine Ops.pure T rfl (by decide) rfl ?_
          refine Ops.pure T rfl (by decide) rfl ?_
          refine Ops.pure T rfl (by decide) rfl ?_
          refine Ops.alloc rfl (by decide) (T.zeroOk rfl) rfl (fun b6 => ?_)
          first | refine Ops.store 0 rfl rfl rfl rfl rfl (T.sizeOk rfl) rfl (Nat.le_of_ble_eq_true rfl) rfl rfl ?_ | refine Ops.store 1 rfl rfl rfl rfl rfl (T.sizeOk rfl) rfl (Nat.le_of_ble_eq_true rfl) rfl rfl ?_ | refine Ops.store 2 rfl rfl rfl rfl rfl (T.sizeOk rfl) rfl (Nat.le_of_ble_eq_true rfl) rfl rfl ?_
          refine Ops.pure T rfl (by decide) rfl ?_
          refine Ops.nil ?_
          repeat (first | refine Run.seq ?_)
          refine Run.regionO (D := [some 36, some 37, some 38, some 39, some 40, some 41, some 42, some 43]) [true, true, true, true, true, true, true, true] rfl rfl rfl (fun Z hZ => ?_)
          refine QD.ev T (by decide) rfl rfl ?_
          refine QD.ev T (by decide) rfl rfl ?_
          refine QD.e (Ev.neqB rfl rfl T rfl) (by decide) rfl ?_
          refine QD.ev T (by decide) rfl rfl ?_
          first | refine QD.yv (by decide) rfl (Yv.loadN 0 T rfl rfl rfl rfl rfl rfl) ?_ | refine QD.yv (by decide) rfl (Yv.loadN 1 T rfl rfl rfl rfl rfl rfl) ?_ | refine QD.yv (by decide) rfl (Yv.loadN 2 T rfl rfl rfl rfl rfl rfl) ?_ | refine QD.off (by decide) rfl ?_
          first | refine QD.yv (by decide) rfl (Yv.loadN 0 T rfl rfl rfl rfl rfl rfl) ?_ | refine QD.yv (by decide) rfl (Yv.loadN 1 T rfl rfl rfl rfl rfl rfl) ?_ | refine QD.yv (by decide) rfl (Yv.loadN 2 T rfl rfl rfl rfl rfl rfl) ?_ | refine QD.off (by decide) rfl ?_
          refine QD.e (Ev.neqAgg (r := true) T [24] (by kernel_rfl) rfl rfl rfl (eqH _ _)) (by decide) rfl ?_
          refine QD.ev T (by decide) rfl rfl ?_
          refine QD.nil (hZ _ ?_)
          clear hZ Z
          repeat (first | refine Run.seq ?_ | refine Run.skip ?_ | refine Run.cond_f rfl ?_)
          refine Run.regionP (D := [some 45, some 46, some 44, some 47, some 48, some 8, none, some 9]) [true] 1 rfl rfl rfl (by simp only [List.drop_succ_cons, List.drop_zero]; rfl) (fun Z hZ => ?_)
          refine QD.ev T (by decide) rfl rfl ?_
          refine QD.nil (hZ _ ?_)
          clear hZ Z
          refine Ops.call ((impl_HashOfText J2 s hs h5)) rfl (by decide) Proofs.Tryd.call10 rfl ?_
          rintro _ J3 l3 rfl
          simp only [hd, if_true, if_false, Bool.false_eq_true]
          first | unfold zeroH hashV | unfold hashV
          skip
          refine Ops.pure T rfl (by decide) rfl ?_
          refine Ops.pure T rfl (by decide) rfl ?_
          refine Ops.pure T rfl (by decide) rfl ?_
          refine Ops.alloc rfl (by decide) (T.zeroOk rfl) rfl (fun b8 => ?_)
          first | refine Ops.store 0 rfl rfl rfl rfl rfl (T.sizeOk rfl) rfl (Nat.le_of_ble_eq_true rfl) rfl rfl ?_ | refine Ops.store 1 rfl rfl rfl rfl rfl (T.sizeOk rfl) rfl (Nat.le_of_ble_eq_true rfl) rfl rfl ?_ | refine Ops.store 2 rfl rfl rfl rfl rfl (T.sizeOk rfl) rfl (Nat.le_of_ble_eq_true rfl) rfl rfl ?_
          refine Ops.pure T rfl (by decide) rfl ?_
          refine Ops.nil ?_
          repeat (first | refine Run.seq ?_)
          refine Run.regionO (D := [some 49, some 50]) [true, true] rfl rfl rfl (fun Z hZ => ?_)
          refine QD.ev T (by decide) rfl rfl ?_
          refine QD.ev T (by decide) rfl rfl ?_
          refine QD.nil (hZ _ ?_)
          clear hZ Z
          repeat (first | refine Run.seq ?_ | refine Run.cond_t rfl ?_)
          repeat (first | refine Run.region ?_ | refine Ops.pure T rfl (by decide) rfl ?_)
          refine Ops.call ((hashAwake _)) rfl (by decide) Proofs.Tryd.call8 rfl ?_
          rintro _ J9 l9 rfl
          repeat (first | refine Ops.nil ?_ | refine Ops.pure T rfl (by decide) rfl ?_)
          refine Run.fin (Run.ret1 (by rw [hCf]; exact Proofs.Tryd.func4) Proofs.Tryd.results4 rfl (hR _ _ _ ?_))
          exact ⟨rfl, rfl⟩
end Go.V
/-
  What a row lists of package-level variables, read off the heap that a call begins with.
-/
namespace Go.V
open Go.RowKit Go.ChangeShapes
set_option linter.unusedVariables false
set_option linter.unusedSimpArgs false
/-- an input that fits a row that lists variables -/
theorem witness_laid {H : Type} {enc : TypeId × Value → H} {C : Checked} {os : Os} {f : FuncId} {fn : Func} {s : OpenSpec} {conds : List PathCond} {apart : Bool} {laid : List (String × DataW Unit)} (modest : Bool) (args : Array Value)
    (hsh : (World.laidAll C.prog os laid |>.forCall (fun _ _ => 0) ⟨#[], args, []⟩).Shaped C.prog)
    (hok : Input.okWideB C.prog ((World.laidAll C.prog os laid).forCall (fun _ _ => 0) ⟨#[], args, []⟩) f ⟨#[], args, []⟩ = true)
    (hrow : s.preRow enc C.prog fn conds apart laid ((World.laidAll C.prog os laid).forCall (fun _ _ => 0) ⟨#[], args, []⟩).memory args) :
    ∃ (w : World) (tape : Tape) (i : Input), w.os = os ∧ (w.forCall tape i).Shaped C.prog ∧ i.vars = [] ∧ Input.okWide C.prog (w.forCall tape i) .any w.heap.size f i ∧
      s.preRow enc C.prog fn conds apart laid (w.forCall tape i).memory i.args ∧ ({ modest := modest } : Assume).holds C.prog (lone (Frame.enter C.prog f i.args .normal) [] (w.forCall tape i)) :=
  ⟨World.laidAll C.prog os laid, fun _ _ => 0, ⟨#[], args, []⟩, World.laidAll_os _ _ _, hsh, (Input.okWide_of_okWideB (base := 0) hok).1, (Input.okWide_of_okWideB hok).2, hrow, by
    simp only [Assume.holds]
    exact ⟨by simp, by simp, fun _ => Modest.zero, by simp, by simp⟩⟩
end Go.V
