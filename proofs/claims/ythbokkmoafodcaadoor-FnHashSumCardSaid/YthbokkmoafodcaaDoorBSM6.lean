import Derived.Test.YthbokkmoafodcaaDoorBSM3
import Derived.Laws.BytesString
import Derived.Test.YthbokkmoafodcaaDoorBSM5
import Derived.Stop.Asserts
/-
  More on numbers; bytes read as a text; memory that is only lent, at a call.
-/
namespace Go.V
open Go.RowKit
set_option linter.unusedVariables false
set_option linter.unusedSimpArgs false
section
variable {P : Program} {n : Nat} {C : Cx} {k : List Item} {env : Env} {L : Own} {I : Imm} {ops : Array Oper} {i : Nat} {l : List Oper} {S : World → Prop}
variable {ty : TypeId} {ps : String} {af : Array Edge} {g : Option (Nat × Bool)} {d : Nat}
variable {x y : Operand} {t t' : TypeId} {kd kd' : IntKind}
theorem Ev.shrI {a j : Int} (hx : opnd env x = some (.int kd a)) (hy : opnd env y = some (.int kd' j)) (h0 : 0 ≤ j) (h1 : j.toNat ≤ kd.bits) : Ev P n env (.binOp .shr t x y t') (.int kd (a.fdiv (2 ^ j.toNat))) :=
  Ev.of2 hx hy (fun _ => run_eqGuard_int ..) fun W => by
    have e : Op.shift .shr kd a kd' j = pure (.int kd (a.fdiv (2 ^ min j.toNat kd.bits))) := by unfold Op.shift; rw [if_neg (Int.not_lt.2 h0)]
    rw [Nat.min_eq_left h1] at e
    simp only [binOp, e]
    rfl
theorem Ev.shrN {a : Nat} {j : Int} (hx : opnd env x = some (.int kd (a : Int))) (hy : opnd env y = some (.int kd' j)) (h0 : 0 ≤ j) (h1 : j.toNat ≤ kd.bits) : Ev P n env (.binOp .shr t x y t') (.int kd ((a >>> j.toNat : Nat) : Int)) :=
  (Ev.shrI hx hy h0 h1).as (by
    rw [Nat.shiftRight_eq_div_pow, Int.fdiv_eq_ediv_of_nonneg _ (Int.pow_nonneg (by decide))]
    simp)
theorem Ev.andN {a : Nat} {c : Int} (hx : opnd env x = some (.int kd (a : Int))) (hy : opnd env y = some (.int kd c)) (h0 : 0 ≤ c) (h1 : a < 2 ^ kd.bits) (h2 : c.toNat < 2 ^ (kd.bits - 1)) : Ev P n env (.binOp .and t x y t') (.int kd ((a &&& c.toNat : Nat) : Int)) :=
  Ev.of2 hx hy (fun _ => run_eqGuard_int ..) fun W => by
    obtain ⟨c, rfl⟩ := Int.eq_ofNat_of_zero_le h0
    simp only [Int.toNat_natCast] at h2 ⊢
    have hb : 1 ≤ kd.bits := by cases kd <;> decide
    have hc : c < 2 ^ kd.bits := Nat.lt_of_lt_of_le h2 (Nat.pow_le_pow_right (by decide) (by omega))
    have hle : a &&& c ≤ c := Nat.and_le_right
    have e : Op.intBits .and kd (a : Int) (c : Int) = pure (.int kd (kd.wrap (((BitVec.ofInt kd.bits (a : Int)) &&& (BitVec.ofInt kd.bits (c : Int)) : BitVec kd.bits).toNat : Int))) := rfl
    have e2 : ((BitVec.ofInt kd.bits (a : Int)) &&& (BitVec.ofInt kd.bits (c : Int)) : BitVec kd.bits).toNat = a &&& c := by
      rw [BitVec.ofInt_natCast, BitVec.ofInt_natCast, BitVec.toNat_and, BitVec.toNat_ofNat, BitVec.toNat_ofNat, Nat.mod_eq_of_lt h1, Nat.mod_eq_of_lt hc]
    have e3 : kd.wrap ((a &&& c : Nat) : Int) = ((a &&& c : Nat) : Int) := by
      have hlt : (a &&& c : Nat) < 2 ^ (kd.bits - 1) := by omega
      generalize (a &&& c : Nat) = z at hlt
      cases kd <;> simp [IntKind.wrap, IntKind.signed, IntKind.bits] at hlt ⊢ <;> omega
    rw [e2, e3] at e
    simp only [binOp, e, ne_eq, not_true_eq_false, if_false]
    rfl
theorem foldl_push (xs : List UInt8) : ∀ s : ByteArray, (xs.map fun b => (b.toNat : Int)).foldl (fun r (n : Int) => r.push (UInt8.ofNat n.toNat)) s = ⟨s.data ++ xs.toArray⟩ := by
  induction xs with
  | nil => intro s; simp
  | cons x r ih =>
    intro s
    simp only [List.map_cons, List.foldl_cons]
    rw [ih]
    apply ByteArray.ext
    simp [ByteArray.push]
theorem run_bytesStr {src dst e : TypeId} {b off c : Nat} {xs : List UInt8} {W : World} (T : Tab P) (hs : T.und src = some (.slice e)) (ht : T.und dst = some .string) (he : T.und e = some (.int .u8))
    (hc : ∀ j u, (wb xs)[j]? = some u → W.cell? ⟨b, off + j, none⟩ = some u) : (convert src dst (.slice (some ⟨b, off, none⟩) xs.length c)).run P W = .ok (str xs) W := by
  have hl := run_loadCells_list (P := P) W ⟨b, off, none⟩ (wb xs) (fun j u hj => by rw [add_off]; exact hc j u hj)
  have e1 : (wb xs).length = xs.length := by simp
  rw [e1] at hl
  rw [run_convert_bytes_string W src dst e _ _ _ (und_of_run (T.undOk hs W)) (und_of_run (T.undOk he W)) (und_of_run (T.undOk ht W))]
  rw [run_bytesToString W ⟨b, off, none⟩ xs.length c (xs.map fun b => (b.toNat : Int)) (by rw [hl, List.map_map]; rfl), foldl_push]
  simp [str]
theorem run_bytesNil {src dst e : TypeId} {c : Nat} {W : World} (T : Tab P) (hs : T.und src = some (.slice e)) (ht : T.und dst = some .string) (he : T.und e = some (.int .u8)) : (convert src dst (.slice none 0 c)).run P W = .ok (str []) W := by
  rw [run_convert_bytes_string W src dst e _ _ _ (und_of_run (T.undOk hs W)) (und_of_run (T.undOk he W)) (und_of_run (T.undOk ht W))]
  rfl
theorem Yv.bytesBuf {src dst e e' : TypeId} {v : Value} {xs : List UInt8} {J : Imm} {M N : Own} (T : Tab P) (hG : Buf e' v xs N) (hm : ∀ x, x ∈ N → x ∈ M) (hs : T.und src = some (.slice e)) (ht : T.und dst = some .string) (he : T.und e = some (.int .u8)) (hx : opnd env x = some v) :
    Yv P n env (Holds J M) (.convert src dst x) (str xs) :=
  fun a W hen hS _ _ _ _ _ => by
    rcases hG with ⟨rfl, rfl, _⟩ | ⟨b, pre, post, cap, rfl, rfl, hc, _⟩
    · simp only [execOp, eval_opnd hen hx, Sem.run_bind, run_bytesNil T hs ht he, Result.andThen_ok]; rfl
    · have hW := hS.2 b _ (hm _ (List.mem_singleton.2 rfl))
      have := run_bytesStr (P := P) (c := cap) (b := b) (off := pre.length) (xs := xs) (W := W) T hs ht he (fun j u hj => by
        have hjl : j < xs.length := by simpa using (List.getElem?_eq_some_iff.1 hj).1
        rw [cell_blk hW, List.getElem?_toArray, List.append_assoc, List.getElem?_append_right (by omega), Nat.add_sub_cancel_left, List.getElem?_append_left (by simpa using hjl)]
        exact hj)
      simp only [execOp, eval_opnd hen hx, Sem.run_bind, this, Result.andThen_ok]; rfl
end
end Go.V
/-
  Numbers in base 16.
-/
namespace Go.V
open Go.RowKit
set_option linter.unusedVariables false
set_option linter.unusedSimpArgs false
set_option maxRecDepth 10000
attribute [local irreducible] Run Ops QD
def dg : List UInt8 := [48, 49, 50, 51, 52, 53, 54, 55, 56, 57, 97, 98, 99, 100, 101, 102]
theorem and_lt {z : Nat} : ((z &&& (15 : Int).toNat : Nat) : Int) < (dg.length : Int) := by
  have : z &&& 15 ≤ 15 := Nat.and_le_right
  show ((z &&& 15 : Nat) : Int) < 16
  omega
theorem shr_lt {b : UInt8} : ((b.toNat >>> (4 : Int).toNat : Nat) : Int) < (dg.length : Int) := by
  have := b.toNat_lt
  show ((b.toNat >>> 4 : Nat) : Int) < 16
  rw [Nat.shiftRight_eq_div_pow]
  omega
def hex2 (b : UInt8) : List UInt8 := [dg.getD (b.toNat >>> 4) 0, dg.getD (b.toNat &&& 15) 0]
def hexL (xs : List UInt8) : List UInt8 := xs.flatMap hex2
theorem hexL_len : ∀ xs : List UInt8, (hexL xs).length = 2 * xs.length
  | [] => rfl
  | x :: r => by
    have := hexL_len r
    unfold hexL at *
    rw [List.flatMap_cons, List.length_append, this]; simp [hex2]; omega
set_option maxHeartbeats 1000000 in
theorem zz_Hex (I : Imm) (p : Value) (xs : List UInt8) (hp : Sl tU8 I p xs) (hlen : xs.length ≤ 1099511627776) : Pure Proofs.Tryd.prog 30 [p] I fun w J => w = str (hexL xs) := by
  obtain ⟨A, cp, rfl, hcp, hrow⟩ := hp
  refine Spec.enter 28 [(0, _)] Proofs.Tryd.func30 rfl Proofs.Tryd.ntmps30 (by simp) rfl ?_
  intro C hCf hR hCI
  repeat (first | refine Run.seq ?_)
  refine Run.regionO (D := [some 2]) [true] rfl rfl rfl (fun Z hZ => ?_)
  refine QD.ev T (by decide) rfl rfl ?_
  refine QD.nil (hZ _ ?_)
  clear hZ Z
  repeat (first | refine Run.seq ?_)
  refine Run.regionP (D := [some 6, some 7, some 8, some 9, some 3]) [true, true, true] 3 rfl rfl rfl (by simp only [List.drop_succ_cons, List.drop_zero]; rfl) (fun Z hZ => ?_)
  refine QD.ev T (by decide) rfl rfl ?_
  refine QD.ev T (by decide) rfl rfl ?_
  refine QD.e (Ev.mulI rfl rfl (wI (by first | omega | (simp only [List.length_cons, List.length_nil] ; omega) | (simp; omega)) (by first | omega | (simp only [List.length_cons, List.length_nil] ; omega) | (simp; omega)))) (by decide) rfl ?_
  refine QD.nil (hZ _ ?_)
  clear hZ Z
  refine Ops.makeBuf (a := 0) (c := 2 * xs.length) btB rfl (by decide) rfl (congrArg (fun z => some (Value.int .i64 z)) (show (2 : Int) * (xs.length : Int) = ((2 * xs.length : Nat) : Int) by simp)) (by omega) (by omega) fun b3 hB => ?_
  refine Ops.pure T rfl (by decide) rfl ?_
  refine Ops.nil ?_
  repeat (first | refine Run.seq ?_)
  refine Run.regionO (D := [some 10, some 11, some 12]) [true, true, true] rfl rfl rfl (fun Z hZ => ?_)
  refine QD.ev T (by decide) rfl rfl ?_
  refine QD.ev T (by decide) rfl rfl ?_
  refine QD.ev T (by decide) rfl rfl ?_
  refine QD.nil (hZ _ ?_)
  clear hZ Z
  repeat (first | refine Run.block ?_)
  refine Run.keep [3, 10, 11, 12] [_, _, _, _] rfl ?_
  refine Run.rounds (fun m env L J => ∃ (j : Nat) (A2 : Option Addr) (c2 : Nat) (Mo : Own), m = xs.length - j ∧ j ≤ xs.length ∧ Buf 5 (.slice A2 (hexL (xs.take j)).length c2) (hexL (xs.take j)) Mo ∧ env = [(3, .slice A2 (hexL (xs.take j)).length c2), (10, .slice A xs.length cp), (11, .int .i64 xs.length), (12, .int .i64 (j : Int))] ∧ L = Mo ∧ I = J) xs.length ⟨0, some ⟨b3, 0, none⟩, 2 * xs.length, [(b3, _)], by omega, by omega, hB, rfl, rfl, rfl⟩ ?_
  clear hB
  rintro m env L J ⟨j, A2, c2, Mo, rfl, hj, hT, rfl, rfl, rfl⟩ ih
  have hl := hexL_len (xs.take j)
  rw [List.length_take, Nat.min_eq_left hj] at hl
  repeat (first | refine Run.seq ?_)
  refine Run.regionO (D := [some 13]) [true] rfl rfl rfl (fun Z hZ => ?_)
  refine QD.e (Ev.lss rfl rfl) (by decide) rfl ?_
  refine QD.nil (hZ _ ?_)
  clear hZ Z
  repeat (first | refine Run.seq ?_)
  refine Run.cond rfl rfl (fun h1 => ?_) (fun h1 => ?_)
  all_goals (try rw [h1])
  all_goals (try simp only [decide_eq_true_eq, decide_eq_false_iff_not, Bool.not_eq_true', Bool.not_eq_false', Bool.and_eq_true, Bool.or_eq_true, Bool.and_eq_false_imp, Bool.or_eq_false_iff] at h1)
  · have hjl : j < xs.length := by omega
    rcases hrow with rfl | ⟨bp, offp, rfl, hrow⟩
    · simp at hjl
    have hA : At I bp (offp + (j : Int).toNat * 1) [w8 (xs.getD j 0)] := by
      obtain ⟨cs, hr, hA⟩ := hrow j _ (List.getElem?_eq_getElem hjl)
      obtain rfl : cs = _ := hr
      rw [List.getD_eq_getElem?_getD, List.getElem?_eq_getElem hjl]
      exact hA
    generalize hb : xs.getD j 0 = b at *
    have hblt := b.toNat_lt
    repeat (first | refine Run.seq ?_ | refine Run.skip ?_ | refine Run.block ?_)
    refine Run.regionO (D := [some 14, some 15, some 5]) [true, true, true] rfl rfl rfl (fun Z hZ => ?_)
    refine QD.e (Ev.indexS T rfl rfl rfl rfl (by first | omega | (simp only [List.length_cons, List.length_nil] ; omega) | (simp; omega)) (by first | omega | (simp only [List.length_cons, List.length_nil] ; omega) | (simp; omega))) (by decide) rfl ?_
    first | refine QD.yv (by decide) rfl (Yv.load 0 T rfl rfl rfl rfl) ?_ | refine QD.yv (by decide) rfl (Yv.load 1 T rfl rfl rfl rfl) ?_ | refine QD.yv (by decide) rfl (Yv.load 2 T rfl rfl rfl rfl) ?_ | refine QD.yv (by decide) rfl (Yv.loadI T hA rfl rfl) ?_
    refine QD.ev T (by decide) rfl rfl ?_
    refine QD.nil (hZ _ ?_)
    clear hZ Z
    skip
    refine Run.regionAny (fun _ => True) (bl 10 0) (by kernel_rfl) (by kernel_rfl) ?_
    refine RAny.tk 0 (bl 10 1) rfl (by kernel_rfl) (by decide) (fun _ _ => trivial) (Yld.eval T rfl rfl) ?_
    refine RAny.tk 1 (bl 10 3) rfl (by kernel_rfl) (by decide) (fun _ _ => trivial) (Yld.eval T rfl rfl) ?_
    refine RAny.tk 2 (bl 10 7) rfl (by kernel_rfl) (by decide) (fun _ _ => trivial) (Yld.ev (Ev.shrN rfl rfl (by first | decide | omega) (by first | decide | omega)) rfl) ?_
    refine RAny.tk 3 (bl 10 15) rfl (by kernel_rfl) (by decide) (fun _ _ => trivial) (Yld.ev (Ev.indexT (s := dg) T rfl rfl rfl (Int.natCast_nonneg _) shr_lt) rfl) ?_
    refine RAny.tk 4 (bl 10 31) rfl (by kernel_rfl) (by decide) (fun _ _ => trivial) (Yld.eval T rfl rfl) ?_
    refine RAny.tk 5 (bl 10 63) rfl (by kernel_rfl) (by decide) (fun _ _ => trivial) (Yld.ev (Ev.andN rfl rfl (by decide) (by first | decide | exact UInt8.toNat_lt _ | omega) (by decide)) rfl) ?_
    refine RAny.tk 6 (bl 10 127) rfl (by kernel_rfl) (by decide) (fun _ _ => trivial) (Yld.ev (Ev.indexT (s := dg) T rfl rfl rfl (by omega) and_lt) rfl) ?_
    refine RAny.on 7 (bl 10 255) rfl (by kernel_rfl) rfl (by decide) (Eff.lit T rfl rfl rfl (by decide) (by decide) rfl rfl rfl rfl rfl fun bq => ⟨fun _ _ => trivial, ?_⟩)
    refine RAny.on 8 (bl 10 511) rfl (by kernel_rfl) rfl (by decide) (Eff.appLit (hex2 b) (N := []) btB hT rfl rfl rfl rfl rfl (by rw [hl]; simp [hex2]; omega) fun vt Mo hT => ⟨fun _ _ => trivial, ?_⟩)
    have hT0 := hT
    obtain ⟨A2, c2, rfl⟩ := hT0.isSl
    refine RAny.tk 9 (bl 10 1023) rfl (by kernel_rfl) (by decide) (fun _ _ => trivial) (Yld.eval T rfl rfl) ?_
    refine RAny.done _ (by kernel_rfl) ?_
    repeat (first | refine Run.inBlock ?_)
    refine Run.regionO (D := [some 25, some 12]) [true, true] rfl rfl rfl (fun Z hZ => ?_)
    refine QD.e (Ev.addI rfl rfl (wI (by first | omega | (simp only [List.length_cons, List.length_nil] ; omega) | (simp; omega)) (by first | omega | (simp only [List.length_cons, List.length_nil] ; omega) | (simp; omega)))) (by decide) rfl ?_
    refine QD.ev T (by decide) rfl rfl ?_
    refine QD.nil (hZ _ ?_)
    clear hZ Z
    skip
    refine Run.keep [3, 10, 11, 12] [_, _, _, _] rfl ?_
    have e1 : hexL (xs.take j) ++ hex2 b = hexL (xs.take (j + 1)) := by
      unfold hexL
      rw [List.take_add_one, List.flatMap_append, ← hb, List.getD_eq_getElem?_getD, List.getElem?_eq_getElem hjl]
      simp
    rw [e1] at hT ⊢
    exact ih (xs.length - (j + 1)) _ _ _ (by omega) ⟨j + 1, A2, c2, Mo, rfl, by omega, hT, rfl, rfl, rfl⟩
  have : j = xs.length := by omega
  subst this
  rw [List.take_length] at hT ⊢
  clear ih h1
  repeat (first | refine Run.seq ?_ | refine Run.exit rfl ?_)
  refine Run.regionO (D := [some 26, some 27, some 2]) [true, true, true] rfl rfl rfl (fun Z hZ => ?_)
  refine QD.ev T (by decide) rfl rfl ?_
  refine QD.yv (by decide) rfl (Yv.bytesBuf T hT (fun _ h => h) rfl rfl rfl rfl) ?_
  refine QD.ev T (by decide) rfl rfl ?_
  refine QD.nil (hZ _ ?_)
  clear hZ Z
  skip
  refine Run.fin (Run.ret1 (by rw [hCf]; exact Proofs.Tryd.func30) Proofs.Tryd.results30 rfl (hR _ _ _ ?_))
  exact ⟨rfl, rfl⟩
def hex4 (x : Nat) : List UInt8 := [dg.getD (x >>> 12 &&& 15) 0, dg.getD (x >>> 8 &&& 15) 0, dg.getD (x >>> 4 &&& 15) 0, dg.getD (x &&& 15) 0]
set_option maxHeartbeats 1000000 in
theorem spec_hexes (I : Imm) (x : Nat) (hx : x < 2147483648) : Pure Proofs.Tryd.prog 17 [.int .i32 (x : Int)] I fun w J => w = str (hex4 x) := by
  have b1 : ∀ y, y &&& 15 ≤ 15 := fun y => Nat.and_le_right
  have b2 := b1 (x >>> 12)
  have b3 := b1 (x >>> 8)
  have b4 := b1 (x >>> 4)
  have b5 := b1 x
  have c2 : x >>> 12 ≤ x := Nat.shiftRight_le _ _
  have c3 : x >>> 8 ≤ x := Nat.shiftRight_le _ _
  have c4 : x >>> 4 ≤ x := Nat.shiftRight_le _ _
  refine Spec.enter 25 [(0, _)] Proofs.Tryd.func17 rfl Proofs.Tryd.ntmps17 (by simp) rfl ?_
  intro C hCf hR hCI
  repeat (first | refine Run.seq ?_)
  refine Run.regionO (D := [some 2]) [true] rfl rfl rfl (fun Z hZ => ?_)
  refine QD.ev T (by decide) rfl rfl ?_
  refine QD.nil (hZ _ ?_)
  clear hZ Z
  repeat (first | refine Run.seq ?_)
  refine Run.regionO (D := [some 3]) [true] rfl rfl rfl (fun Z hZ => ?_)
  refine QD.ev T (by decide) rfl rfl ?_
  refine QD.nil (hZ _ ?_)
  clear hZ Z
  repeat (first | refine Run.seq ?_)
  refine Run.regionT (D := [some 4, some 5, some 6, some 7, some 8, some 9, some 10, some 11, some 12, some 13, some 14, some 15, some 16, some 17, some 18, some 19, some 20, some 21, some 22, some 23, some 24, some 2]) (fun _ => True) [true, true, true, true, true, true, true, true, true, true, true, true, true, true, true, true, true, true, true] (bl 22 524287) 3 (by kernel_rfl) (by kernel_rfl) (by kernel_rfl) rfl (fun Z hZ => ?_)
  refine QD.ev T (by decide) rfl rfl ?_
  refine QD.ev T (by decide) rfl rfl ?_
  refine QD.e (Ev.shrN rfl rfl (by first | decide | omega) (by first | decide | omega)) (by decide) rfl ?_
  refine QD.e (Ev.andN rfl rfl (by decide) (by first | exact Nat.lt_of_le_of_lt (Nat.shiftRight_le _ _) (show _ < 2 ^ 32 by omega) | (show _ < 2 ^ 32; omega)) (by decide)) (by decide) rfl ?_
  refine QD.e (Ev.indexT (s := dg) T rfl rfl rfl (by omega) and_lt) (by decide) rfl ?_
  refine QD.ev T (by decide) rfl rfl ?_
  refine QD.ev T (by decide) rfl rfl ?_
  refine QD.e (Ev.shrN rfl rfl (by first | decide | omega) (by first | decide | omega)) (by decide) rfl ?_
  refine QD.e (Ev.andN rfl rfl (by decide) (by first | exact Nat.lt_of_le_of_lt (Nat.shiftRight_le _ _) (show _ < 2 ^ 32 by omega) | (show _ < 2 ^ 32; omega)) (by decide)) (by decide) rfl ?_
  refine QD.e (Ev.indexT (s := dg) T rfl rfl rfl (by omega) and_lt) (by decide) rfl ?_
  refine QD.ev T (by decide) rfl rfl ?_
  refine QD.ev T (by decide) rfl rfl ?_
  refine QD.e (Ev.shrN rfl rfl (by first | decide | omega) (by first | decide | omega)) (by decide) rfl ?_
  refine QD.e (Ev.andN rfl rfl (by decide) (by first | exact Nat.lt_of_le_of_lt (Nat.shiftRight_le _ _) (show _ < 2 ^ 32 by omega) | (show _ < 2 ^ 32; omega)) (by decide)) (by decide) rfl ?_
  refine QD.e (Ev.indexT (s := dg) T rfl rfl rfl (by omega) and_lt) (by decide) rfl ?_
  refine QD.ev T (by decide) rfl rfl ?_
  refine QD.ev T (by decide) rfl rfl ?_
  refine QD.e (Ev.andN rfl rfl (by decide) (by first | exact Nat.lt_of_le_of_lt (Nat.shiftRight_le _ _) (show _ < 2 ^ 32 by omega) | (show _ < 2 ^ 32; omega)) (by decide)) (by decide) rfl ?_
  refine QD.e (Ev.indexT (s := dg) T rfl rfl rfl (by omega) and_lt) (by decide) rfl ?_
  refine QD.nil (hZ _ ?_)
  clear hZ Z
  refine RAny.on 19 (bl 22 1048575) rfl (by kernel_rfl) rfl (by decide) (Eff.lit T rfl rfl rfl (by decide) (by decide) rfl rfl rfl rfl rfl fun bq => ⟨fun _ _ => trivial, ?_⟩)
  refine RAny.on 20 (bl 22 2097151) rfl (by kernel_rfl) rfl (by decide) (Eff.yv (Yv.bytesBuf (N := [(bq, blk ([] ++ wb (hex4 x) ++ []) 5)]) T (.inr ⟨bq, [], [], 4, rfl, rfl, by simp [hex4], by simp [hex4]⟩) (fun _ h => by rw [List.mem_singleton.1 h]; exact List.mem_singleton.2 rfl) rfl rfl rfl rfl) ⟨fun _ _ => trivial, ?_⟩)
  refine RAny.tk 21 (bl 22 4194303) rfl (by kernel_rfl) (by decide) (fun _ _ => trivial) (Yld.eval T rfl rfl) ?_
  refine RAny.done _ (by kernel_rfl) ?_
  skip
  refine Run.fin (Run.ret1 (by rw [hCf]; exact Proofs.Tryd.func17) Proofs.Tryd.results17 rfl (hR _ _ _ ?_))
  exact ⟨rfl, rfl⟩
end Go.V
/-
  Methods of interfaces in statements that draw their order; copies into a block that is written out.
-/
namespace Go.V
open Go.RowKit
set_option linter.unusedVariables false
set_option linter.unusedSimpArgs false
section
variable {P : Program} {n : Nat} {C : Cx} {k : List Item} {env : Env} {L : Own} {I : Imm} {ops : Array Oper} {i : Nat} {l : List Oper} {S : World → Prop}
variable {ty : TypeId} {ps : String} {af : Array Edge} {g : Option (Nat × Bool)} {d : Nat}
variable {x y : Operand} {t t' : TypeId} {kd kd' : IntKind}
theorem Ev.nilCheckM {u : Value} {name : String} (hx : opnd env x = some (.func (.method name) #[.iface t u] #[])) (hm : ∀ w, (nilAhead (P.types.size + Made.depth) t u name).run P w = .ok (some false) w) : Ev P n env (.nilCheck x) (.func (.method name) #[.iface t u] #[]) :=
  fun a W he _ _ _ _ _ => by
    have hp : (program).run P W = .ok P W := rfl
    simp [execOp, eval_opnd he hx, hp, hm]
theorem Ev.slice0H {ts e : TypeId} {A : Option Addr} {m c q : Nat} {lo hi : Operand} {size : Nat} {z : Int} (T : Tab P) (hu : T.und ts = some (.slice e)) (hz : T.size e = some size) (hx : opnd env x = some (.slice A m c)) (hlo : opnd env lo = some (.int kd z)) (hz0 : z = 0) (hhi : opnd env hi = some (.int kd' (q : Int))) (h1 : q ≤ c) :
    Ev P n env (.slice ts x (some lo) (some hi) none) (.slice A q c) :=
  fun a W he _ _ _ _ _ => by
    subst hz0
    have hb := run_sliceBounds (P := P) (hi := some (a.eval hi)) (lo := some (a.eval lo)) (len := m) (cap := c) (l := 0) (h := q) (kd := kd') (kd' := kd) (.inr (by simp [eval_opnd he hhi])) (.inr (by simp [eval_opnd he hlo])) h1 (Nat.zero_le _) W
    have e1 : (A.map fun x => x.add 0) = A := by
      cases A with
      | none => rfl
      | some a0 => obtain ⟨b, off, sp⟩ := a0; simp [Addr.add]
    simp [execOp, Instr.sliceAt, Instr.slice, eval_opnd he hx, T.undOk hu, hb, T.sizeOk hz, e1]
variable {K : Value → Own → Imm → Prop}
theorem Eff.invokeM {f : FuncId} {m : String} {xs : List Operand} {ats : Array TypeId} {u rv : Value} {vs : List Value} {M N : Own} {R : Value → Imm → Own → Prop} (hs : Spec P f (rv :: vs) I M R) (hL : L.Perm (M ++ N)) (hc : ∀ args w, (callFunc f args).run P w = .ok (.enter f args) w)
    (hf : opnd env x = some (.iface t u)) (hm : ∀ w, (method (P.types.size + Made.depth) t u m).run P w = .ok (f, rv) w) (hx : opnds env xs = some vs) (next : ∀ v J M', Le I J → R v J M' → K v (M' ++ N) J) :
    Eff P n C env L I ⟨some d, .call ⟨.invoke x m, xs.toArray, ats⟩, ty, ps, af, g⟩ K :=
  Eff.callW (fun a W he => run_invoke hc he hf hm hx) hL hs next
theorem QD.invoke {D : List (Option Nat)} {Z : Env → Prop} {m : List Bool} {r : List Oper} {f : FuncId} {nm : String} {xs : List Operand} {ats : Array TypeId} {u rv v : Value} {vs : List Value} (hs : Pure P f (rv :: vs) I fun w J => w = v) (hd : d < n) (hg : wantD env D g = some true) (hc : ∀ args w, (callFunc f args).run P w = .ok (.enter f args) w)
    (hf : opnd env x = some (.iface t u)) (hm : ∀ w, (method (P.types.size + Made.depth) t u nm).run P w = .ok (f, rv) w) (hx : opnds env xs = some vs)
    (next : QD P n C D L I Z m r ((d, v) :: env)) : QD P n C D L I Z (true :: m) (⟨some d, .call ⟨.invoke x nm, xs.toArray, ats⟩, ty, ps, af, g⟩ :: r) env :=
  QD.callW hd hg (fun a W he => run_invoke hc he hf hm hx) hs.keeps next
/-- the block b holds these bytes, from pre on -/
def bobj (pre : List Value) (xs : List UInt8) (post : List Value) (e : TypeId) : Obj := blk (pre ++ wb xs ++ post) e
theorem bobj_upd {pre post : List Value} {xs : List UInt8} {e : TypeId} (m : Nat) (hm : m ≤ xs.length) : bobj pre (xs.take m) (wb (xs.drop m) ++ post) e = bobj pre xs post e := by
  unfold bobj
  have e3 : wb xs = wb (xs.take m) ++ wb (xs.drop m) := by rw [wb, wb, wb, ← List.map_append, List.take_append_drop]
  rw [e3]
  simp only [List.append_assoc]
theorem run_copy_at {dT sT e : TypeId} (hE : Bt P dT e) {W : World} {w0 : World} {I0 : Imm} {L0 : List Nat} {N : Own} {b cap : Nat} {pre post : List Value} {xs s : List UInt8} (hi : Inv w0 I0 L0 I ((b, bobj pre xs post e) :: N) W) :
    ∃ W', (Builtin.copy_ #[dT, sT] ty #[.slice (some ⟨b, pre.length, none⟩) xs.length cap, str s]).run P W = .ok (.int .i64 (min s.length xs.length : Nat)) W' ∧ Inv w0 I0 L0 I ((b, bobj pre (s.take xs.length ++ xs.drop s.length) post e) :: N) W' := by
  obtain ⟨iE, z, hinfo, hzero, hs1, hb1, hzs⟩ := hE.el.info
  have hfirst : ∀ m, (Builtin.firstCells 1 m (str s)).run P W = .ok (wb (s.take m)).toArray W := by
    intro m
    simp only [Builtin.firstCells, str, Nat.mul_one]
    show Result.ok _ W = _
    congr 1
    apply Array.ext'
    simp [wb, ByteArray.data_extract]
  have hW := hi.fits.own b _ List.mem_cons_self
  have hmin : (s.take xs.length).length = min s.length xs.length := by simp [Nat.min_comm]
  have hfl : ∀ m, m = min s.length xs.length → s.take m = s.take xs.length := by
    intro m hm; subst hm; rw [List.take_eq_take_iff]; omega
  have hst := run_storeCells_at P b pre.length e (wb (s.take xs.length)) 0 (pre ++ wb xs ++ post).toArray W hW (by simp; omega) (fun u hu => by
      obtain ⟨y, _, rfl⟩ := List.mem_map.1 hu
      rfl)
  have hcs2 : (((pre ++ wb xs ++ post).toArray.toList.take pre.length ++ wb (s.take xs.length) ++ (pre ++ wb xs ++ post).toArray.toList.drop (pre.length + (wb (s.take xs.length)).length)).toArray) = (pre ++ wb (s.take xs.length ++ xs.drop s.length) ++ post).toArray := by
    congr 1
    show (pre ++ wb xs ++ post).take _ ++ _ ++ (pre ++ wb xs ++ post).drop _ = _
    rw [List.append_assoc pre, List.take_left, List.drop_append]
    simp only [List.length_map, hmin, List.map_append]
    rw [show List.drop (pre.length + min s.length xs.length) pre = [] from List.drop_eq_nil_of_le (by omega), Nat.add_sub_cancel_left, List.drop_append]
    rw [show min s.length xs.length - (List.map w8 xs).length = 0 by simp; omega, List.drop_zero, List.nil_append, ← List.map_drop]
    have e3 : xs.drop (min s.length xs.length) = xs.drop s.length := by
      by_cases hle : s.length ≤ xs.length
      · rw [Nat.min_eq_left hle]
      · rw [Nat.min_eq_right (by omega), List.drop_length, List.drop_eq_nil_of_le (by omega)]
    rw [e3]
    simp [wb]
  simp only [Nat.add_zero] at hst
  rw [hcs2] at hst
  refine ⟨W.setRow b (pre ++ wb (s.take xs.length ++ xs.drop s.length) ++ post).toArray, ?_, hi.upd rfl rfl rfl (by simp) (fun c _ hcb => setRow_other W b c _ hcb) (setRow_heap W b _ _ e _ hW)⟩
  have h1 := hfirst (Nat.min s.length xs.length)
  rw [hfl _ rfl] at h1
  have e4 : (Builtin.copy_ #[dT, sT] ty #[.slice (some ⟨b, pre.length, none⟩) xs.length cap, str s]).run P W = ((Builtin.firstCells 1 (Nat.min s.length xs.length) (str s)).run P W).andThen (fun cells w => (storeCells ⟨b, pre.length, none⟩ cells.toList).run P w |>.andThen fun _ w => .ok (goInt (Nat.min s.length xs.length)) w) := by
    simp [Builtin.copy_, run_underlying hE.el.under, Builtin.lenOf, str, str_size, sizeOf, typeInfo, hinfo, hs1]
  rw [e4, h1]
  simp only [Result.andThen]
  show (Sem.run P (storeCells ⟨b, pre.length, none⟩ (wb (List.take xs.length s))) W).andThen _ = _
  rw [hst]
  rfl
theorem Eff.copyAt {s x : Operand} {ts tx e : TypeId} {N : Own} {b cap : Nat} {pre post : List Value} {xs ys : List UInt8} (hE : Bt P ts e) (hs : opnd env s = some (.slice (some ⟨b, pre.length, none⟩) xs.length cap)) (hx : opnd env x = some (str ys)) (hL : L.Perm ((b, bobj pre xs post e) :: N))
    (next : K (.int .i64 (min ys.length xs.length : Nat)) ((b, bobj pre (ys.take xs.length ++ xs.drop ys.length) post e) :: N) I) : Eff P n C env L I ⟨some d, .call ⟨.builtin .copy, #[s, x], #[ts, tx]⟩, ty, ps, af, g⟩ K :=
  Eff.valW fun a W he hi => by
    obtain ⟨W', hr, hi'⟩ := run_copy_at (P := P) (ty := ty) (sT := tx) (s := ys) (cap := cap) hE (hi.perm hL)
    refine ⟨_, W', _, I, .inl ?_, hi', next⟩
    simp [execOp, resolve, Go.invoke, builtin, eval_opnd he hs, eval_opnd he hx, hr]
end
end Go.V
/-
  Readers: of a text; by parts.
-/
namespace Go.V
open Go.RowKit
set_option linter.unusedVariables false
set_option linter.unusedSimpArgs false
set_option maxRecDepth 10000
attribute [local irreducible] Run Ops QD
def rdO (s : List UInt8) (i : Nat) (pr : Int) : Obj := blk [str s, .int .i64 i, .int .i64 pr] 77
theorem strings_NewReader (I : Imm) (s : List UInt8) : Spec Proofs.Tryd.prog 13 [str s] I [] fun w J M => ∃ r, w = .pointer (some ⟨r, 0, none⟩) ∧ M = [(r, rdO s 0 (-1))] := by
  refine Spec.enter 6 [(0, _)] Proofs.Tryd.func13 rfl Proofs.Tryd.ntmps13 (by simp) rfl ?_
  intro C hCf hR hCI
  repeat (first | refine Run.seq ?_)
  refine Run.regionO (D := [some 2]) [true] rfl rfl rfl (fun Z hZ => ?_)
  refine QD.ev T (by decide) rfl rfl ?_
  refine QD.nil (hZ _ ?_)
  clear hZ Z
  repeat (first | refine Run.seq ?_)
  refine Run.regionP (D := [some 3, some 4, some 5, some 2]) [true, true] 2 rfl rfl rfl (by simp only [List.drop_succ_cons, List.drop_zero]; rfl) (fun Z hZ => ?_)
  refine QD.ev T (by decide) rfl rfl ?_
  refine QD.e (Ev.buildS bd77 rfl rfl) (by decide) rfl ?_
  refine QD.nil (hZ _ ?_)
  clear hZ Z
  refine Ops.box rfl (by decide) rfl rfl (fun r => ?_)
  refine Ops.pure T rfl (by decide) rfl ?_
  refine Ops.nil ?_
  skip
  refine Run.ret1 (by rw [hCf]; exact Proofs.Tryd.func13) Proofs.Tryd.results13 rfl (hR _ _ _ ?_)
  exact ⟨r, rfl, rfl⟩
/-- what a read answers -/
def rdAns (eof : Value) (s : List UInt8) (i m : Nat) : Value := if s.length ≤ i then .tuple #[.int .i64 0, eof] else .tuple #[.int .i64 (min (s.length - i) m : Nat), .nilIface]
def rdNext (s : List UInt8) (i m : Nat) (pr : Int) : Obj := if s.length ≤ i then rdO s i pr else rdO s (i + min (s.length - i) m) (-1)
def rdBytes (s : List UInt8) (i : Nat) (xs : List UInt8) : List UInt8 := if s.length ≤ i then xs else (s.drop i).take xs.length ++ xs.drop (s.length - i)
set_option maxHeartbeats 1000000 in
theorem strings_Read (I : Imm) (s xs : List UInt8) (r b i cap : Nat) (pr : Int) (pre post : List Value) (et : TypeId) (ev : Value) (hE : At I 2 0 [.iface et ev]) (hs : s.length ≤ 1099511627776) (hi : i ≤ s.length) :
    Spec Proofs.Tryd.prog 79 [.pointer (some ⟨r, 0, none⟩), .slice (some ⟨b, pre.length, none⟩) xs.length cap] I [(r, rdO s i pr), (b, bobj pre xs post 5)] fun w J M =>
      w = rdAns (.iface et ev) s i xs.length ∧ M = [(r, rdNext s i xs.length pr), (b, bobj pre (rdBytes s i xs) post 5)] := by
  refine Spec.enter 39 [(0, _), (1, _)] Proofs.Tryd.func79 rfl Proofs.Tryd.ntmps79 (by simp) rfl ?_
  intro C hCf hR hCI
  repeat (first | refine Run.seq ?_)
  refine Run.regionO (D := [some 4, some 5]) [true, true] rfl rfl rfl (fun Z hZ => ?_)
  refine QD.ev T (by decide) rfl rfl ?_
  refine QD.ev T (by decide) rfl rfl ?_
  refine QD.nil (hZ _ ?_)
  clear hZ Z
  repeat (first | refine Run.seq ?_)
  refine Run.regionQ (D := [some 6, some 7, some 8, some 9, some 10, some 11, some 12, some 13, some 14, some 15]) [true, true, true, true, true, true, true, true, true, true] (bl 10 1023) (by kernel_rfl) (by kernel_rfl) (by kernel_rfl) (by kernel_rfl) rfl (fun Z hZ => ?_)
  refine QD.ev T (by decide) rfl rfl ?_
  refine QD.ev T (by decide) rfl rfl ?_
  refine QD.ev T (by decide) rfl rfl ?_
  first | refine QD.yv (by decide) rfl (Yv.load 0 T rfl rfl rfl rfl) ?_ | refine QD.yv (by decide) rfl (Yv.load 1 T rfl rfl rfl rfl) ?_ | refine QD.yv (by decide) rfl (Yv.load 2 T rfl rfl rfl rfl) ?_
  refine QD.ev T (by decide) rfl rfl ?_
  refine QD.ev T (by decide) rfl rfl ?_
  refine QD.ev T (by decide) rfl rfl ?_
  first | refine QD.yv (by decide) rfl (Yv.load 0 T rfl rfl rfl rfl) ?_ | refine QD.yv (by decide) rfl (Yv.load 1 T rfl rfl rfl rfl) ?_ | refine QD.yv (by decide) rfl (Yv.load 2 T rfl rfl rfl rfl) ?_
  refine QD.e (Ev.lenS T rfl rfl) (by decide) rfl ?_
  refine QD.e (Ev.geq rfl rfl) (by decide) rfl ?_
  refine QD.nil (hZ _ ?_)
  clear hZ Z
  skip
  refine Run.cond rfl rfl (fun h1 => ?_) (fun h1 => ?_)
  all_goals (try rw [h1])
  all_goals (try simp only [decide_eq_true_eq, decide_eq_false_iff_not, Bool.not_eq_true', Bool.not_eq_false', Bool.and_eq_true, Bool.or_eq_true, Bool.and_eq_false_imp, Bool.or_eq_false_iff] at h1)
  · have h1' : s.length ≤ i := by omega
    repeat (first | refine Run.seq ?_)
    refine Run.regionQ (D := [some 16, some 4, some 5]) [true, true, true] (bl 3 7) (by kernel_rfl) (by kernel_rfl) (by kernel_rfl) (by kernel_rfl) rfl (fun Z hZ => ?_)
    refine QD.yv (by decide) rfl (Yv.loadI T hE rfl rfl) ?_
    refine QD.ev T (by decide) rfl rfl ?_
    refine QD.ev T (by decide) rfl rfl ?_
    refine QD.nil (hZ _ ?_)
    clear hZ Z
    skip
    refine Run.ret2 (by rw [hCf]; exact Proofs.Tryd.func79) Proofs.Tryd.results79 rfl rfl (hR _ _ _ ?_)
    unfold rdAns rdNext rdBytes
    rw [if_pos h1', if_pos h1', if_pos h1']
    exact ⟨rfl, rfl⟩
  · have h1' : ¬ s.length ≤ i := by omega
    repeat (first | refine Run.seq ?_ | refine Run.skip ?_)
    refine Run.regionP (D := [some 17, some 18, some 19, none]) [true, true, true] 3 rfl rfl rfl (by simp only [List.drop_succ_cons, List.drop_zero]; rfl) (fun Z hZ => ?_)
    refine QD.ev T (by decide) rfl rfl ?_
    refine QD.ev T (by decide) rfl rfl ?_
    refine QD.ev T (by decide) rfl rfl ?_
    refine QD.nil (hZ _ ?_)
    clear hZ Z
    first | refine Ops.store 0 rfl rfl rfl rfl rfl (T.sizeOk rfl) rfl (Nat.le_of_ble_eq_true rfl) rfl rfl ?_ | refine Ops.store 1 rfl rfl rfl rfl rfl (T.sizeOk rfl) rfl (Nat.le_of_ble_eq_true rfl) rfl rfl ?_ | refine Ops.store 2 rfl rfl rfl rfl rfl (T.sizeOk rfl) rfl (Nat.le_of_ble_eq_true rfl) rfl rfl ?_
    refine Ops.nil ?_
    repeat (first | refine Run.seq ?_)
    refine Run.regionT (D := [some 20, some 21, some 22, some 23, some 24, some 25, some 26, some 27, some 28, some 29, some 30, some 4]) (fun _ => True) [true, true, true, true, true, true, true, true, true, true] (bl 12 1023) 2 (by kernel_rfl) (by kernel_rfl) (by kernel_rfl) rfl (fun Z hZ => ?_)
    refine QD.ev T (by decide) rfl rfl ?_
    refine QD.ev T (by decide) rfl rfl ?_
    refine QD.ev T (by decide) rfl rfl ?_
    refine QD.ev T (by decide) rfl rfl ?_
    first | refine QD.yv (by decide) rfl (Yv.load 0 T rfl rfl rfl rfl) ?_ | refine QD.yv (by decide) rfl (Yv.load 1 T rfl rfl rfl rfl) ?_ | refine QD.yv (by decide) rfl (Yv.load 2 T rfl rfl rfl rfl) ?_
    refine QD.ev T (by decide) rfl rfl ?_
    refine QD.ev T (by decide) rfl rfl ?_
    refine QD.ev T (by decide) rfl rfl ?_
    first | refine QD.yv (by decide) rfl (Yv.load 0 T rfl rfl rfl rfl) ?_ | refine QD.yv (by decide) rfl (Yv.load 1 T rfl rfl rfl rfl) ?_ | refine QD.yv (by decide) rfl (Yv.load 2 T rfl rfl rfl rfl) ?_
    refine QD.e (Ev.cutSLo T rfl rfl rfl (by first | omega | (simp only [List.length_cons, List.length_nil] ; omega) | (simp; omega)) (by first | omega | (simp only [List.length_cons, List.length_nil] ; omega) | (simp; omega))) (by decide) rfl ?_
    refine QD.nil (hZ _ ?_)
    clear hZ Z
    rw [Int.toNat_natCast]
    refine RAny.on 10 (bl 12 2047) rfl (by kernel_rfl) rfl (by decide) (Eff.copyAt (N := [(r, _)]) btB rfl rfl (List.Perm.swap _ _ _) ⟨fun _ _ => trivial, ?_⟩)
    refine RAny.tk 11 (bl 12 4095) rfl (by kernel_rfl) (by decide) (fun _ _ => trivial) (Yld.eval T rfl rfl) ?_
    refine RAny.done _ (by kernel_rfl) ?_
    repeat (first | refine Run.seq ?_)
    have hm : (min (s.drop i).length xs.length : Nat) = min (s.length - i) xs.length := by simp
    rw [hm]
    refine Run.regionP (D := [some 31, some 32, some 33, some 34, some 35, some 36, some 37, some 38, none]) [true, true, true, true, true, true, true, true] 8 rfl rfl rfl (by simp only [List.drop_succ_cons, List.drop_zero]; rfl) (fun Z hZ => ?_)
    refine QD.ev T (by decide) rfl rfl ?_
    refine QD.ev T (by decide) rfl rfl ?_
    refine QD.ev T (by decide) rfl rfl ?_
    first | refine QD.yv (by decide) rfl (Yv.load 0 T rfl rfl rfl rfl) ?_ | refine QD.yv (by decide) rfl (Yv.load 1 T rfl rfl rfl rfl) ?_ | refine QD.yv (by decide) rfl (Yv.load 2 T rfl rfl rfl rfl) ?_
    refine QD.ev T (by decide) rfl rfl ?_
    refine QD.e (Ev.addI rfl rfl (wI (by first | omega | (simp only [List.length_cons, List.length_nil] ; omega) | (simp; omega)) (by first | omega | (simp only [List.length_cons, List.length_nil] ; omega) | (simp; omega)))) (by decide) rfl ?_
    refine QD.ev T (by decide) rfl rfl ?_
    refine QD.ev T (by decide) rfl rfl ?_
    refine QD.nil (hZ _ ?_)
    clear hZ Z
    first | refine Ops.store 0 rfl rfl rfl rfl rfl (T.sizeOk rfl) rfl (Nat.le_of_ble_eq_true rfl) rfl rfl ?_ | refine Ops.store 1 rfl rfl rfl rfl rfl (T.sizeOk rfl) rfl (Nat.le_of_ble_eq_true rfl) rfl rfl ?_ | refine Ops.store 2 rfl rfl rfl rfl rfl (T.sizeOk rfl) rfl (Nat.le_of_ble_eq_true rfl) rfl rfl ?_
    refine Ops.nil ?_
    skip
    refine Run.perm (List.Perm.swap _ _ _) ?_
    refine Run.ret2 (by rw [hCf]; exact Proofs.Tryd.func79) Proofs.Tryd.results79 rfl rfl (hR _ _ _ ?_)
    unfold rdAns rdNext rdBytes
    rw [if_neg h1', if_neg h1', if_neg h1']
    refine ⟨rfl, ?_⟩
    rw [List.length_drop]
    rfl
theorem meth_rd : ∀ u w, (method (Proofs.Tryd.prog.types.size + Made.depth) 43 u "Read").run Proofs.Tryd.prog w = .ok (79, u) w := by intro u w; kernel_rfl
theorem meth_parts : ∀ u w, (method (Proofs.Tryd.prog.types.size + Made.depth) 48 u "Read").run Proofs.Tryd.prog w = .ok (83, u) w := by intro u w; kernel_rfl
/-- how much is asked for -/
def askN (part : Int) (m : Nat) : Nat := if 0 < part ∧ part < m then part.toNat else m
theorem askN_le (part : Int) (m : Nat) : askN part m ≤ m := by unfold askN; split <;> omega
theorem askN_pos {part : Int} {m : Nat} (h : 0 < m) : 0 < askN part m := by unfold askN; split <;> omega
set_option maxHeartbeats 1000000 in
theorem parts_Read (I : Imm) (s xs : List UInt8) (r b i cap : Nat) (pr part : Int) (pre post : List Value) (et : TypeId) (ev : Value) (hE : At I 2 0 [.iface et ev]) (hs : s.length ≤ 1099511627776) (hi : i ≤ s.length) (hcap : xs.length ≤ cap) :
    Spec Proofs.Tryd.prog 83 [.agg #[.iface 43 (.pointer (some ⟨r, 0, none⟩)), .int .i64 part], .slice (some ⟨b, pre.length, none⟩) xs.length cap] I [(r, rdO s i pr), (b, bobj pre xs post 5)] fun w J M =>
      w = rdAns (.iface et ev) s i (askN part xs.length) ∧ ∃ ys, ys.length = xs.length ∧ (i < s.length → ys.take (min (s.length - i) (askN part xs.length)) = (s.drop i).take (askN part xs.length)) ∧ M = [(r, rdNext s i (askN part xs.length) pr), (b, bobj pre ys post 5)] := by
  have key : ∀ M : Own, M = [(r, rdNext s i (xs.take (askN part xs.length)).length pr), (b, bobj pre (rdBytes s i (xs.take (askN part xs.length))) (wb (xs.drop (askN part xs.length)) ++ post) 5)] →
      ∃ ys, ys.length = xs.length ∧ (i < s.length → ys.take (min (s.length - i) (askN part xs.length)) = (s.drop i).take (askN part xs.length)) ∧ M = [(r, rdNext s i (askN part xs.length) pr), (b, bobj pre ys post 5)] := by
    intro M hM
    have h0' := askN_le part xs.length
    have hlt : (xs.take (askN part xs.length)).length = askN part xs.length := by simp; omega
    have hrl : (rdBytes s i (xs.take (askN part xs.length))).length = askN part xs.length := by
      unfold rdBytes
      split
      · exact hlt
      · rw [List.length_append, List.length_take, List.length_drop, List.length_drop, hlt]; omega
    refine ⟨rdBytes s i (xs.take (askN part xs.length)) ++ xs.drop (askN part xs.length), by rw [List.length_append, hrl, List.length_drop]; omega, fun h => ?_, ?_⟩
    · rw [List.take_append_of_le_length (by rw [hrl]; omega)]
      unfold rdBytes
      rw [if_neg (by omega), hlt, List.take_append_of_le_length (by simp; omega), List.take_take, Nat.min_eq_left (by omega)]
      rw [List.take_eq_take_iff, List.length_drop]
      omega
    · rw [hM, hlt]
      have e : ∀ zs us : List UInt8, bobj pre zs (wb us ++ post) 5 = bobj pre (zs ++ us) post 5 := fun zs us => by unfold bobj; simp [wb]
      rw [e]
  have hlt : (xs.take (askN part xs.length)).length = askN part xs.length := by have := askN_le part xs.length; simp; omega
  have h0' := askN_le part xs.length
  refine Spec.enter 26 [(0, _), (1, _)] Proofs.Tryd.func83 rfl Proofs.Tryd.ntmps83 (by simp) rfl ?_
  intro C hCf hR hCI
  repeat (first | refine Run.seq ?_)
  refine Run.region ?_
  refine Ops.box rfl (by decide) rfl rfl (fun b2 => ?_)
  refine Ops.pure T rfl (by decide) rfl ?_
  refine Ops.pure T rfl (by decide) rfl ?_
  refine Ops.nil ?_
  repeat (first | refine Run.seq ?_)
  refine Run.regionP (D := [some 6, some 7, some 8, some 9, some 10, some 11, some 12, some 13, some 14, some 15]) [true, true, true] 3 rfl rfl rfl (by simp only [List.drop_succ_cons, List.drop_zero]; rfl) (fun Z hZ => ?_)
  refine QD.ev T (by decide) rfl rfl ?_
  first | refine QD.yv (by decide) rfl (Yv.load 0 T rfl rfl rfl rfl) ?_ | refine QD.yv (by decide) rfl (Yv.load 1 T rfl rfl rfl rfl) ?_ | refine QD.yv (by decide) rfl (Yv.load 2 T rfl rfl rfl rfl) ?_
  refine QD.e (Ev.gtr rfl rfl) (by decide) rfl ?_
  refine QD.nil (hZ _ ?_)
  clear hZ Z
  cases e1 : decide ((0 : Int) < part) with
  | false =>
    have e1' := of_decide_eq_false e1
    have hask : askN part xs.length = xs.length := by unfold askN; rw [if_neg (by omega)]
    refine Ops.pure T rfl (by decide) rfl ?_
    first | refine Ops.pure T rfl (by decide) rfl ?_ | refine Ops.not rfl (by decide) ?_ | refine Ops.notU rfl (by decide) ?_
    first | refine Ops.pure T rfl (by decide) rfl ?_ | refine Ops.not rfl (by decide) ?_ | refine Ops.notU rfl (by decide) ?_
    first | refine Ops.pure T rfl (by decide) rfl ?_ | refine Ops.not rfl (by decide) ?_ | refine Ops.notU rfl (by decide) ?_
    first | refine Ops.load 0 rfl (by decide) rfl rfl (T.aggOk rfl) rfl ?_ | refine Ops.load 1 rfl (by decide) rfl rfl (T.aggOk rfl) rfl ?_ | refine Ops.load 2 rfl (by decide) rfl rfl (T.aggOk rfl) rfl ?_ | refine Ops.not rfl (by decide) ?_ | refine Ops.notU rfl (by decide) ?_
    first | refine Ops.ev (Ev.gtr rfl rfl) rfl (by decide) ?_ | refine Ops.not rfl (by decide) ?_ | refine Ops.notU rfl (by decide) ?_
    refine Ops.pure T rfl (by decide) rfl ?_
    refine Ops.nil ?_
    repeat (first | refine Run.seq ?_ | refine Run.skip ?_ | refine Run.cond_f rfl ?_)
    refine Run.regionP (D := [some 20, some 21, some 22, some 23, some 24, some 25, some 4, some 5]) [true, true, true] 3 rfl rfl rfl (by simp only [List.drop_succ_cons, List.drop_zero]; rfl) (fun Z hZ => ?_)
    refine QD.ev T (by decide) rfl rfl ?_
    first | refine QD.yv (by decide) rfl (Yv.load 0 T rfl rfl rfl rfl) ?_ | refine QD.yv (by decide) rfl (Yv.load 1 T rfl rfl rfl rfl) ?_ | refine QD.yv (by decide) rfl (Yv.load 2 T rfl rfl rfl rfl) ?_
    refine QD.ev T (by decide) rfl rfl ?_
    refine QD.nil (hZ _ ?_)
    clear hZ Z
    refine Ops.invokeM (M := [(r, rdO s i pr), (b, bobj pre (xs.take (askN part xs.length)) (wb (xs.drop (askN part xs.length)) ++ post) 5)]) (N := [(b2, _)]) (strings_Read I s (xs.take (askN part xs.length)) r b i cap pr pre _ et ev hE hs hi) (by rw [bobj_upd _ (askN_le _ _)]; exact (List.Perm.swap _ _ _).trans ((List.Perm.swap _ _ _).cons _)) rfl (by decide) Proofs.Tryd.call79 rfl (meth_rd _) (by rw [hlt, hask]; rfl) ?_
    rintro _ J M l1 ⟨rfl, hM⟩
    refine Ops.dropL (L' := M) (List.sublist_append_left _ _) ?_
    rw [hlt]
    unfold rdAns
    by_cases hq : s.length ≤ i
    · skip
      rw [if_pos hq]
      refine Ops.pure T rfl (by decide) rfl ?_
      refine Ops.pure T rfl (by decide) rfl ?_
      refine Ops.pure T rfl (by decide) rfl ?_
      refine Ops.pure T rfl (by decide) rfl ?_
      refine Ops.nil ?_
      skip
      refine Run.ret2 (by rw [hCf]; exact Proofs.Tryd.func83) Proofs.Tryd.results83 rfl rfl (hR _ _ _ ?_)
      unfold rdAns
      rw [if_pos hq]
      exact ⟨rfl, key M hM⟩
    · skip
      rw [if_neg hq]
      refine Ops.pure T rfl (by decide) rfl ?_
      refine Ops.pure T rfl (by decide) rfl ?_
      refine Ops.pure T rfl (by decide) rfl ?_
      refine Ops.pure T rfl (by decide) rfl ?_
      refine Ops.nil ?_
      skip
      refine Run.ret2 (by rw [hCf]; exact Proofs.Tryd.func83) Proofs.Tryd.results83 rfl rfl (hR _ _ _ ?_)
      unfold rdAns
      rw [if_neg hq]
      exact ⟨rfl, key M hM⟩
  | true =>
    have e1' := of_decide_eq_true e1
    skip
    refine Ops.pure T rfl (by decide) rfl ?_
    first | refine Ops.pure T rfl (by decide) rfl ?_ | refine Ops.not rfl (by decide) ?_ | refine Ops.notU rfl (by decide) ?_
    first | refine Ops.pure T rfl (by decide) rfl ?_ | refine Ops.not rfl (by decide) ?_ | refine Ops.notU rfl (by decide) ?_
    first | refine Ops.pure T rfl (by decide) rfl ?_ | refine Ops.not rfl (by decide) ?_ | refine Ops.notU rfl (by decide) ?_
    first | refine Ops.load 0 rfl (by decide) rfl rfl (T.aggOk rfl) rfl ?_ | refine Ops.load 1 rfl (by decide) rfl rfl (T.aggOk rfl) rfl ?_ | refine Ops.load 2 rfl (by decide) rfl rfl (T.aggOk rfl) rfl ?_ | refine Ops.not rfl (by decide) ?_ | refine Ops.notU rfl (by decide) ?_
    first | refine Ops.ev (Ev.gtr rfl rfl) rfl (by decide) ?_ | refine Ops.not rfl (by decide) ?_ | refine Ops.notU rfl (by decide) ?_
    cases e2 : decide (part < (xs.length : Int)) with
    | false =>
      have e2' := of_decide_eq_false e2
      have hask : askN part xs.length = xs.length := by unfold askN; rw [if_neg (by omega)]
      refine Ops.pure T rfl (by decide) rfl ?_
      refine Ops.nil ?_
      repeat (first | refine Run.seq ?_ | refine Run.skip ?_ | refine Run.cond_f rfl ?_)
      refine Run.regionP (D := [some 20, some 21, some 22, some 23, some 24, some 25, some 4, some 5]) [true, true, true] 3 rfl rfl rfl (by simp only [List.drop_succ_cons, List.drop_zero]; rfl) (fun Z hZ => ?_)
      refine QD.ev T (by decide) rfl rfl ?_
      first | refine QD.yv (by decide) rfl (Yv.load 0 T rfl rfl rfl rfl) ?_ | refine QD.yv (by decide) rfl (Yv.load 1 T rfl rfl rfl rfl) ?_ | refine QD.yv (by decide) rfl (Yv.load 2 T rfl rfl rfl rfl) ?_
      refine QD.ev T (by decide) rfl rfl ?_
      refine QD.nil (hZ _ ?_)
      clear hZ Z
      refine Ops.invokeM (M := [(r, rdO s i pr), (b, bobj pre (xs.take (askN part xs.length)) (wb (xs.drop (askN part xs.length)) ++ post) 5)]) (N := [(b2, _)]) (strings_Read I s (xs.take (askN part xs.length)) r b i cap pr pre _ et ev hE hs hi) (by rw [bobj_upd _ (askN_le _ _)]; exact (List.Perm.swap _ _ _).trans ((List.Perm.swap _ _ _).cons _)) rfl (by decide) Proofs.Tryd.call79 rfl (meth_rd _) (by rw [hlt, hask]; rfl) ?_
      rintro _ J M l1 ⟨rfl, hM⟩
      refine Ops.dropL (L' := M) (List.sublist_append_left _ _) ?_
      rw [hlt]
      unfold rdAns
      by_cases hq : s.length ≤ i
      · skip
        rw [if_pos hq]
        refine Ops.pure T rfl (by decide) rfl ?_
        refine Ops.pure T rfl (by decide) rfl ?_
        refine Ops.pure T rfl (by decide) rfl ?_
        refine Ops.pure T rfl (by decide) rfl ?_
        refine Ops.nil ?_
        skip
        refine Run.ret2 (by rw [hCf]; exact Proofs.Tryd.func83) Proofs.Tryd.results83 rfl rfl (hR _ _ _ ?_)
        unfold rdAns
        rw [if_pos hq]
        exact ⟨rfl, key M hM⟩
      · skip
        rw [if_neg hq]
        refine Ops.pure T rfl (by decide) rfl ?_
        refine Ops.pure T rfl (by decide) rfl ?_
        refine Ops.pure T rfl (by decide) rfl ?_
        refine Ops.pure T rfl (by decide) rfl ?_
        refine Ops.nil ?_
        skip
        refine Run.ret2 (by rw [hCf]; exact Proofs.Tryd.func83) Proofs.Tryd.results83 rfl rfl (hR _ _ _ ?_)
        unfold rdAns
        rw [if_neg hq]
        exact ⟨rfl, key M hM⟩
    | true =>
      have e2' := of_decide_eq_true e2
      have hask : askN part xs.length = part.toNat := by unfold askN; rw [if_pos (by omega)]
      skip
      refine Ops.pure T rfl (by decide) rfl ?_
      refine Ops.nil ?_
      repeat (first | refine Run.cond_t rfl ?_)
      refine Run.regionO (D := [some 16, some 17, some 18, some 19, some 1]) [true, true, true, true, true] rfl rfl rfl (fun Z hZ => ?_)
      refine QD.ev T (by decide) rfl rfl ?_
      refine QD.ev T (by decide) rfl rfl ?_
      first | refine QD.yv (by decide) rfl (Yv.load 0 T rfl rfl rfl rfl) ?_ | refine QD.yv (by decide) rfl (Yv.load 1 T rfl rfl rfl rfl) ?_ | refine QD.yv (by decide) rfl (Yv.load 2 T rfl rfl rfl rfl) ?_
      refine QD.e (Ev.sliceHi' T rfl rfl rfl rfl (by first | omega | (simp only [List.length_cons, List.length_nil] ; omega) | (simp; omega)) (by first | omega | (simp only [List.length_cons, List.length_nil] ; omega) | (simp; omega))) (by decide) rfl ?_
      refine QD.ev T (by decide) rfl rfl ?_
      refine QD.nil (hZ _ ?_)
      clear hZ Z
      repeat (first | refine Run.seq ?_)
      refine Run.regionP (D := [some 20, some 21, some 22, some 23, some 24, some 25, some 4, some 5]) [true, true, true] 3 rfl rfl rfl (by simp only [List.drop_succ_cons, List.drop_zero]; rfl) (fun Z hZ => ?_)
      refine QD.ev T (by decide) rfl rfl ?_
      first | refine QD.yv (by decide) rfl (Yv.load 0 T rfl rfl rfl rfl) ?_ | refine QD.yv (by decide) rfl (Yv.load 1 T rfl rfl rfl rfl) ?_ | refine QD.yv (by decide) rfl (Yv.load 2 T rfl rfl rfl rfl) ?_
      refine QD.ev T (by decide) rfl rfl ?_
      refine QD.nil (hZ _ ?_)
      clear hZ Z
      refine Ops.invokeM (M := [(r, rdO s i pr), (b, bobj pre (xs.take (askN part xs.length)) (wb (xs.drop (askN part xs.length)) ++ post) 5)]) (N := [(b2, _)]) (strings_Read I s (xs.take (askN part xs.length)) r b i cap pr pre _ et ev hE hs hi) (by rw [bobj_upd _ (askN_le _ _)]; exact (List.Perm.swap _ _ _).trans ((List.Perm.swap _ _ _).cons _)) rfl (by decide) Proofs.Tryd.call79 rfl (meth_rd _) (by rw [hlt, hask]; rfl) ?_
      rintro _ J M l1 ⟨rfl, hM⟩
      refine Ops.dropL (L' := M) (List.sublist_append_left _ _) ?_
      rw [hlt]
      unfold rdAns
      by_cases hq : s.length ≤ i
      · skip
        rw [if_pos hq]
        refine Ops.pure T rfl (by decide) rfl ?_
        refine Ops.pure T rfl (by decide) rfl ?_
        refine Ops.pure T rfl (by decide) rfl ?_
        refine Ops.pure T rfl (by decide) rfl ?_
        refine Ops.nil ?_
        skip
        refine Run.ret2 (by rw [hCf]; exact Proofs.Tryd.func83) Proofs.Tryd.results83 rfl rfl (hR _ _ _ ?_)
        unfold rdAns
        rw [if_pos hq]
        exact ⟨rfl, key M hM⟩
      · skip
        rw [if_neg hq]
        refine Ops.pure T rfl (by decide) rfl ?_
        refine Ops.pure T rfl (by decide) rfl ?_
        refine Ops.pure T rfl (by decide) rfl ?_
        refine Ops.pure T rfl (by decide) rfl ?_
        refine Ops.nil ?_
        skip
        refine Run.ret2 (by rw [hCf]; exact Proofs.Tryd.func83) Proofs.Tryd.results83 rfl rfl (hR _ _ _ ?_)
        unfold rdAns
        rw [if_neg hq]
        exact ⟨rfl, key M hM⟩
end Go.V
/-
  Slices made in statements that draw their order.
-/
namespace Go.V
open Go.RowKit
set_option linter.unusedVariables false
set_option linter.unusedSimpArgs false
section
variable {P : Program} {n : Nat} {C : Cx} {k : List Item} {env : Env} {L : Own} {I : Imm} {ops : Array Oper} {i : Nat} {l : List Oper} {S : World → Prop}
variable {ty : TypeId} {ps : String} {af : Array Edge} {g : Option (Nat × Bool)} {d : Nat} {ts e : TypeId} {K : Value → Own → Imm → Prop}
theorem Eff.makeBuf {x y : Operand} {kl kc : IntKind} {a c : Nat} (hE : Bt P ts e) (hx : opnd env x = some (.int kl (a : Int))) (hy : opnd env y = some (.int kc (c : Int))) (hac : a ≤ c) (hc : c ≤ 281474976710656)
    (next : ∀ b, Buf e (.slice (some ⟨b, 0, none⟩) a c) (List.replicate a 0) [(b, blk (wb (List.replicate c 0)) e)] → K (.slice (some ⟨b, 0, none⟩) a c) ((b, blk (wb (List.replicate c 0)) e) :: L) I) :
    Eff P n C env L I ⟨some d, .makeSlice ts x y, ty, ps, af, g⟩ K :=
  Eff.valW fun a0 W he hi => by
    obtain ⟨iE, z, hinfo, hzero, hs1, hb1, hzs⟩ := hE.el.info
    obtain ⟨iE', hinfo', hz'⟩ := hE.zero
    obtain rfl : iE' = iE := Option.some.inj (hinfo'.symm.trans hinfo)
    obtain rfl : z = .int .u8 0 := Option.some.inj (hzero.symm.trans hz')
    have hr := run_make (P := P) W ts e iE' _ hE.el.under hinfo hzero kl kc (a : Int) (c : Int) (by omega) (by omega) (by rw [hb1]; omega) (by omega)
    rw [hs1, Nat.mul_one, Int.toNat_natCast, Int.toNat_natCast, madeCells_u8] at hr
    refine ⟨.slice (some ⟨W.heap.size, 0, none⟩) a c, _, (W.heap.size, blk (wb (List.replicate c 0)) e) :: L, I, .inl ?_, hi.alloc _, next _ (.inr ⟨W.heap.size, [], wb (List.replicate (c - a) 0), c, by simp, ?_, by simpa using hac, by simp; omega⟩)⟩
    · simp only [execOp, eval_opnd he hx, eval_opnd he hy, Sem.run_bind, hr, Result.andThen_ok]; rfl
    · simp only [List.nil_append, ← List.map_append, List.replicate_append_replicate]
      rw [show a + (c - a) = c by omega]
/-- a call that is lent the blocks N and is handed none -/
theorem Pure.lend {f : FuncId} {args : List Value} {N : Own} {R : Value → Prop} (h : ∀ J, Le I J → (∀ b o, (b, o) ∈ N → J b = some o) → Pure P f args J fun v _ => R v) : Spec P f args I N fun v _ M => M = N ∧ R v :=
  (Spec.lend (M := []) (N := N) (R := fun v M' => M' = [] ∧ R v) h).mono fun v J M hle ⟨M', e1, e2, hR⟩ => ⟨by rw [e1, e2]; rfl, hR⟩
end
end Go.V
/-
  What a reader gives, copied into the sum; the package's hash.
-/
namespace Go.V
open Go.RowKit
set_option linter.unusedVariables false
set_option linter.unusedSimpArgs false
set_option maxRecDepth 10000
attribute [local irreducible] Run Ops QD
theorem meth_Write : ∀ u w, (method (Proofs.Tryd.prog.types.size + Made.depth) 86 u "Write").run Proofs.Tryd.prog w = .ok (90, u) w := by intro u w; kernel_rfl
theorem meth_Sum : ∀ u w, (method (Proofs.Tryd.prog.types.size + Made.depth) 86 u "Sum").run Proofs.Tryd.prog w = .ok (89, u) w := by intro u w; kernel_rfl
theorem meth_Size : ∀ u w, (method (Proofs.Tryd.prog.types.size + Made.depth) 86 u "Size").run Proofs.Tryd.prog w = .ok (88, u) w := by intro u w; kernel_rfl
theorem nil_Write : ∀ a w, (nilAhead (Proofs.Tryd.prog.types.size + Made.depth) 86 (.pointer (some a)) "Write").run Proofs.Tryd.prog w = .ok (some false) w := by intro a w; kernel_rfl
theorem nil_Sum : ∀ a w, (nilAhead (Proofs.Tryd.prog.types.size + Made.depth) 86 (.pointer (some a)) "Sum").run Proofs.Tryd.prog w = .ok (some false) w := by intro a w; kernel_rfl
theorem miss_of {want : Array (String × TypeId)} {got : Array Method} (h : (lacking want got).isEmpty = false) : (Instr.missingMethod want got).isSome = true :=
  Option.isSome_iff_exists.2 (missingMethod_some fun e => by rw [e] at h; cases h)
abbrev partsV (r : Nat) (part : Int) : Value := .iface 48 (.agg #[.iface 43 (.pointer (some ⟨r, 0, none⟩)), .int .i64 part])
abbrev sumV (sb : Nat) : Value := .iface 86 (.pointer (some ⟨sb, 0, none⟩))
abbrev eofV (a : Addr) : Value := .iface 130 (.pointer (some a))
set_option maxHeartbeats 2000000 in
theorem io_copyBuffer (I : Imm) (s : List UInt8) (sb r : Nat) (part : Int) (pr : Int) (M : Own) (a0 : Addr) (hE : At I 2 0 [eofV a0]) (hs : s.length ≤ 1099511627776) (hS : ShaSt sb [] M) :
    Spec Proofs.Tryd.prog 37 [sumV sb, partsV r part, .slice none 0 0] I ((r, rdO s 0 pr) :: M) fun w J M' => w = .tuple #[.int .i64 s.length, .nilIface] ∧ ∃ o M2, ShaSt sb s M2 ∧ M' = (r, o) :: M2 := by
  refine Spec.enter 115 [(0, _), (1, _), (2, _)] Proofs.Tryd.func37 rfl Proofs.Tryd.ntmps37 (by simp) rfl ?_
  intro C hCf hR hCI
  repeat (first | refine Run.seq ?_)
  refine Run.regionO (D := [some 6, some 7]) [true, true] rfl rfl rfl (fun Z hZ => ?_)
  refine QD.ev T (by decide) rfl rfl ?_
  refine QD.ev T (by decide) rfl rfl ?_
  refine QD.nil (hZ _ ?_)
  clear hZ Z
  repeat (first | refine Run.seq ?_)
  refine Run.regionP (D := [some 20, some 21, some 19, some 22, some 23, some 8, some 9]) [true] 1 rfl rfl rfl (by simp only [List.drop_succ_cons, List.drop_zero]; rfl) (fun Z hZ => ?_)
  refine QD.ev T (by decide) rfl rfl ?_
  refine QD.nil (hZ _ ?_)
  clear hZ Z
  refine Ops.assertI T (tinfo_ok (t := 48) rfl) rfl (by decide) rfl rfl (miss_of (by kernel_rfl)) rfl ?_
  refine Ops.pure T rfl (by decide) rfl ?_
  refine Ops.pure T rfl (by decide) rfl ?_
  refine Ops.pure T rfl (by decide) rfl ?_
  refine Ops.pure T rfl (by decide) rfl ?_
  refine Ops.pure T rfl (by decide) rfl ?_
  refine Ops.nil ?_
  repeat (first | refine Run.seq ?_)
  refine Run.regionO (D := [some 24]) [true] rfl rfl rfl (fun Z hZ => ?_)
  refine QD.ev T (by decide) rfl rfl ?_
  refine QD.nil (hZ _ ?_)
  clear hZ Z
  repeat (first | refine Run.seq ?_ | refine Run.skip ?_ | refine Run.cond_f rfl ?_)
  refine Run.regionP (D := [some 31, some 32, some 30, some 33, some 34, some 10, some 11]) [true] 1 rfl rfl rfl (by simp only [List.drop_succ_cons, List.drop_zero]; rfl) (fun Z hZ => ?_)
  refine QD.ev T (by decide) rfl rfl ?_
  refine QD.nil (hZ _ ?_)
  clear hZ Z
  refine Ops.assertI T (tinfo_ok (t := 86) rfl) rfl (by decide) rfl rfl (miss_of (by kernel_rfl)) rfl ?_
  refine Ops.pure T rfl (by decide) rfl ?_
  refine Ops.pure T rfl (by decide) rfl ?_
  refine Ops.pure T rfl (by decide) rfl ?_
  refine Ops.pure T rfl (by decide) rfl ?_
  refine Ops.pure T rfl (by decide) rfl ?_
  refine Ops.nil ?_
  repeat (first | refine Run.seq ?_)
  refine Run.regionO (D := [some 35]) [true] rfl rfl rfl (fun Z hZ => ?_)
  refine QD.ev T (by decide) rfl rfl ?_
  refine QD.nil (hZ _ ?_)
  clear hZ Z
  repeat (first | refine Run.seq ?_ | refine Run.skip ?_ | refine Run.cond_f rfl ?_)
  refine Run.regionO (D := [some 41, some 42]) [true, true] rfl rfl rfl (fun Z hZ => ?_)
  refine QD.ev T (by decide) rfl rfl ?_
  refine QD.e (Ev.eqlNil T rfl rfl rfl rfl rfl) (by decide) rfl ?_
  refine QD.nil (hZ _ ?_)
  clear hZ Z
  repeat (first | refine Run.seq ?_ | refine Run.cond_t rfl ?_)
  refine Run.regionO (D := [some 12]) [true] rfl rfl rfl (fun Z hZ => ?_)
  refine QD.ev T (by decide) rfl rfl ?_
  refine QD.nil (hZ _ ?_)
  clear hZ Z
  repeat (first | refine Run.seq ?_)
  refine Run.regionP (D := [some 44, some 45, some 43, some 46, some 47, some 13, some 14]) [true] 1 rfl rfl rfl (by simp only [List.drop_succ_cons, List.drop_zero]; rfl) (fun Z hZ => ?_)
  refine QD.ev T (by decide) rfl rfl ?_
  refine QD.nil (hZ _ ?_)
  clear hZ Z
  refine Ops.assertNo T rfl (by decide) rfl rfl rfl rfl rfl ?_
  refine Ops.pure T rfl (by decide) rfl ?_
  refine Ops.pure T rfl (by decide) rfl ?_
  refine Ops.pure T rfl (by decide) rfl ?_
  refine Ops.pure T rfl (by decide) rfl ?_
  refine Ops.pure T rfl (by decide) rfl ?_
  refine Ops.nil ?_
  repeat (first | refine Run.seq ?_)
  refine Run.regionO (D := [some 48, some 49, some 50, some 51, some 52, some 53, some 54, some 55, some 56]) [true, true, true, true, true, true, true, true, true] rfl rfl rfl (fun Z hZ => ?_)
  refine QD.ev T (by decide) rfl rfl ?_
  refine QD.ev T (by decide) rfl rfl ?_
  first | refine QD.ev T (by decide) rfl rfl ?_ | refine QD.off (by decide) rfl ?_
  first | refine QD.ev T (by decide) rfl rfl ?_ | refine QD.off (by decide) rfl ?_
  first | refine QD.ev T (by decide) rfl rfl ?_ | refine QD.off (by decide) rfl ?_
  first | refine QD.ev T (by decide) rfl rfl ?_ | refine QD.off (by decide) rfl ?_
  first | refine QD.yv (by decide) rfl (Yv.load 0 T rfl rfl rfl rfl) ?_ | refine QD.yv (by decide) rfl (Yv.load 1 T rfl rfl rfl rfl) ?_ | refine QD.yv (by decide) rfl (Yv.load 2 T rfl rfl rfl rfl) ?_ | refine QD.off (by decide) rfl ?_
  first | refine QD.e (Ev.gtr rfl rfl) (by decide) rfl ?_ | refine QD.off (by decide) rfl ?_
  refine QD.ev T (by decide) rfl rfl ?_
  refine QD.nil (hZ _ ?_)
  clear hZ Z
  repeat (first | refine Run.skip ?_ | refine Run.cond_f rfl ?_)
  refine Run.regionP (D := [some 66, some 67, some 2]) [true] 1 rfl rfl rfl (by simp only [List.drop_succ_cons, List.drop_zero]; rfl) (fun Z hZ => ?_)
  refine QD.ev T (by decide) rfl rfl ?_
  refine QD.nil (hZ _ ?_)
  clear hZ Z
  refine Ops.makeBuf (a := 32768) (c := 32768) btB rfl (by decide) rfl rfl (by omega) (by omega) fun bq hB => ?_
  clear hB
  obtain ⟨ys, hys, hyl⟩ : ∃ ys : List UInt8, List.replicate 32768 0 = ys ∧ ys.length = 32768 := ⟨_, rfl, List.length_replicate⟩
  rw [hys]
  clear hys
  refine Ops.pure T rfl (by decide) rfl ?_
  refine Ops.nil ?_
  repeat (first | refine Run.seq ?_ | refine Run.block ?_)
  refine Run.keep [0, 1, 2, 6, 7] [_, _, _, _, _] rfl ?_
  refine Run.perm (L' := (bq, bobj [] ys [] 5) :: (r, rdO s 0 pr) :: M) (by unfold bobj; simp) ?_
  refine Run.rounds (fun m env L J => ∃ (i : Nat) (ys : List UInt8) (pr : Int) (M : Own), m = s.length - i ∧ i ≤ s.length ∧ ys.length = 32768 ∧ ShaSt sb (s.take i) M ∧ env = [(0, sumV sb), (1, partsV r part), (2, .slice (some ⟨bq, 0, none⟩) 32768 32768), (6, .int .i64 (i : Int)), (7, .nilIface)] ∧ L = (bq, bobj [] ys [] 5) :: (r, rdO s i pr) :: M ∧ Le I J) s.length ⟨0, ys, pr, M, rfl, by omega, hyl, by simpa using hS, rfl, rfl, Le.refl _⟩ ?_
  clear hyl hS
  rintro m env L J ⟨i, ys, pr, M, rfl, hi, hyl, hS, rfl, rfl, hle⟩ ih
  have hE' := hE.mono hle
  repeat (first | refine Run.seq ?_ | refine Run.block ?_)
  refine Run.regionP (D := [some 69, some 70, some 71, some 68, some 72, some 73, some 15, some 16]) [true, true] 2 rfl rfl rfl (by simp only [List.drop_succ_cons, List.drop_zero]; rfl) (fun Z hZ => ?_)
  refine QD.ev T (by decide) rfl rfl ?_
  refine QD.ev T (by decide) rfl rfl ?_
  refine QD.nil (hZ _ ?_)
  clear hZ Z
  refine Ops.invokeM (M := [(r, rdO s i pr), (bq, bobj [] ys [] 5)]) (N := M) (parts_Read J s ys r bq i 32768 pr part [] [] _ _ hE' hs hi (by omega)) (List.Perm.swap _ _ _) rfl (by decide) Proofs.Tryd.call83 rfl (meth_parts _) (by rw [hyl]; rfl) ?_
  rintro _ J1 M1 l1 ⟨rfl, ys', hyl', htk, rfl⟩
  rw [hyl] at hyl' htk ⊢
  have hn := askN_le part 32768
  have hn0 := askN_pos (part := part) (m := 32768) (by omega)
  generalize askN part 32768 = q at *
  have hE1 := hE'.mono l1
  unfold rdAns rdNext
  by_cases hq : s.length ≤ i
  · have hie : i = s.length := by omega
    subst hie
    rw [if_pos hq, if_pos hq]
    refine Ops.pure T rfl (by decide) rfl ?_
    refine Ops.pure T rfl (by decide) rfl ?_
    refine Ops.pure T rfl (by decide) rfl ?_
    refine Ops.pure T rfl (by decide) rfl ?_
    refine Ops.pure T rfl (by decide) rfl ?_
    refine Ops.nil ?_
    repeat (first | refine Run.seq ?_)
    refine Run.regionO (D := [some 74, some 75]) [true, true] rfl rfl rfl (fun Z hZ => ?_)
    refine QD.ev T (by decide) rfl rfl ?_
    refine QD.e (Ev.gtr rfl rfl) (by decide) rfl ?_
    refine QD.nil (hZ _ ?_)
    clear hZ Z
    repeat (first | refine Run.seq ?_ | refine Run.skip ?_ | refine Run.cond_f rfl ?_)
    refine Run.regionO (D := [some 107, some 108]) [true, true] rfl rfl rfl (fun Z hZ => ?_)
    refine QD.ev T (by decide) rfl rfl ?_
    refine QD.e (Ev.neqNil T rfl rfl rfl rfl rfl) (by decide) rfl ?_
    refine QD.nil (hZ _ ?_)
    clear hZ Z
    repeat (first | refine Run.seq ?_ | refine Run.cond_t rfl ?_)
    refine Run.regionP (D := [some 109, some 110, some 111]) [true, true] 2 rfl rfl rfl (by simp only [List.drop_succ_cons, List.drop_zero]; rfl) (fun Z hZ => ?_)
    refine QD.ev T (by decide) rfl rfl ?_
    refine QD.yv (by decide) rfl (Yv.loadI T hE1 rfl rfl) ?_
    refine QD.nil (hZ _ ?_)
    clear hZ Z
    refine Ops.neqSame Proofs.Tryd.underlying40 Proofs.Tryd.underlying130 (show _ = some Proofs.Tryd.t130 by kernel_rfl) rfl (show _ = some Proofs.Tryd.t132 by kernel_rfl) rfl (by decide) rfl rfl ?_
    refine Ops.nil ?_
    repeat (first | refine Run.seq ?_ | refine Run.skip ?_ | refine Run.exit rfl ?_ | refine Run.cond_f rfl ?_)
    refine Run.regionO (D := [some 113, some 114, some 6, some 7]) [true, true, true, true] rfl rfl rfl (fun Z hZ => ?_)
    refine QD.ev T (by decide) rfl rfl ?_
    refine QD.ev T (by decide) rfl rfl ?_
    refine QD.ev T (by decide) rfl rfl ?_
    refine QD.ev T (by decide) rfl rfl ?_
    refine QD.nil (hZ _ ?_)
    clear hZ Z
    skip
    refine Run.dropL (L' := (r, _) :: M) (List.Sublist.cons_cons _ (List.sublist_cons_self _ _)) ?_
    refine Run.ret2 (by rw [hCf]; exact Proofs.Tryd.func37) Proofs.Tryd.results37 rfl rfl (hR _ _ _ ?_)
    rw [List.take_length] at hS
    exact ⟨rfl, _, M, hS, rfl⟩
  · rw [if_neg hq, if_neg hq]
    have htk := htk (by omega)
    generalize hnn : min (s.length - i) q = nn at *
    have hnn0 : 0 < nn := by omega
    have hnnl : nn ≤ 32768 := by omega
    have hns : i + nn ≤ s.length := by omega
    have hck : (s.drop i).take q = (s.drop i).take nn := by rw [List.take_eq_take_iff, List.length_drop]; omega
    rw [hck] at htk
    have hcl : ((s.drop i).take nn).length = nn := by simp; omega
    have happ : s.take i ++ (s.drop i).take nn = s.take (i + nn) := by rw [List.take_add]
    have hB : Buf 5 (.slice (some ⟨bq, 0, none⟩) ys'.length 32768) ys' [(bq, bobj [] ys' [] 5)] := .inr ⟨bq, [], [], 32768, rfl, rfl, by omega, by simp; omega⟩
    skip
    refine Ops.pure T rfl (by decide) rfl ?_
    refine Ops.pure T rfl (by decide) rfl ?_
    refine Ops.pure T rfl (by decide) rfl ?_
    refine Ops.pure T rfl (by decide) rfl ?_
    refine Ops.pure T rfl (by decide) rfl ?_
    refine Ops.nil ?_
    repeat (first | refine Run.seq ?_)
    refine Run.regionO (D := [some 74, some 75]) [true, true] rfl rfl rfl (fun Z hZ => ?_)
    refine QD.ev T (by decide) rfl rfl ?_
    refine QD.e (Ev.gtr rfl rfl) (by decide) rfl ?_
    refine QD.nil (hZ _ ?_)
    clear hZ Z
    rw [decide_eq_true (show (0 : Int) < (nn : Int) by omega)]
    repeat (first | refine Run.seq ?_ | refine Run.cond_t rfl ?_)
    refine Run.regionT (D := [some 77, some 78, some 79, some 80, some 81, some 82, some 83, some 84, some 76, some 85, some 86, some 17, some 18]) (fun _ => True) [true, true, true, true, true, true, true] (bl 13 127) 6 (by kernel_rfl) (by kernel_rfl) (by kernel_rfl) rfl (fun Z hZ => ?_)
    refine QD.ev T (by decide) rfl rfl ?_
    refine QD.ev T (by decide) rfl rfl ?_
    refine QD.ev T (by decide) rfl rfl ?_
    refine QD.e (Ev.slice0H T rfl rfl rfl rfl rfl rfl hnnl) (by decide) rfl ?_
    refine QD.ev T (by decide) rfl rfl ?_
    refine QD.e (Ev.nilCheckM rfl (nil_Write _)) (by decide) rfl ?_
    refine QD.ev T (by decide) rfl rfl ?_
    refine QD.nil (hZ _ ?_)
    clear hZ Z
    refine RAny.on 7 (bl 13 255) rfl (by kernel_rfl) rfl (by decide) (Eff.invokeM (M := M ++ [(bq, bobj [] ys' [] 5)]) (N := [(r, _)]) (Spec.lend (M := M) (N := [(bq, bobj [] ys' [] 5)]) (R := fun w M' => w = .tuple #[.int .i64 (nn : Int), .nilIface] ∧ ShaSt sb (s.take (i + nn)) M') fun J hle2 hJ => (sum_Write J sb (s.take i) ((s.drop i).take nn) M _ hS (by have := hB.slTake (J := J) (by simpa using hJ) rfl (k := nn) (by omega); rw [htk] at this; exact this) (by rw [hcl]; simp; omega)).mono fun _ _ _ _ h => by rw [hcl, happ] at h; exact h) (by rw [List.append_assoc]; exact (List.perm_append_comm (l₁ := [_, _]) (l₂ := M)).trans (List.Perm.append_left M (List.Perm.swap _ _ _))) Proofs.Tryd.call90 rfl (meth_Write _) rfl fun w J2 M' l2 hw => ⟨fun _ _ => trivial, ?_⟩)
    obtain ⟨M2, rfl, rfl, hS2⟩ := hw
    refine RAny.tk 8 (bl 13 511) rfl (by kernel_rfl) (by decide) (fun _ _ => trivial) (Yld.eval T rfl rfl) ?_
    refine RAny.tk 9 (bl 13 1023) rfl (by kernel_rfl) (by decide) (fun _ _ => trivial) (Yld.eval T rfl rfl) ?_
    refine RAny.tk 10 (bl 13 2047) rfl (by kernel_rfl) (by decide) (fun _ _ => trivial) (Yld.eval T rfl rfl) ?_
    refine RAny.tk 11 (bl 13 4095) rfl (by kernel_rfl) (by decide) (fun _ _ => trivial) (Yld.eval T rfl rfl) ?_
    refine RAny.tk 12 (bl 13 8191) rfl (by kernel_rfl) (by decide) (fun _ _ => trivial) (Yld.eval T rfl rfl) ?_
    refine RAny.done _ (by kernel_rfl) ?_
    repeat (first | refine Run.seq ?_)
    refine Run.regionP (D := [some 87, some 88, some 89, some 90, some 91, some 92, some 93]) [true, true] 2 rfl rfl rfl (by simp only [List.drop_succ_cons, List.drop_zero]; rfl) (fun Z hZ => ?_)
    refine QD.ev T (by decide) rfl rfl ?_
    refine QD.e (Ev.lss rfl rfl) (by decide) rfl ?_
    refine QD.nil (hZ _ ?_)
    clear hZ Z
    rw [decide_eq_false (show ¬ (nn : Int) < 0 by omega)]
    refine Ops.pure T rfl (by decide) rfl ?_
    first | refine Ops.pure T rfl (by decide) rfl ?_ | refine Ops.not rfl (by decide) ?_ | refine Ops.notU rfl (by decide) ?_
    first | refine Ops.pure T rfl (by decide) rfl ?_ | refine Ops.not rfl (by decide) ?_ | refine Ops.notU rfl (by decide) ?_
    first | refine Ops.ev (Ev.lss rfl rfl) rfl (by decide) ?_ | refine Ops.not rfl (by decide) ?_ | refine Ops.notU rfl (by decide) ?_
    rw [decide_eq_false (show ¬ (nn : Int) < (nn : Int) by omega)]
    refine Ops.pure T rfl (by decide) rfl ?_
    refine Ops.nil ?_
    repeat (first | refine Run.seq ?_ | refine Run.skip ?_ | refine Run.cond_f rfl ?_)
    refine Run.regionO (D := [some 97, some 98, some 99, some 6]) [true, true, true, true] rfl rfl rfl (fun Z hZ => ?_)
    refine QD.ev T (by decide) rfl rfl ?_
    refine QD.ev T (by decide) rfl rfl ?_
    refine QD.e (Ev.addI rfl rfl (wI (by first | omega | (simp only [List.length_cons, List.length_nil] ; omega) | (simp; omega)) (by first | omega | (simp only [List.length_cons, List.length_nil] ; omega) | (simp; omega)))) (by decide) rfl ?_
    refine QD.ev T (by decide) rfl rfl ?_
    refine QD.nil (hZ _ ?_)
    clear hZ Z
    repeat (first | refine Run.seq ?_)
    refine Run.regionO (D := [some 100, some 101]) [true, true] rfl rfl rfl (fun Z hZ => ?_)
    refine QD.ev T (by decide) rfl rfl ?_
    refine QD.e (Ev.neqNil T rfl rfl rfl rfl rfl) (by decide) rfl ?_
    refine QD.nil (hZ _ ?_)
    clear hZ Z
    repeat (first | refine Run.seq ?_ | refine Run.skip ?_ | refine Run.cond_f rfl ?_)
    refine Run.regionO (D := [some 103, some 104, some 105]) [true, true, true] rfl rfl rfl (fun Z hZ => ?_)
    refine QD.ev T (by decide) rfl rfl ?_
    refine QD.ev T (by decide) rfl rfl ?_
    refine QD.e (Ev.neqI rfl rfl) (by decide) rfl ?_
    refine QD.nil (hZ _ ?_)
    clear hZ Z
    rw [decide_eq_true (rfl : (nn : Int) = (nn : Int))]
    repeat (first | refine Run.seq ?_ | refine Run.skip ?_ | refine Run.cond_f rfl ?_)
    refine Run.regionO (D := [some 107, some 108]) [true, true] rfl rfl rfl (fun Z hZ => ?_)
    refine QD.ev T (by decide) rfl rfl ?_
    refine QD.e (Ev.neqNil T rfl rfl rfl rfl rfl) (by decide) rfl ?_
    refine QD.nil (hZ _ ?_)
    clear hZ Z
    repeat (first | refine Run.skip ?_ | refine Run.inBlock ?_ | refine Run.cond_f rfl ?_)
    refine Run.keep [0, 1, 2, 6, 7] [_, _, _, _, _] rfl ?_
    refine Run.perm (L' := (bq, bobj [] ys' [] 5) :: (r, rdO s (i + nn) (-1)) :: M2) (by rw [List.append_assoc]; exact List.perm_append_comm) ?_
    exact ih (s.length - (i + nn)) _ _ _ (by omega) ⟨i + nn, ys', -1, M2, rfl, hns, hyl', hS2, rfl, rfl, (hle.trans l1).trans l2⟩
theorem io_Copy (I : Imm) (s : List UInt8) (sb r : Nat) (part : Int) (pr : Int) (M : Own) (a0 : Addr) (hE : At I 2 0 [eofV a0]) (hs : s.length ≤ 1099511627776) (hS : ShaSt sb [] M) :
    Spec Proofs.Tryd.prog 29 [sumV sb, partsV r part] I ((r, rdO s 0 pr) :: M) fun w J M' => w = .tuple #[.int .i64 s.length, .nilIface] ∧ ∃ o M2, ShaSt sb s M2 ∧ M' = (r, o) :: M2 := by
  refine Spec.enter 11 [(0, _), (1, _)] Proofs.Tryd.func29 rfl Proofs.Tryd.ntmps29 (by simp) rfl ?_
  intro C hCf hR hCI
  repeat (first | refine Run.seq ?_)
  refine Run.regionO (D := [some 4, some 5]) [true, true] rfl rfl rfl (fun Z hZ => ?_)
  refine QD.ev T (by decide) rfl rfl ?_
  refine QD.ev T (by decide) rfl rfl ?_
  refine QD.nil (hZ _ ?_)
  clear hZ Z
  repeat (first | refine Run.seq ?_)
  refine Run.regionP (D := [some 6, some 7, some 8, some 9, some 10, some 4, some 5]) [true, true] 2 rfl rfl rfl (by simp only [List.drop_succ_cons, List.drop_zero]; rfl) (fun Z hZ => ?_)
  refine QD.ev T (by decide) rfl rfl ?_
  refine QD.ev T (by decide) rfl rfl ?_
  refine QD.nil (hZ _ ?_)
  clear hZ Z
  refine Ops.callP (N := []) ((io_copyBuffer I s sb r part pr M a0 hE hs hS)) (.refl _) rfl (by decide) Proofs.Tryd.call37 rfl ?_
  rintro _ J1 M1 l1 ⟨rfl, o, M2, hS2, rfl⟩
  refine Ops.pure T rfl (by decide) rfl ?_
  refine Ops.pure T rfl (by decide) rfl ?_
  refine Ops.pure T rfl (by decide) rfl ?_
  refine Ops.pure T rfl (by decide) rfl ?_
  refine Ops.nil ?_
  skip
  refine Run.ret2 (by rw [hCf]; exact Proofs.Tryd.func29) Proofs.Tryd.results29 rfl rfl (hR _ _ _ ?_)
  exact ⟨rfl, o, M2, hS2, rfl⟩
theorem sum_Size (I : Imm) (v : Value) : Pure Proofs.Tryd.prog 88 [v] I fun w J => w = .int .i64 32 := by
  refine Spec.enter 3 [(0, _)] Proofs.Tryd.func88 rfl Proofs.Tryd.ntmps88 (by simp) rfl ?_
  intro C hCf hR hCI
  repeat (first | refine Run.seq ?_)
  refine Run.regionO (D := [some 2]) [true] rfl rfl rfl (fun Z hZ => ?_)
  refine QD.ev T (by decide) rfl rfl ?_
  refine QD.nil (hZ _ ?_)
  clear hZ Z
  repeat (first | refine Run.seq ?_)
  refine Run.regionO (D := [some 2]) [true] rfl rfl rfl (fun Z hZ => ?_)
  refine QD.ev T (by decide) rfl rfl ?_
  refine QD.nil (hZ _ ?_)
  clear hZ Z
  skip
  refine Run.fin (Run.ret1 (by rw [hCf]; exact Proofs.Tryd.func88) Proofs.Tryd.results88 rfl (hR _ _ _ ?_))
  exact ⟨rfl, rfl⟩
def hashV (alg hex : List UInt8) : Value := .agg #[str alg, str hex]
def sha256T : List UInt8 := [115, 104, 97, 50, 53, 54]
set_option maxHeartbeats 1000000 in
theorem v1_SHA256 (I : Imm) (s : List UInt8) (r : Nat) (part : Int) (pr : Int) (a0 : Addr) (hE : At I 2 0 [eofV a0]) (hs : s.length ≤ 1099511627776) :
    Spec Proofs.Tryd.prog 12 [partsV r part] I [(r, rdO s 0 pr)] fun w J M' => w = .tuple #[hashV sha256T (hexL (sha s)), .int .i64 s.length, .nilIface] ∧ M' = [] := by
  refine Spec.enter 30 [(0, _)] Proofs.Tryd.func12 rfl Proofs.Tryd.ntmps12 (by simp) rfl ?_
  intro C hCf hR hCI
  repeat (first | refine Run.seq ?_)
  refine Run.region ?_
  refine Ops.alloc rfl (by decide) (T.zeroOk rfl) rfl (fun b2 => ?_)
  refine Ops.pure T rfl (by decide) rfl ?_
  refine Ops.pure T rfl (by decide) rfl ?_
  refine Ops.nil ?_
  repeat (first | refine Run.seq ?_)
  refine Run.region ?_
  refine Ops.callN ((New256 I)) rfl (by decide) Proofs.Tryd.call28 rfl ?_
  rintro _ J1 M1 l1 ⟨sb, rfl, hS⟩
  refine Ops.pure T rfl (by decide) rfl ?_
  refine Ops.nil ?_
  repeat (first | refine Run.seq ?_)
  refine Run.regionP (D := [some 10, some 11, some 12, some 9, some 13, some 14, some 6, some 7]) [true, true] 2 rfl rfl rfl (by simp only [List.drop_succ_cons, List.drop_zero]; rfl) (fun Z hZ => ?_)
  refine QD.ev T (by decide) rfl rfl ?_
  refine QD.ev T (by decide) rfl rfl ?_
  refine QD.nil (hZ _ ?_)
  clear hZ Z
  refine Ops.callP (N := [_]) ((io_Copy J1 s sb r part pr M1 a0 (hE.mono l1) hs hS)) (.refl _) rfl (by decide) Proofs.Tryd.call29 rfl ?_
  rintro _ J2 M2 l2 ⟨rfl, o, M3, hS3, rfl⟩
  refine Ops.pure T rfl (by decide) rfl ?_
  refine Ops.pure T rfl (by decide) rfl ?_
  refine Ops.pure T rfl (by decide) rfl ?_
  refine Ops.pure T rfl (by decide) rfl ?_
  refine Ops.pure T rfl (by decide) rfl ?_
  refine Ops.nil ?_
  repeat (first | refine Run.seq ?_)
  refine Run.regionO (D := [some 15, some 16]) [true, true] rfl rfl rfl (fun Z hZ => ?_)
  refine QD.ev T (by decide) rfl rfl ?_
  refine QD.e (Ev.neqNil T rfl rfl rfl rfl rfl) (by decide) rfl ?_
  refine QD.nil (hZ _ ?_)
  clear hZ Z
  repeat (first | refine Run.seq ?_ | refine Run.skip ?_ | refine Run.cond_f rfl ?_)
  have hsl : (sha s).length ≤ 32 := by unfold sha; rw [flatMap_be4_len]; simp [H8.ws]
  refine Run.perm (L' := (b2, _) :: (M3 ++ [(r, o)])) (List.Perm.cons _ (List.perm_append_comm (l₁ := [(r, o)]))) ?_
  refine Run.regionAny (fun _ => True) (bl 14 0) (by kernel_rfl) (by kernel_rfl) ?_
  refine RAny.tk 0 (bl 14 1) rfl (by kernel_rfl) (by decide) (fun _ _ => trivial) (Yld.eval T rfl rfl) ?_
  refine RAny.tk 1 (bl 14 3) rfl (by kernel_rfl) (by decide) (fun _ _ => trivial) (Yld.eval T rfl rfl) ?_
  refine RAny.tk 4 (bl 14 19) rfl (by kernel_rfl) (by decide) (fun _ _ => trivial) (Yld.eval T rfl rfl) ?_
  refine RAny.tk 5 (bl 14 51) rfl (by kernel_rfl) (by decide) (fun _ _ => trivial) (Yld.ev (Ev.nilCheckM rfl (nil_Sum _)) rfl) ?_
  refine RAny.tk 6 (bl 14 115) rfl (by kernel_rfl) (by decide) (fun _ _ => trivial) (Yld.eval T rfl rfl) ?_
  refine RAny.tk 10 (bl 14 1139) rfl (by kernel_rfl) (by decide) (fun _ _ => trivial) (Yld.eval T rfl rfl) ?_
  refine RAny.on 2 (bl 14 1143) rfl (by kernel_rfl) rfl (by decide) (Eff.invokeM (M := []) (N := (b2, _) :: (M3 ++ [(r, o)])) (sum_Size _ _) (.refl _) Proofs.Tryd.call88 rfl (meth_Size _) rfl fun w J3 M' l3 hw => ⟨fun _ _ => trivial, ?_⟩)
  obtain ⟨rfl, rfl⟩ := hw
  refine RAny.on 3 (bl 14 1151) rfl (by kernel_rfl) rfl (by decide) (Eff.makeBuf (a := 0) (c := 32) btB rfl rfl (by omega) (by omega) fun bq hB => ⟨fun _ _ => trivial, ?_⟩)
  refine RAny.on 7 (bl 14 1279) rfl (by kernel_rfl) rfl (by decide) (Eff.invokeM (M := M3 ++ [(bq, _)]) (N := [(b2, _), (r, o)]) (sum_Sum _ sb s _ M3 _ _ hS3 hB hs (by simp)) (perm_of_count fun x => by simp only [List.count_append, List.count_cons, List.count_nil, Nat.add_zero, Nat.zero_add] <;> ac_rfl) Proofs.Tryd.call89 rfl (meth_Sum _) rfl fun w J4 M' l4 hw => ⟨fun _ _ => trivial, ?_⟩)
  obtain ⟨Mo, hBo, rfl⟩ := hw
  refine RAny.on 8 (bl 14 1535) rfl (by kernel_rfl) rfl (by decide) (Eff.callM (M := Mo) (N := M3 ++ [(b2, _), (r, o)]) (Pure.lend fun J hle hJ => zz_Hex J _ _ (hBo.sl hJ) (by simp; omega)) (perm_of_count fun x => by simp only [List.count_append, List.count_cons, List.count_nil, Nat.add_zero, Nat.zero_add] <;> ac_rfl) Proofs.Tryd.call30 rfl fun w J5 M' l5 hw => ⟨fun _ _ => trivial, ?_⟩)
  obtain ⟨rfl, rfl⟩ := hw
  refine RAny.perm (L' := (b2, _) :: (M' ++ M3 ++ [(r, o)])) (perm_of_count fun x => by simp only [List.count_append, List.count_cons, List.count_nil, Nat.add_zero, Nat.zero_add] <;> ac_rfl) ?_
  refine RAny.tk 9 (bl 14 2047) rfl (by kernel_rfl) (by decide) (fun _ _ => trivial) (Yld.ev (Ev.buildS bd38 rfl rfl) rfl) ?_
  refine RAny.os 11 (bl 14 4095) rfl (by kernel_rfl) rfl (Eff.store 0 rfl rfl rfl rfl (T.sizeOk rfl) rfl (Nat.le_of_ble_eq_true rfl) rfl rfl ⟨fun _ _ => trivial, ?_⟩)
  refine RAny.tk 12 (bl 14 8191) rfl (by kernel_rfl) (by decide) (fun _ _ => trivial) (Yld.eval T rfl rfl) ?_
  refine RAny.tk 13 (bl 14 16383) rfl (by kernel_rfl) (by decide) (fun _ _ => trivial) (Yld.eval T rfl rfl) ?_
  refine RAny.done _ (by kernel_rfl) ?_
  skip
  refine Run.retCTT T 0 (by rw [hCf]; exact Proofs.Tryd.func12) Proofs.Tryd.results12 rfl rfl rfl rfl rfl rfl rfl rfl (hR _ _ _ ?_)
  exact ⟨rfl, rfl⟩
theorem impl_hashOf (I : Imm) (a h : List UInt8) : Pure Proofs.Tryd.prog 14 [hashV a h] I fun w J => w = hashV a h := by
  refine Spec.enter 4 [(0, _)] Proofs.Tryd.func14 rfl Proofs.Tryd.ntmps14 (by simp) rfl ?_
  intro C hCf hR hCI
  repeat (first | refine Run.seq ?_)
  refine Run.region ?_
  refine Ops.box rfl (by decide) rfl rfl (fun b => ?_)
  refine Ops.alloc rfl (by decide) (T.zeroOk rfl) rfl (fun b2 => ?_)
  refine Ops.nil ?_
  repeat (first | refine Run.seq ?_)
  refine Run.regionP (D := [some 3, none]) [true] 1 rfl rfl rfl (by simp only [List.drop_succ_cons, List.drop_zero]; rfl) (fun Z hZ => ?_)
  first | refine QD.yv (by decide) rfl (Yv.loadN 0 T rfl rfl rfl rfl rfl rfl) ?_ | refine QD.yv (by decide) rfl (Yv.loadN 1 T rfl rfl rfl rfl rfl rfl) ?_ | refine QD.yv (by decide) rfl (Yv.loadN 2 T rfl rfl rfl rfl rfl rfl) ?_
  refine QD.nil (hZ _ ?_)
  clear hZ Z
  first | refine Ops.store 0 rfl rfl rfl rfl rfl (T.sizeOk rfl) rfl (Nat.le_of_ble_eq_true rfl) rfl rfl ?_ | refine Ops.store 1 rfl rfl rfl rfl rfl (T.sizeOk rfl) rfl (Nat.le_of_ble_eq_true rfl) rfl rfl ?_ | refine Ops.store 2 rfl rfl rfl rfl rfl (T.sizeOk rfl) rfl (Nat.le_of_ble_eq_true rfl) rfl rfl ?_
  refine Ops.nil ?_
  skip
  refine Run.retC T 0 (by rw [hCf]; exact Proofs.Tryd.func14) Proofs.Tryd.results14 rfl rfl rfl rfl rfl rfl (hR _ _ _ ?_)
  exact ⟨rfl, rfl⟩
theorem impl_Sha256 (I : Imm) (s : List UInt8) (part : Int) (a0 : Addr) (hE : At I 2 0 [eofV a0]) (hs : s.length ≤ 1099511627776) :
    Pure Proofs.Tryd.prog 5 [str s, .int .i64 part] I fun w J => w = .tuple #[hashV sha256T (hexL (sha s)), .int .i64 s.length, .bool true] := by
  refine Spec.enter 25 [(0, _), (1, _)] Proofs.Tryd.func5 rfl Proofs.Tryd.ntmps5 (by simp) rfl ?_
  intro C hCf hR hCI
  repeat (first | refine Run.seq ?_)
  refine Run.region ?_
  refine Ops.alloc rfl (by decide) (T.zeroOk rfl) rfl (fun b4 => ?_)
  refine Ops.pure T rfl (by decide) rfl ?_
  refine Ops.pure T rfl (by decide) rfl ?_
  refine Ops.nil ?_
  repeat (first | refine Run.seq ?_)
  refine Run.regionP (D := [some 10, some 11, some 12, some 13, some 14, some 15, some 16, some 9, some 17, some 18, some 19, some 7, none, some 5, some 8]) [true] 1 rfl rfl rfl (by simp only [List.drop_succ_cons, List.drop_zero]; rfl) (fun Z hZ => ?_)
  refine QD.ev T (by decide) rfl rfl ?_
  refine QD.nil (hZ _ ?_)
  clear hZ Z
  refine Ops.callN ((strings_NewReader I s)) rfl (by decide) Proofs.Tryd.call13 rfl ?_
  rintro _ J1 M1 l1 ⟨r, rfl, rfl⟩
  refine Ops.pure T rfl (by decide) rfl ?_
  refine Ops.pure T rfl (by decide) rfl ?_
  refine Ops.ev (Ev.buildS bd48 rfl rfl) rfl (by decide) ?_
  refine Ops.pure T rfl (by decide) rfl ?_
  refine Ops.callP (N := [_]) ((v1_SHA256 J1 s r part (-1) a0 (hE.mono l1) hs)) (.refl _) rfl (by decide) Proofs.Tryd.call12 rfl ?_
  rintro _ J2 M2 l2 ⟨rfl, rfl⟩
  unfold hashV
  refine Ops.pure T rfl (by decide) rfl ?_
  refine Ops.pure T rfl (by decide) rfl ?_
  refine Ops.pure T rfl (by decide) rfl ?_
  refine Ops.pure T rfl (by decide) rfl ?_
  refine Ops.alloc rfl (by decide) (T.zeroOk rfl) rfl (fun b7 => ?_)
  first | refine Ops.store 0 rfl rfl rfl rfl rfl (T.sizeOk rfl) rfl (Nat.le_of_ble_eq_true rfl) rfl rfl ?_ | refine Ops.store 1 rfl rfl rfl rfl rfl (T.sizeOk rfl) rfl (Nat.le_of_ble_eq_true rfl) rfl rfl ?_ | refine Ops.store 2 rfl rfl rfl rfl rfl (T.sizeOk rfl) rfl (Nat.le_of_ble_eq_true rfl) rfl rfl ?_
  refine Ops.pure T rfl (by decide) rfl ?_
  refine Ops.pure T rfl (by decide) rfl ?_
  refine Ops.nil ?_
  repeat (first | refine Run.seq ?_)
  refine Run.regionAny (fun _ => True) (bl 8 0) (by kernel_rfl) (by kernel_rfl) ?_
  refine RAny.tk 2 (bl 8 4) rfl (by kernel_rfl) (by decide) (fun _ _ => trivial) (Yld.eval T rfl rfl) ?_
  refine RAny.tk 3 (bl 8 12) rfl (by kernel_rfl) (by decide) (fun _ _ => trivial) (Yld.eval T rfl rfl) ?_
  refine RAny.tk 4 (bl 8 28) rfl (by kernel_rfl) (by decide) (fun _ _ => trivial) (Yld.ev (Ev.eqlNil T rfl rfl rfl rfl rfl) rfl) ?_
  refine RAny.on 0 (bl 8 29) rfl (by kernel_rfl) rfl (by decide) (Eff.yv (Yv.loadN 0 T rfl rfl rfl rfl rfl rfl) ⟨fun _ _ => trivial, ?_⟩)
  refine RAny.on 1 (bl 8 31) rfl (by kernel_rfl) rfl (by decide) (Eff.call (impl_hashOf J2 _ _) Proofs.Tryd.call14 rfl fun w J3 l3 hw => ⟨fun _ _ => trivial, ?_⟩)
  subst hw
  unfold hashV
  refine RAny.os 5 (bl 8 63) rfl (by kernel_rfl) rfl (Eff.store 1 rfl rfl rfl rfl (T.sizeOk rfl) rfl (Nat.le_of_ble_eq_true rfl) rfl rfl ⟨fun _ _ => trivial, ?_⟩)
  refine RAny.tk 6 (bl 8 127) rfl (by kernel_rfl) (by decide) (fun _ _ => trivial) (Yld.eval T rfl rfl) ?_
  refine RAny.tk 7 (bl 8 255) rfl (by kernel_rfl) (by decide) (fun _ _ => trivial) (Yld.eval T rfl rfl) ?_
  refine RAny.done _ (by kernel_rfl) ?_
  skip
  refine Run.retCTT T 1 (by rw [hCf]; exact Proofs.Tryd.func5) Proofs.Tryd.results5 rfl rfl rfl rfl rfl rfl rfl rfl (hR _ _ _ ?_)
  exact ⟨rfl, rfl⟩
end Go.V
/-
  The document's hash; the two are one.
-/
namespace Go.V
open Go.RowKit
set_option linter.unusedVariables false
set_option linter.unusedSimpArgs false
set_option maxRecDepth 10000
attribute [local irreducible] Run Ops QD compress
theorem byte_eq {n j : Nat} (hn : n ≤ 1099511627776) (hj : j < 8) : IntKind.u8.wrap (((n : Int) * 8).fdiv (2 ^ (8 * (7 - (j : Int))).toNat)) = ((sr64 (UInt64.ofNat n * 8) (56 - 8 * (j : Int))).toUInt8.toNat : Int) := by
  have e1 : (8 * (7 - (j : Int))).toNat = 56 - 8 * j := by omega
  have e2 : (56 - 8 * (j : Int)).toNat = 56 - 8 * j := by omega
  have h1 : (UInt64.ofNat n * 8).toNat = n * 8 := by
    rw [UInt64.toNat_mul, UInt64.toNat_ofNat']
    show n % 18446744073709551616 * 8 % 18446744073709551616 = n * 8
    omega
  rw [wrap8, e1, Int.fdiv_eq_ediv_of_nonneg _ (Int.pow_nonneg (by decide)), sr64, e2, UInt64.toNat_toUInt8, UInt64.toNat_shiftRight, UInt64.toNat_ofNat', h1, Nat.shiftRight_eq_div_pow]
  rw [show (56 - 8 * j) % 2 ^ 64 % 64 = 56 - 8 * j by omega]
  simp
def hexW (x : UInt32) : List UInt8 := hex4 (sr32 x 16).toNat ++ hex4 (x.toNat &&& (65535 : Int).toNat)
theorem hexW_eq (x : UInt32) : hexW x = hexL (be4 x) := by
  have hx := x.toNat_lt
  have m15 : ∀ y : Nat, y &&& 15 = y % 16 := fun y => Nat.and_two_pow_sub_one_eq_mod y 4
  have m16 : ∀ y : Nat, y &&& (65535 : Int).toNat = y % 65536 := fun y => Nat.and_two_pow_sub_one_eq_mod y 16
  have s1 : (sr32 x 16).toNat = x.toNat / 65536 := by rw [sr32, UInt32.toNat_shiftRight, Nat.shiftRight_eq_div_pow]; rfl
  have s2 : (sr32 x 24).toUInt8.toNat = x.toNat / 16777216 % 256 := by rw [sr32, UInt32.toNat_toUInt8, UInt32.toNat_shiftRight, Nat.shiftRight_eq_div_pow]; rfl
  have s3 : (sr32 x 16).toUInt8.toNat = x.toNat / 65536 % 256 := by rw [UInt32.toNat_toUInt8, s1]
  have s4 : (sr32 x 8).toUInt8.toNat = x.toNat / 256 % 256 := by rw [sr32, UInt32.toNat_toUInt8, UInt32.toNat_shiftRight, Nat.shiftRight_eq_div_pow]; rfl
  have s5 : x.toUInt8.toNat = x.toNat % 256 := UInt32.toNat_toUInt8 x
  unfold hexW hexL be4
  simp only [List.flatMap_cons, List.flatMap_nil, hex2, hex4, s1, s2, s3, s4, s5, m15, m16, Nat.shiftRight_eq_div_pow, List.cons_append, List.nil_append, List.append_nil]
  rw [show x.toNat / 65536 / 2 ^ 12 % 16 = x.toNat / 16777216 % 256 / 2 ^ 4 by omega, show x.toNat / 65536 / 2 ^ 8 % 16 = x.toNat / 16777216 % 256 % 16 by omega, show x.toNat / 65536 / 2 ^ 4 % 16 = x.toNat / 65536 % 256 / 2 ^ 4 by omega,
    show x.toNat / 65536 % 16 = x.toNat / 65536 % 256 % 16 by omega, show x.toNat % 65536 / 2 ^ 12 % 16 = x.toNat / 256 % 256 / 2 ^ 4 by omega, show x.toNat % 65536 / 2 ^ 8 % 16 = x.toNat / 256 % 256 % 16 by omega,
    show x.toNat % 65536 / 2 ^ 4 % 16 = x.toNat % 256 / 2 ^ 4 by omega, show x.toNat % 65536 % 16 = x.toNat % 256 % 16 by omega]
theorem hexWs : ∀ l : List UInt32, l.flatMap hexW = hexL (l.flatMap be4)
  | [] => rfl
  | x :: r => by
    rw [List.flatMap_cons, List.flatMap_cons, hexW_eq, hexWs r]
    unfold hexL
    rw [List.flatMap_append]
theorem hexWs_len (l : List UInt32) : (l.flatMap hexW).length = 8 * l.length := by
  rw [hexWs, hexL_len, flatMap_be4_len]; omega
set_option maxHeartbeats 4000000 in
theorem spec_Sum (I : Imm) (s : List UInt8) (hlen : s.length ≤ 1099511627776) : Pure Proofs.Tryd.prog 6 [str s] I fun w J => w = hashV sha256T (hexL (sha s)) := by
  obtain ⟨k, hk⟩ : ∃ k, s.length / 64 = k := ⟨_, rfl⟩
  have hk1 : 64 * k ≤ s.length := by omega
  have hfin : finalH s = absorb (absorb h0 s k) (padTail (s.drop (64 * k)) s.length) ((padTail (s.drop (64 * k)) s.length).length / 64) := by unfold finalH; rw [hk]
  have hrl : (s.drop (64 * k)).length < 64 := by simp; omega
  unfold sha
  refine Spec.enter 85 [(0, _)] Proofs.Tryd.func6 rfl Proofs.Tryd.ntmps6 (by simp) rfl ?_
  intro C hCf hR hCI
  repeat (first | refine Run.seq ?_)
  refine Run.region ?_
  refine Ops.alloc rfl (by decide) (T.zeroOk rfl) rfl (fun b2 => ?_)
  refine Ops.nil ?_
  repeat (first | refine Run.seq ?_)
  refine Run.regionP (D := [some 13, some 3, none]) [true] 1 rfl rfl rfl (by simp only [List.drop_succ_cons, List.drop_zero]; rfl) (fun Z hZ => ?_)
  refine QD.e (Ev.buildArr (cs := h0.cs) T rfl rfl rfl rfl (by decide) (by decide) (by decide) rfl) (by decide) rfl ?_
  refine QD.nil (hZ _ ?_)
  clear hZ Z
  refine Ops.alloc rfl (by decide) (T.zeroOk rfl) rfl (fun b3 => ?_)
  refine Ops.store 0 (cs' := h0.cs) rfl rfl rfl rfl rfl (T.sizeOk rfl) rfl (Nat.le_of_ble_eq_true rfl) rfl rfl ?_
  refine Ops.nil ?_
  repeat (first | refine Run.seq ?_)
  refine Run.regionP (D := [some 14, some 4, none]) [true] 1 rfl rfl rfl (by simp only [List.drop_succ_cons, List.drop_zero]; rfl) (fun Z hZ => ?_)
  refine QD.call (spec_shaWords I) (by decide) rfl Proofs.Tryd.call15 rfl ?_
  refine QD.nil (hZ _ ?_)
  clear hZ Z
  refine Ops.alloc (cs := (List.replicate 64 (0 : UInt32)).map w32) rfl (by decide) (T.zeroOk rfl) (by kernel_rfl) (fun b4 => ?_)
  refine Ops.store 0 (cs' := kW.map w32) rfl rfl rfl rfl rfl (T.sizeOk rfl) rfl (Nat.le_of_ble_eq_true rfl) (by decide) (by kernel_rfl) ?_
  refine Ops.nil ?_
  refine Run.freeze fun J lJ hJ => ?_
  have hkA : At J b4 0 (kW.map w32) := At.block hJ
  refine Run.perm (L' := [(b2, _), (b3, blk h0.cs 51)]) (List.Perm.swap _ _ _) ?_
  repeat (first | refine Run.seq ?_)
  refine Run.regionO (D := [some 15, some 16, some 5]) [true, true, true] rfl rfl rfl (fun Z hZ => ?_)
  refine QD.ev T (by decide) rfl rfl ?_
  refine QD.e (Ev.lenS T rfl rfl) (by decide) rfl ?_
  refine QD.ev T (by decide) rfl rfl ?_
  refine QD.nil (hZ _ ?_)
  clear hZ Z
  repeat (first | refine Run.seq ?_)
  have ek : ((s.length : Int) / 64 * 64).toNat = 64 * k := by omega
  refine Run.regionO (D := [some 17, some 18, some 19, some 20, some 21, some 22, some 6]) [true, true, true, true, true, true, true] rfl rfl rfl (fun Z hZ => ?_)
  refine QD.ev T (by decide) rfl rfl ?_
  refine QD.ev T (by decide) rfl rfl ?_
  refine QD.e (Ev.quoI rfl rfl (by decide) ((congrArg IntKind.i64.wrap (Int.tdiv_eq_ediv_of_nonneg (by first | omega | (simp only [List.length_cons, List.length_nil] ; omega) | (simp; omega)))).trans (wI (by first | omega | (simp only [List.length_cons, List.length_nil] ; omega) | (simp; omega)) (by first | omega | (simp only [List.length_cons, List.length_nil] ; omega) | (simp; omega))))) (by decide) rfl ?_
  refine QD.e (Ev.mulI rfl rfl (wI (by first | omega | (simp only [List.length_cons, List.length_nil] ; omega) | (simp; omega)) (by first | omega | (simp only [List.length_cons, List.length_nil] ; omega) | (simp; omega)))) (by decide) rfl ?_
  refine QD.e (Ev.cutSLo T rfl rfl rfl (by first | omega | (simp only [List.length_cons, List.length_nil] ; omega) | (simp; omega)) (by first | omega | (simp only [List.length_cons, List.length_nil] ; omega) | (simp; omega))) (by decide) rfl ?_
  refine QD.e (Ev.catS rfl rfl (by first | omega | (simp only [List.length_cons, List.length_nil] ; omega) | (simp; omega))) (by decide) rfl ?_
  refine QD.ev T (by decide) rfl rfl ?_
  refine QD.nil (hZ _ ?_)
  clear hZ Z
  rw [ek]
  generalize hr : s.drop (64 * k) = r at *
  repeat (first | refine Run.seq ?_ | refine Run.block ?_)
  refine Run.keep [0, 2, 3, 4, 5, 6] [_, _, _, _, _, _] rfl ?_
  have hrl' : r.length < 64 := hrl
  refine Run.rounds (fun m env L J' => ∃ (z : Nat), m = 64 - z ∧ z ≤ zs r.length ∧ env = [(0, str s), (2, .pointer (some ⟨b2, 0, none⟩)), (3, .pointer (some ⟨b3, 0, none⟩)), (4, .pointer (some ⟨b4, 0, none⟩)), (5, .int .i64 s.length), (6, str (r ++ [128] ++ List.replicate z 0))] ∧ L = [(b2, blk [str [], str []] 24), (b3, blk h0.cs 51)] ∧ J = J') 64 ⟨0, rfl, by omega, by simp, rfl, rfl⟩ ?_
  rintro m env L J' ⟨z, rfl, hz, rfl, rfl, rfl⟩ ih
  have hl : (r ++ [128] ++ List.replicate z (0 : UInt8)).length = r.length + 1 + z := by simp; omega
  have hz64 : z < 64 := by unfold zs at hz; omega
  repeat (first | refine Run.seq ?_)
  refine Run.regionO (D := [some 23, some 24, some 25, some 26]) [true, true, true, true] rfl rfl rfl (fun Z hZ => ?_)
  refine QD.ev T (by decide) rfl rfl ?_
  refine QD.e (Ev.lenS T rfl rfl) (by decide) rfl ?_
  refine QD.e (Ev.remI rfl rfl (by decide) (Int.tmod_eq_emod_of_nonneg (by first | omega | (simp only [List.length_cons, List.length_nil] ; omega) | (simp; omega)))) (by decide) rfl ?_
  refine QD.e (Ev.neqI rfl rfl) (by decide) rfl ?_
  refine QD.nil (hZ _ ?_)
  clear hZ Z
  skip
  cases h1 : !decide ((((r ++ [128] ++ List.replicate z (0 : UInt8)).length : Int) % 64) = 56) with
  | true =>
    have hne : ¬ (r.length + 1 + z) % 64 = 56 := by simp at h1; omega
    repeat (first | refine Run.skip ?_ | refine Run.block ?_ | refine Run.cond_t rfl ?_)
    refine Run.regionO (D := [some 27, some 28, some 6]) [true, true, true] rfl rfl rfl (fun Z hZ => ?_)
    refine QD.ev T (by decide) rfl rfl ?_
    refine QD.e (Ev.catS rfl rfl (by first | omega | (simp only [List.length_cons, List.length_nil] ; omega) | (simp; omega))) (by decide) rfl ?_
    refine QD.ev T (by decide) rfl rfl ?_
    refine QD.nil (hZ _ ?_)
    clear hZ Z
    repeat (first | refine Run.inBlock ?_)
    refine Run.keep [0, 2, 3, 4, 5, 6] [_, _, _, _, _, _] rfl ?_
    have e1 : r ++ [128] ++ List.replicate z (0 : UInt8) ++ [0] = r ++ [128] ++ List.replicate (z + 1) 0 := by rw [List.replicate_succ']; simp only [List.append_assoc]
    rw [e1]
    exact ih (64 - (z + 1)) _ _ _ (by omega) ⟨z + 1, rfl, by unfold zs at hz ⊢; omega, rfl, rfl, rfl⟩
  | false =>
  have hzz : z = zs r.length := by
    have : (r.length + 1 + z) % 64 = 56 := by simp at h1; omega
    unfold zs at hz ⊢; omega
  clear ih h1
  subst hzz
  repeat (first | refine Run.seq ?_ | refine Run.exit rfl ?_ | refine Run.cond_f rfl ?_)
  refine Run.regionO (D := [some 7]) [true] rfl rfl rfl (fun Z hZ => ?_)
  refine QD.ev T (by decide) rfl rfl ?_
  refine QD.nil (hZ _ ?_)
  clear hZ Z
  repeat (first | refine Run.block ?_)
  refine Run.keep [0, 2, 3, 4, 5, 6, 7] [_, _, _, _, _, _, _] rfl ?_
  have etl : r ++ [128] ++ List.replicate (zs r.length) 0 ++ be8 s.length = padTail r s.length := rfl
  generalize r ++ [128] ++ List.replicate (zs r.length) (0 : UInt8) = q at *
  refine Run.rounds (fun m env L J' => ∃ (j : Nat), m = 8 - j ∧ j ≤ 8 ∧ env = [(0, str s), (2, .pointer (some ⟨b2, 0, none⟩)), (3, .pointer (some ⟨b3, 0, none⟩)), (4, .pointer (some ⟨b4, 0, none⟩)), (5, .int .i64 s.length), (6, str (q ++ (be8 s.length).take j)), (7, .int .i64 (7 - (j : Int)))] ∧ L = [(b2, blk [str [], str []] 24), (b3, blk h0.cs 51)] ∧ J = J') 8 ⟨0, rfl, by omega, by simp, rfl, rfl⟩ ?_
  rintro m env L J' ⟨j, rfl, hj, rfl, rfl, rfl⟩ ih
  have hl2 : (q ++ (be8 s.length).take j).length = q.length + j := by rw [List.length_append, List.length_take, be8_len]; omega
  repeat (first | refine Run.seq ?_)
  refine Run.regionO (D := [some 29, some 30]) [true, true] rfl rfl rfl (fun Z hZ => ?_)
  refine QD.ev T (by decide) rfl rfl ?_
  refine QD.e (Ev.geq rfl rfl) (by decide) rfl ?_
  refine QD.nil (hZ _ ?_)
  clear hZ Z
  skip
  refine Run.cond rfl rfl (fun h1 => ?_) (fun h1 => ?_)
  all_goals (try rw [h1])
  all_goals (try simp only [decide_eq_true_eq, decide_eq_false_iff_not, Bool.not_eq_true', Bool.not_eq_false', Bool.and_eq_true, Bool.or_eq_true, Bool.and_eq_false_imp, Bool.or_eq_false_iff] at h1)
  · skip
    repeat (first | refine Run.seq ?_ | refine Run.skip ?_ | refine Run.block ?_)
    refine Run.regionP (D := [some 33, some 34, some 35, some 36, some 37, some 38, some 39, some 40, some 41, some 42, some 6]) [true, true, true, true, true, true, true] 7 rfl rfl rfl (by simp only [List.drop_succ_cons, List.drop_zero]; rfl) (fun Z hZ => ?_)
    refine QD.ev T (by decide) rfl rfl ?_
    refine QD.ev T (by decide) rfl rfl ?_
    refine QD.e (Ev.mulI rfl rfl (wI (by first | omega | (simp only [List.length_cons, List.length_nil] ; omega) | (simp; omega)) (by first | omega | (simp only [List.length_cons, List.length_nil] ; omega) | (simp; omega)))) (by decide) rfl ?_
    refine QD.ev T (by decide) rfl rfl ?_
    refine QD.e (Ev.mulI rfl rfl (wI (by first | omega | (simp only [List.length_cons, List.length_nil] ; omega) | (simp; omega)) (by first | omega | (simp only [List.length_cons, List.length_nil] ; omega) | (simp; omega)))) (by decide) rfl ?_
    refine QD.e (Ev.shrI rfl rfl (by omega) (show (8 * (7 - (j : Int))).toNat ≤ 64 by omega)) (by decide) rfl ?_
    refine QD.e (Ev.conv T rfl rfl rfl (byte_eq (n := s.length) hlen (by omega))) (by decide) rfl ?_
    refine QD.nil (hZ _ ?_)
    clear hZ Z
    refine Ops.lit T rfl rfl rfl (by decide) rfl (by decide) (by decide) rfl rfl rfl rfl rfl (fun bq => ?_)
    refine Ops.eff rfl (dOk (by decide)) (Eff.yv (Yv.bytesBuf (N := [(bq, blk ([] ++ wb [(sr64 (UInt64.ofNat s.length * 8) (56 - 8 * (j : Int))).toUInt8] ++ []) 5)]) T (.inr ⟨bq, [], [], 1, rfl, rfl, by simp, by simp⟩) (fun _ h => by rw [List.mem_singleton.1 h]; exact List.mem_cons_self) rfl rfl rfl rfl) ?_)
    refine Ops.ev (Ev.catS rfl rfl (by first | omega | (simp only [List.length_cons, List.length_nil] ; omega) | (simp; omega))) rfl (by decide) ?_
    refine Ops.pure T rfl (by decide) rfl ?_
    refine Ops.nil ?_
    refine Run.dropL (List.sublist_cons_self _ _) ?_
    repeat (first | refine Run.inBlock ?_)
    refine Run.regionO (D := [some 31, some 32, some 7]) [true, true, true] rfl rfl rfl (fun Z hZ => ?_)
    refine QD.ev T (by decide) rfl rfl ?_
    refine QD.e (Ev.subI rfl rfl (wI (by first | omega | (simp only [List.length_cons, List.length_nil] ; omega) | (simp; omega)) (by first | omega | (simp only [List.length_cons, List.length_nil] ; omega) | (simp; omega)))) (by decide) rfl ?_
    refine QD.ev T (by decide) rfl rfl ?_
    refine QD.nil (hZ _ ?_)
    clear hZ Z
    skip
    refine Run.keep [0, 2, 3, 4, 5, 6, 7] [_, _, _, _, _, _, _] rfl ?_
    rw [List.append_assoc q, ← be8_take s.length j (by omega)]
    exact ih (8 - (j + 1)) _ _ _ (by omega) ⟨j + 1, rfl, by omega, by rw [show (7 - ((j + 1 : Nat) : Int)) = 7 - (j : Int) - 1 by omega]; rfl, rfl, rfl⟩
  have : j = 8 := by omega
  subst this
  clear ih h1
  rw [show (be8 s.length).take 8 = be8 s.length from List.take_of_length_le (by rw [be8_len]; omega), etl]
  obtain ⟨p1, p2, p3⟩ := padTail_len (n := s.length) hrl'
  clear etl hl2
  generalize padTail r s.length = tl at *
  repeat (first | refine Run.seq ?_ | refine Run.exit rfl ?_)
  refine Run.regionO (D := [some 8]) [true] rfl rfl rfl (fun Z hZ => ?_)
  refine QD.ev T (by decide) rfl rfl ?_
  refine QD.nil (hZ _ ?_)
  clear hZ Z
  repeat (first | refine Run.block ?_)
  refine Run.keep [0, 2, 3, 4, 5, 6, 8] [_, _, _, _, _, _, _] rfl ?_
  refine Run.rounds (fun m env L J' => ∃ (j : Nat), m = k - j ∧ j ≤ k ∧ env = [(0, str s), (2, .pointer (some ⟨b2, 0, none⟩)), (3, .pointer (some ⟨b3, 0, none⟩)), (4, .pointer (some ⟨b4, 0, none⟩)), (5, .int .i64 s.length), (6, str tl), (8, .int .i64 ((64 * j : Nat) : Int))] ∧ L = [(b2, blk [str [], str []] 24), (b3, blk (absorb h0 s j).cs 51)] ∧ Le J J') k ⟨0, by omega, by omega, rfl, by rw [absorb_zero], Le.refl _⟩ ?_
  rintro m env L J' ⟨j, rfl, hj, rfl, rfl, hle⟩ ih
  repeat (first | refine Run.seq ?_)
  refine Run.regionO (D := [some 43, some 44, some 45, some 46]) [true, true, true, true] rfl rfl rfl (fun Z hZ => ?_)
  refine QD.ev T (by decide) rfl rfl ?_
  refine QD.e (Ev.addI rfl rfl (wI (by first | omega | (simp only [List.length_cons, List.length_nil] ; omega) | (simp; omega)) (by first | omega | (simp only [List.length_cons, List.length_nil] ; omega) | (simp; omega)))) (by decide) rfl ?_
  refine QD.ev T (by decide) rfl rfl ?_
  refine QD.e (Ev.leq rfl rfl) (by decide) rfl ?_
  refine QD.nil (hZ _ ?_)
  clear hZ Z
  skip
  refine Run.cond rfl rfl (fun h1 => ?_) (fun h1 => ?_)
  all_goals (try rw [h1])
  all_goals (try simp only [decide_eq_true_eq, decide_eq_false_iff_not, Bool.not_eq_true', Bool.not_eq_false', Bool.and_eq_true, Bool.or_eq_true, Bool.and_eq_false_imp, Bool.or_eq_false_iff] at h1)
  · have e1 : (s.take (((64 * j : Nat) : Int) + 64).toNat).drop ((64 * j : Nat) : Int).toNat = (s.drop (64 * j)).take 64 := by
      rw [List.drop_take, Int.toNat_natCast, show (((64 * j : Nat) : Int) + 64).toNat - 64 * j = 64 by omega]
    repeat (first | refine Run.seq ?_ | refine Run.skip ?_ | refine Run.block ?_)
    refine Run.regionP (D := [some 49, some 50, some 51, some 52, some 53, some 54]) [true, true, true, true, true] 5 rfl rfl rfl (by simp only [List.drop_succ_cons, List.drop_zero]; rfl) (fun Z hZ => ?_)
    refine QD.ev T (by decide) rfl rfl ?_
    refine QD.ev T (by decide) rfl rfl ?_
    refine QD.ev T (by decide) rfl rfl ?_
    refine QD.e (Ev.addI rfl rfl (wI (by first | omega | (simp only [List.length_cons, List.length_nil] ; omega) | (simp; omega)) (by first | omega | (simp only [List.length_cons, List.length_nil] ; omega) | (simp; omega)))) (by decide) rfl ?_
    refine QD.e (Ev.cutS T rfl rfl rfl rfl (by first | omega | (simp only [List.length_cons, List.length_nil] ; omega) | (simp; omega)) (by first | omega | (simp only [List.length_cons, List.length_nil] ; omega) | (simp; omega)) (by first | omega | (simp only [List.length_cons, List.length_nil] ; omega) | (simp; omega))) (by decide) rfl ?_
    refine QD.nil (hZ _ ?_)
    clear hZ Z
    rw [e1]
    refine Ops.callP (N := [_]) ((spec_shaBlock J' (absorb h0 s j) b3 b4 ((s.drop (64 * j)).take 64) (by simp; omega) (hkA.mono hle))) (.refl _) rfl (by decide) Proofs.Tryd.call16 rfl ?_
    rintro _ J2 M2 l2 rfl
    rw [← absorb_succ]
    refine Ops.nil ?_
    repeat (first | refine Run.inBlock ?_)
    refine Run.regionO (D := [some 47, some 48, some 8]) [true, true, true] rfl rfl rfl (fun Z hZ => ?_)
    refine QD.ev T (by decide) rfl rfl ?_
    refine QD.e (Ev.addI rfl rfl (wI (by first | omega | (simp only [List.length_cons, List.length_nil] ; omega) | (simp; omega)) (by first | omega | (simp only [List.length_cons, List.length_nil] ; omega) | (simp; omega)))) (by decide) rfl ?_
    refine QD.ev T (by decide) rfl rfl ?_
    refine QD.nil (hZ _ ?_)
    clear hZ Z
    skip
    refine Run.keep [0, 2, 3, 4, 5, 6, 8] [_, _, _, _, _, _, _] rfl ?_
    exact ih (k - (j + 1)) _ _ _ (by omega) ⟨j + 1, rfl, by omega, by rw [show ((64 * (j + 1) : Nat) : Int) = ((64 * j : Nat) : Int) + 64 by omega]; rfl, rfl, hle.trans l2⟩
  have : j = k := by omega
  subst this
  clear ih h1
  generalize absorb h0 s j = hk' at *
  have hkB := hkA.mono hle
  repeat (first | refine Run.seq ?_ | refine Run.exit rfl ?_)
  refine Run.regionO (D := [some 9]) [true] rfl rfl rfl (fun Z hZ => ?_)
  refine QD.ev T (by decide) rfl rfl ?_
  refine QD.nil (hZ _ ?_)
  clear hZ Z
  repeat (first | refine Run.block ?_)
  refine Run.keep [2, 3, 4, 6, 9] [_, _, _, _, _] rfl ?_
  refine Run.rounds (fun m env L J2 => ∃ (j : Nat), m = tl.length / 64 - j ∧ j ≤ tl.length / 64 ∧ env = [(2, .pointer (some ⟨b2, 0, none⟩)), (3, .pointer (some ⟨b3, 0, none⟩)), (4, .pointer (some ⟨b4, 0, none⟩)), (6, str tl), (9, .int .i64 ((64 * j : Nat) : Int))] ∧ L = [(b2, blk [str [], str []] 24), (b3, blk (absorb hk' tl j).cs 51)] ∧ Le J' J2) (tl.length / 64) ⟨0, by omega, by omega, rfl, by rw [absorb_zero], Le.refl _⟩ ?_
  rintro m env L J2 ⟨j, rfl, hj, rfl, rfl, hle2⟩ ih
  repeat (first | refine Run.seq ?_)
  refine Run.regionO (D := [some 55, some 56, some 57, some 58]) [true, true, true, true] rfl rfl rfl (fun Z hZ => ?_)
  refine QD.ev T (by decide) rfl rfl ?_
  refine QD.ev T (by decide) rfl rfl ?_
  refine QD.e (Ev.lenS T rfl rfl) (by decide) rfl ?_
  refine QD.e (Ev.lss rfl rfl) (by decide) rfl ?_
  refine QD.nil (hZ _ ?_)
  clear hZ Z
  skip
  refine Run.cond rfl rfl (fun h1 => ?_) (fun h1 => ?_)
  all_goals (try rw [h1])
  all_goals (try simp only [decide_eq_true_eq, decide_eq_false_iff_not, Bool.not_eq_true', Bool.not_eq_false', Bool.and_eq_true, Bool.or_eq_true, Bool.and_eq_false_imp, Bool.or_eq_false_iff] at h1)
  · have e1 : (tl.take (((64 * j : Nat) : Int) + 64).toNat).drop ((64 * j : Nat) : Int).toNat = (tl.drop (64 * j)).take 64 := by
      rw [List.drop_take, Int.toNat_natCast, show (((64 * j : Nat) : Int) + 64).toNat - 64 * j = 64 by omega]
    repeat (first | refine Run.seq ?_ | refine Run.skip ?_ | refine Run.block ?_)
    refine Run.regionP (D := [some 61, some 62, some 63, some 64, some 65, some 66]) [true, true, true, true, true] 5 rfl rfl rfl (by simp only [List.drop_succ_cons, List.drop_zero]; rfl) (fun Z hZ => ?_)
    refine QD.ev T (by decide) rfl rfl ?_
    refine QD.ev T (by decide) rfl rfl ?_
    refine QD.ev T (by decide) rfl rfl ?_
    refine QD.e (Ev.addI rfl rfl (wI (by first | omega | (simp only [List.length_cons, List.length_nil] ; omega) | (simp; omega)) (by first | omega | (simp only [List.length_cons, List.length_nil] ; omega) | (simp; omega)))) (by decide) rfl ?_
    refine QD.e (Ev.cutS T rfl rfl rfl rfl (by first | omega | (simp only [List.length_cons, List.length_nil] ; omega) | (simp; omega)) (by first | omega | (simp only [List.length_cons, List.length_nil] ; omega) | (simp; omega)) (by first | omega | (simp only [List.length_cons, List.length_nil] ; omega) | (simp; omega))) (by decide) rfl ?_
    refine QD.nil (hZ _ ?_)
    clear hZ Z
    rw [e1]
    refine Ops.callP (N := [_]) ((spec_shaBlock J2 (absorb hk' tl j) b3 b4 ((tl.drop (64 * j)).take 64) (by simp; omega) (hkB.mono hle2))) (.refl _) rfl (by decide) Proofs.Tryd.call16 rfl ?_
    rintro _ J3 M2 l3 rfl
    rw [← absorb_succ]
    refine Ops.nil ?_
    repeat (first | refine Run.inBlock ?_)
    refine Run.regionO (D := [some 59, some 60, some 9]) [true, true, true] rfl rfl rfl (fun Z hZ => ?_)
    refine QD.ev T (by decide) rfl rfl ?_
    refine QD.e (Ev.addI rfl rfl (wI (by first | omega | (simp only [List.length_cons, List.length_nil] ; omega) | (simp; omega)) (by first | omega | (simp only [List.length_cons, List.length_nil] ; omega) | (simp; omega)))) (by decide) rfl ?_
    refine QD.ev T (by decide) rfl rfl ?_
    refine QD.nil (hZ _ ?_)
    clear hZ Z
    skip
    refine Run.keep [2, 3, 4, 6, 9] [_, _, _, _, _] rfl ?_
    exact ih (tl.length / 64 - (j + 1)) _ _ _ (by omega) ⟨j + 1, rfl, by omega, by rw [show ((64 * (j + 1) : Nat) : Int) = ((64 * j : Nat) : Int) + 64 by omega]; rfl, rfl, hle2.trans l3⟩
  have hjt : j = tl.length / 64 := by omega
  clear ih h1
  rw [← hjt] at hfin
  generalize absorb hk' tl j = u at *
  rw [hfin] at hR
  repeat (first | refine Run.seq ?_ | refine Run.exit rfl ?_)
  refine Run.regionO (D := [some 10]) [true] rfl rfl rfl (fun Z hZ => ?_)
  refine QD.ev T (by decide) rfl rfl ?_
  refine QD.nil (hZ _ ?_)
  clear hZ Z
  repeat (first | refine Run.seq ?_)
  refine Run.regionO (D := [some 67, some 68]) [true, true] rfl rfl rfl (fun Z hZ => ?_)
  first | refine QD.yv (by decide) rfl (Yv.loadN 0 T rfl rfl rfl rfl rfl rfl) ?_ | refine QD.yv (by decide) rfl (Yv.loadN 1 T rfl rfl rfl rfl rfl rfl) ?_ | refine QD.yv (by decide) rfl (Yv.loadN 2 T rfl rfl rfl rfl rfl rfl) ?_
  refine QD.ev T (by decide) rfl rfl ?_
  refine QD.nil (hZ _ ?_)
  clear hZ Z
  repeat (first | refine Run.block ?_)
  refine Run.keep [2, 10, 67, 68] [_, _, _, _] rfl ?_
  refine Run.rounds (fun m env L J3 => ∃ (j : Nat), m = 8 - j ∧ j ≤ 8 ∧ env = [(2, .pointer (some ⟨b2, 0, none⟩)), (10, str ((u.ws.take j).flatMap hexW)), (67, .agg u.cs.toArray), (68, .int .i64 (j : Int))] ∧ L = [(b2, blk [str [], str []] 24), (b3, blk u.cs 51)] ∧ J2 = J3) 8 ⟨0, by omega, by omega, rfl, rfl, rfl⟩ ?_
  rintro m env L J3 ⟨j, rfl, hj, rfl, rfl, rfl⟩ ih
  repeat (first | refine Run.seq ?_)
  refine Run.regionO (D := [some 69]) [true] rfl rfl rfl (fun Z hZ => ?_)
  refine QD.e (Ev.lss rfl rfl) (by decide) rfl ?_
  refine QD.nil (hZ _ ?_)
  clear hZ Z
  repeat (first | refine Run.seq ?_)
  refine Run.cond rfl rfl (fun h1 => ?_) (fun h1 => ?_)
  all_goals (try rw [h1])
  all_goals (try simp only [decide_eq_true_eq, decide_eq_false_iff_not, Bool.not_eq_true', Bool.not_eq_false', Bool.and_eq_true, Bool.or_eq_true, Bool.and_eq_false_imp, Bool.or_eq_false_iff] at h1)
  · have hj8 : j < u.ws.length := by simp [H8.ws]; omega
    have hget : u.cs[(j : Int).toNat]? = some (w32 (u.ws.getD j 0)) := by
      rw [H8.cs_ws, List.getElem?_map, Int.toNat_natCast, List.getD_eq_getElem?_getD, List.getElem?_eq_getElem hj8]; rfl
    have hlx : ((u.ws.take j).flatMap hexW).length ≤ 64 := by
      rw [hexWs_len, List.length_take]; omega
    have hs16 : (sr32 (u.ws.getD j 0) 16).toNat < 65536 := by
      have := (u.ws.getD j 0).toNat_lt
      rw [sr32, UInt32.toNat_shiftRight, Nat.shiftRight_eq_div_pow, show (UInt32.ofNat (16 : Int).toNat).toNat % 32 = 16 from rfl]
      omega
    have ha16 : (u.ws.getD j 0).toNat &&& (65535 : Int).toNat ≤ 65535 := Nat.and_le_right
    have htk : (u.ws.take (j + 1)).flatMap hexW = (u.ws.take j).flatMap hexW ++ hexW (u.ws.getD j 0) := by
      rw [List.take_add_one, List.flatMap_append, List.getD_eq_getElem?_getD, List.getElem?_eq_getElem hj8]
      simp
    repeat (first | refine Run.seq ?_ | refine Run.skip ?_ | refine Run.block ?_)
    refine Run.regionO (D := [some 70, some 12]) [true, true] rfl rfl rfl (fun Z hZ => ?_)
    refine QD.e (Ev.indexA T rfl rfl rfl rfl rfl (by omega) (by omega) hget) (by decide) rfl ?_
    refine QD.ev T (by decide) rfl rfl ?_
    refine QD.nil (hZ _ ?_)
    clear hZ Z
    generalize u.ws.getD j 0 = x at *
    have hl4 : ∀ y, (hex4 y).length = 4 := fun _ => rfl
    skip
    refine Run.regionO (D := [some 71, some 72, some 73, some 74, some 75, some 76, some 77, some 78, some 79, some 80, some 81, some 10]) [true, true, true, true, true, true, true, true, true, true, true, true] rfl rfl rfl (fun Z hZ => ?_)
    refine QD.ev T (by decide) rfl rfl ?_
    refine QD.ev T (by decide) rfl rfl ?_
    refine QD.e (Ev.shr32 rfl rfl (by first | decide | omega) (by first | decide | omega)) (by decide) rfl ?_
    refine QD.e (Ev.conv T rfl rfl rfl (wI32 (by omega) (by omega))) (by decide) rfl ?_
    refine QD.call (spec_hexes J2 (sr32 x 16).toNat (by omega)) (by decide) rfl Proofs.Tryd.call17 rfl ?_
    refine QD.ev T (by decide) rfl rfl ?_
    refine QD.e (Ev.andN (a := x.toNat) rfl rfl (by decide) (show _ < 2 ^ 32 from x.toNat_lt) (by decide)) (by decide) rfl ?_
    refine QD.e (Ev.conv T rfl rfl rfl (wI32 (by omega) (by omega))) (by decide) rfl ?_
    refine QD.call (spec_hexes J2 (x.toNat &&& (65535 : Int).toNat) (by omega)) (by decide) rfl Proofs.Tryd.call17 rfl ?_
    refine QD.e (Ev.catS rfl rfl (by rw [hl4, hl4]; omega)) (by decide) rfl ?_
    refine QD.e (Ev.catS rfl rfl (by rw [List.length_append, hl4, hl4]; omega)) (by decide) rfl ?_
    refine QD.ev T (by decide) rfl rfl ?_
    refine QD.nil (hZ _ ?_)
    clear hZ Z
    repeat (first | refine Run.inBlock ?_)
    refine Run.regionO (D := [some 82, some 68]) [true, true] rfl rfl rfl (fun Z hZ => ?_)
    refine QD.e (Ev.addI rfl rfl (wI (by first | omega | (simp only [List.length_cons, List.length_nil] ; omega) | (simp; omega)) (by first | omega | (simp only [List.length_cons, List.length_nil] ; omega) | (simp; omega)))) (by decide) rfl ?_
    refine QD.ev T (by decide) rfl rfl ?_
    refine QD.nil (hZ _ ?_)
    clear hZ Z
    skip
    refine Run.keep [2, 10, 67, 68] [_, _, _, _] rfl ?_
    exact ih (8 - (j + 1)) _ _ _ (by omega) ⟨j + 1, rfl, by omega, by rw [htk]; rfl, rfl, rfl⟩
  have : j = 8 := by omega
  subst this
  rw [show u.ws.take 8 = u.ws from rfl, hexWs]
  repeat (first | refine Run.seq ?_ | refine Run.exit rfl ?_)
  refine Run.regionP (D := [some 83, some 84, none]) [true, true] 2 rfl rfl rfl (by simp only [List.drop_succ_cons, List.drop_zero]; rfl) (fun Z hZ => ?_)
  refine QD.ev T (by decide) rfl rfl ?_
  refine QD.e (Ev.buildS bd24 rfl rfl) (by decide) rfl ?_
  refine QD.nil (hZ _ ?_)
  clear hZ Z
  first | refine Ops.store 0 rfl rfl rfl rfl rfl (T.sizeOk rfl) rfl (Nat.le_of_ble_eq_true rfl) rfl rfl ?_ | refine Ops.store 1 rfl rfl rfl rfl rfl (T.sizeOk rfl) rfl (Nat.le_of_ble_eq_true rfl) rfl rfl ?_ | refine Ops.store 2 rfl rfl rfl rfl rfl (T.sizeOk rfl) rfl (Nat.le_of_ble_eq_true rfl) rfl rfl ?_
  refine Ops.nil ?_
  skip
  refine Run.retC T 0 (by rw [hCf]; exact Proofs.Tryd.func6) Proofs.Tryd.results6 rfl rfl rfl rfl rfl rfl (hR _ _ _ ?_)
  exact ⟨rfl, rfl⟩
end Go.V
