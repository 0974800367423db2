import Derived.Test.YteppnkblebknnaaDoorSM5
/-
  Texts of runes written as JSON by the package.
-/
namespace Go.V
open Go.RowKit
set_option linter.unusedVariables false
set_option linter.unusedSimpArgs false
set_option maxRecDepth 10000
attribute [local irreducible] Run Ops QD
section
variable {P : Program} {I : Imm} {L : Own} {n : Nat} {C : Cx} {env : Env} {ops : Array Oper} {ty : TypeId} {ps : String} {af : Array Edge} {g : Option (Nat × Bool)} {d : Nat}
theorem Eff.appLit {s x : Operand} {ts e : TypeId} {b q c : Nat} {M N : Own} {v : Value} {xs : List UInt8} {news : List Value} {K : Value → Own → Imm → Prop} (ys : List UInt8) (hE : Bt P ts e) (hG : Buf e v xs M) (hs : opnd env s = some v) (hx : opnd env x = some (.slice (some ⟨b, 0, none⟩) q c))
    (hL : L = (b, blk news e) :: (N ++ M)) (hn : news = wb ys) (hq : ys.length = q) (hbytes : 2 * (xs.length + ys.length) + 512 ≤ 281474976710656)
    (next : ∀ v' M', Buf e v' (xs ++ ys) M' → K v' (N ++ M') I) : Eff P n C env L I ⟨some d, .call ⟨.builtin .append, #[s, x], #[ts, ts]⟩, ty, ps, af, g⟩ K := by
  subst hL; subst hn; subst hq
  intro a W he hi
  have hp : ((b, blk (wb ys) e) :: (N ++ M)).Perm (M ++ ((b, blk (wb ys) e) :: N)) := (List.Perm.cons _ List.perm_append_comm).trans List.perm_middle.symm
  have hsrc := src_own (P := P) (ts := ts) (pre := []) (post := []) (ys := ys) (b := b) (c := c) (e' := e) hE.el.under hi (by simp)
  simp only [List.length_nil] at hsrc
  obtain ⟨v', W', M', hr, hG', hi'⟩ := run_append_buf (P := P) (ty := ty) hE.el hE.zero (hi.perm hp) hG hsrc hbytes (by omega)
  refine .inl ⟨v', W', N ++ M', I, .inl ?_, ?_, next v' M' hG'⟩
  · simp [execOp, resolve, Go.invoke, builtin, eval_opnd he hs, eval_opnd he hx, hr]
  · exact (hi'.perm List.perm_append_comm).weakenL (List.Sublist.append_right (List.sublist_cons_self _ _) _)
end
/-- a writer -/
def WrSt (w : Nat) (bad begun : Bool) (xs : Bs) (N : Own) : Prop := ∃ v M, N = (w, blk [.bool bad, v, .bool begun] 108) :: M ∧ Buf 5 v xs M
def hexT : Bs := [48, 49, 50, 51, 52, 53, 54, 55, 56, 57, 97, 98, 99, 100, 101, 102]
theorem hexT_fin : ∀ k : Fin 16, hexT.getD k.val 0 = hexD k.val := by decide
theorem hexV16 {n : Nat} (h : n < 16) : Value.int .u8 (((hexT.getD ((n : Nat) : Int).toNat 0).toNat : Nat) : Int) = w8 (hexD n) := by
  rw [Int.toNat_natCast, hexT_fin ⟨n, h⟩]
theorem hexD_mod (n : Nat) : hexD (n % 16) = hexD n := by unfold hexD; simp
theorem quo1_len {c : Nat} (g : goodR c) : (quo1 c).length ≤ 6 := by
  have h := encR_pos c
  unfold quo1 hexes
  repeat' split
  all_goals simp <;> omega
theorem flat_len : ∀ (rs : List Nat), (∀ r ∈ rs, goodR r) → (rs.flatMap quo1).length ≤ 6 * rs.length
  | [], _ => by simp
  | r :: rs, h => by
    have := flat_len rs fun x hx => h x (by simp [hx])
    have := quo1_len (h r (by simp))
    simp only [List.flatMap_cons, List.length_append, List.length_cons]; omega
set_option maxHeartbeats 4000000 in
theorem Writer_Str (I : Imm) (hU : UT I) (w : Nat) (bad begun : Bool) (xs : Bs) (rs : List Nat) (hg : ∀ r ∈ rs, goodR r) (N : Own) (hW : WrSt w bad begun xs N) (hs : xs.length + 6 * rs.length ≤ 1099511627776) :
    Spec Proofs.Tryd.prog 79 [.pointer (some ⟨w, 0, none⟩), str (encs rs)] I N fun v J N' => WrSt w bad begun (xs ++ quo rs) N' := by
  obtain ⟨v0, M0, rfl, hB⟩ := hW
  refine Spec.enter 191 [(0, _), (1, _)] Proofs.Tryd.func79 rfl Proofs.Tryd.ntmps79 (by simp) rfl ?_
  intro C hCf hR hCI
  repeat (first | refine Run.seq ?_)
  refine Run.regionP (D := [some 6, some 7, some 8, some 9, some 10, some 11, some 12, some 13, some 14, none]) [true, true, true, true, true] 5 rfl rfl rfl (by simp only [List.drop_succ_cons, List.drop_zero]; rfl) (fun Z hZ => ?_)
  refine QD.ev T (by decide) rfl rfl ?_
  refine QD.ev T (by decide) rfl rfl ?_
  refine QD.ev T (by decide) rfl rfl ?_
  refine QD.ev T (by decide) rfl rfl ?_
  first | refine QD.yv (by decide) rfl (Yv.load 0 T rfl rfl rfl rfl) ?_ | refine QD.yv (by decide) rfl (Yv.load 1 T rfl rfl rfl rfl) ?_ | refine QD.yv (by decide) rfl (Yv.load 2 T rfl rfl rfl rfl) ?_
  refine QD.nil (hZ _ ?_)
  clear hZ Z
  refine Ops.lit T rfl rfl rfl (by decide) rfl (by decide) (by decide) rfl rfl rfl rfl rfl (fun bq => ?_)
  refine Ops.appLit [34] (N := [_]) btB hB rfl (by decide) rfl rfl rfl rfl rfl (by simp only [List.length_append, List.length_cons, List.length_nil] at *; omega) fun v1 M1 hB1 => ?_
  obtain ⟨A1, c1, rfl⟩ := hB1.isSl
  refine Ops.pure T rfl (by decide) rfl ?_
  refine Ops.pure T rfl (by decide) rfl ?_
  first | refine Ops.store 0 rfl rfl rfl rfl rfl (T.sizeOk rfl) rfl (Nat.le_of_ble_eq_true rfl) rfl rfl ?_ | refine Ops.store 1 rfl rfl rfl rfl rfl (T.sizeOk rfl) rfl (Nat.le_of_ble_eq_true rfl) rfl rfl ?_ | refine Ops.store 2 rfl rfl rfl rfl rfl (T.sizeOk rfl) rfl (Nat.le_of_ble_eq_true rfl) rfl rfl ?_
  refine Ops.nil ?_
  repeat (first | refine Run.seq ?_ | refine Run.block ?_)
  refine Run.keep [0, 1] [_, _] rfl ?_
  refine Run.rounds (fun m env L J => ∃ (u rest : List Nat) (v2 : Value) (M2 : Own), m = rest.length ∧ rs = u ++ rest ∧ Buf 5 v2 (xs ++ [34] ++ u.flatMap quo1) M2 ∧
    env = [(0, .pointer (some ⟨w, 0, none⟩)), (1, str (encs rest))] ∧ L = (w, blk [.bool bad, v2, .bool begun] 108) :: M2 ∧ Le I J) rs.length ⟨[], rs, _, M1, rfl, rfl, by simpa using hB1, rfl, rfl, Le.refl _⟩ ?_
  rintro m env L J ⟨u, rest, v2, M2, rfl, rfl, hB2, rfl, rfl, hle⟩ ih
  have hul := flat_len u fun r hr => hg r (by simp [hr])
  simp only [List.length_append] at hs
  cases rest with
  | nil =>
    repeat (first | refine Run.seq ?_)
    refine Run.regionO (D := [some 15, some 16, some 17]) [true, true, true] rfl rfl rfl (fun Z hZ => ?_)
    refine QD.ev T (by decide) rfl rfl ?_
    refine QD.e (Ev.lenS T rfl rfl) (by decide) rfl ?_
    refine QD.e ((Ev.gtr rfl rfl).as (show _ = Value.bool false from rfl)) (by decide) rfl ?_
    refine QD.nil (hZ _ ?_)
    clear hZ Z
    repeat (first | refine Run.exit rfl ?_ | refine Run.cond_f rfl ?_)
    refine Run.regionP (D := [some 182, some 183, some 184, some 185, some 186, some 187, some 188, some 189, some 190, none]) [true, true, true, true, true] 5 rfl rfl rfl (by simp only [List.drop_succ_cons, List.drop_zero]; rfl) (fun Z hZ => ?_)
    refine QD.ev T (by decide) rfl rfl ?_
    refine QD.ev T (by decide) rfl rfl ?_
    refine QD.ev T (by decide) rfl rfl ?_
    refine QD.ev T (by decide) rfl rfl ?_
    first | refine QD.yv (by decide) rfl (Yv.load 0 T rfl rfl rfl rfl) ?_ | refine QD.yv (by decide) rfl (Yv.load 1 T rfl rfl rfl rfl) ?_ | refine QD.yv (by decide) rfl (Yv.load 2 T rfl rfl rfl rfl) ?_
    refine QD.nil (hZ _ ?_)
    clear hZ Z
    refine Ops.lit T rfl rfl rfl (by decide) rfl (by decide) (by decide) rfl rfl rfl rfl rfl (fun bq => ?_)
    refine Ops.appLit [34] (N := [_]) btB hB2 rfl (by decide) rfl rfl rfl rfl rfl (by simp only [List.length_append, List.length_cons, List.length_nil] at *; omega) fun v3 M3 hB3 => ?_
    obtain ⟨A3, c3, rfl⟩ := hB3.isSl
    refine Ops.pure T rfl (by decide) rfl ?_
    refine Ops.pure T rfl (by decide) rfl ?_
    first | refine Ops.store 0 rfl rfl rfl rfl rfl (T.sizeOk rfl) rfl (Nat.le_of_ble_eq_true rfl) rfl rfl ?_ | refine Ops.store 1 rfl rfl rfl rfl rfl (T.sizeOk rfl) rfl (Nat.le_of_ble_eq_true rfl) rfl rfl ?_ | refine Ops.store 2 rfl rfl rfl rfl rfl (T.sizeOk rfl) rfl (Nat.le_of_ble_eq_true rfl) rfl rfl ?_
    refine Ops.nil ?_
    skip
    refine Run.end0 (by rw [hCf]; exact Proofs.Tryd.func79) Proofs.Tryd.results79 (hR _ _ _ ?_)
    exact ⟨_, M3, rfl, by simpa [quo] using hB3⟩
  | cons c rest =>
    have g := hg c (by simp)
    have hrune := runeAt_enc g (encs rest)
    have hep := encR_pos c
    have hne : encR (c : Int) ++ encs rest ≠ [] := fun h => by have := congrArg List.length h; simp at this; rw [this.1] at hep; simp at hep
    have hel : 0 < (encR (c : Int) ++ encs rest).length := List.length_pos_iff.2 hne
    have hgl := g
    unfold goodR at hgl
    have hlen := encR_len g
    have hgood := encR_good g
    simp only [List.length_cons] at hs
    rw [encs_cons] at *
    repeat (first | refine Run.seq ?_)
    refine Run.regionO (D := [some 15, some 16, some 17]) [true, true, true] rfl rfl rfl (fun Z hZ => ?_)
    refine QD.ev T (by decide) rfl rfl ?_
    refine QD.e (Ev.lenS T rfl rfl) (by decide) rfl ?_
    refine QD.e ((Ev.gtr rfl rfl).as (show _ = Value.bool true from congrArg Value.bool (decide_eq_true (by omega)))) (by decide) rfl ?_
    refine QD.nil (hZ _ ?_)
    clear hZ Z
    repeat (first | refine Run.seq ?_ | refine Run.skip ?_ | refine Run.block ?_ | refine Run.cond_t rfl ?_)
    refine Run.regionP (D := [some 19, some 20, some 18, some 21, some 22, some 4, some 5]) [true] 1 rfl rfl rfl (by simp only [List.drop_succ_cons, List.drop_zero]; rfl) (fun Z hZ => ?_)
    refine QD.ev T (by decide) rfl rfl ?_
    refine QD.nil (hZ _ ?_)
    clear hZ Z
    refine Ops.call ((utf8_DecodeStr J (hU.mono hle) _ hne)) rfl (by decide) Proofs.Tryd.call81 rfl ?_
    rintro _ J1 l1 ⟨rfl, _⟩
    rw [hrune]
    dsimp only
    refine Ops.pure T rfl (by decide) rfl ?_
    refine Ops.pure T rfl (by decide) rfl ?_
    refine Ops.pure T rfl (by decide) rfl ?_
    refine Ops.pure T rfl (by decide) rfl ?_
    refine Ops.pure T rfl (by decide) rfl ?_
    refine Ops.nil ?_
    repeat (first | refine Run.seq ?_ | refine Run.block ?_)
    by_cases h34 : c = 34 ∨ c = 92
    · have hq : quo1 c = [92, UInt8.ofNat c] := by unfold quo1; rw [if_pos h34, hgood, if_pos (by omega)]
      have hw : IntKind.u8.wrap ((c : Nat) : Int) = (((UInt8.ofNat c).toNat : Nat) : Int) := by rw [wrapN8 (by omega), UInt8.toNat_ofNat_of_lt' (show c < 256 by omega)]
      rcases h34 with h34 | h34
      · skip
        refine Run.regionO (D := [some 35, some 36, some 37, some 38, some 39, some 40, some 34]) [true, true, true, true, true, true, true] rfl rfl rfl (fun Z hZ => ?_)
        refine QD.ev T (by decide) rfl rfl ?_
        refine QD.e ((Ev.eqlI rfl rfl).as (show _ = Value.bool true from congrArg Value.bool (decide_eq_true (by omega)))) (by decide) rfl ?_
        refine QD.ev T (by decide) rfl rfl ?_
        first | refine QD.ev T (by decide) rfl rfl ?_ | refine QD.off (by decide) rfl ?_
        first | refine QD.e (Ev.eqlI rfl rfl) (by decide) rfl ?_ | refine QD.off (by decide) rfl ?_
        refine QD.ev T (by decide) rfl rfl ?_
        refine QD.ev T (by decide) rfl rfl ?_
        refine QD.nil (hZ _ ?_)
        clear hZ Z
        repeat (first | refine Run.cond_t rfl ?_)
        refine Run.regionP (D := [some 41, some 42, some 43, some 44, some 45, some 46, some 47, some 48, some 49, some 50, some 51, none]) [true, true, true, true, true, true, true] 7 rfl rfl rfl (by simp only [List.drop_succ_cons, List.drop_zero]; rfl) (fun Z hZ => ?_)
        refine QD.ev T (by decide) rfl rfl ?_
        refine QD.ev T (by decide) rfl rfl ?_
        refine QD.ev T (by decide) rfl rfl ?_
        refine QD.ev T (by decide) rfl rfl ?_
        first | refine QD.yv (by decide) rfl (Yv.load 0 T rfl rfl rfl rfl) ?_ | refine QD.yv (by decide) rfl (Yv.load 1 T rfl rfl rfl rfl) ?_ | refine QD.yv (by decide) rfl (Yv.load 2 T rfl rfl rfl rfl) ?_
        refine QD.ev T (by decide) rfl rfl ?_
        refine QD.e (Ev.conv (a := ((c : Nat) : Int)) (r := (((UInt8.ofNat c).toNat : Nat) : Int)) T rfl rfl rfl hw) (by decide) rfl ?_
        refine QD.nil (hZ _ ?_)
        clear hZ Z
        refine Ops.lit T rfl rfl rfl (by decide) rfl (by decide) (by decide) rfl rfl rfl rfl rfl (fun bq => ?_)
        refine Ops.appLit [92, UInt8.ofNat c] (N := [_]) btB hB2 rfl (by decide) rfl rfl rfl rfl rfl (by simp only [List.length_append, List.length_cons, List.length_nil] at *; omega) fun v3 M3 hB3 => ?_
        obtain ⟨A3, c3, rfl⟩ := hB3.isSl
        refine Ops.pure T rfl (by decide) rfl ?_
        refine Ops.pure T rfl (by decide) rfl ?_
        first | refine Ops.store 0 rfl rfl rfl rfl rfl (T.sizeOk rfl) rfl (Nat.le_of_ble_eq_true rfl) rfl rfl ?_ | refine Ops.store 1 rfl rfl rfl rfl rfl (T.sizeOk rfl) rfl (Nat.le_of_ble_eq_true rfl) rfl rfl ?_ | refine Ops.store 2 rfl rfl rfl rfl rfl (T.sizeOk rfl) rfl (Nat.le_of_ble_eq_true rfl) rfl rfl ?_
        refine Ops.nil ?_
        repeat (first | refine Run.inBlock ?_)
        refine Run.regionO (D := [some 179, some 180, some 181, some 1]) [true, true, true, true] rfl rfl rfl (fun Z hZ => ?_)
        refine QD.ev T (by decide) rfl rfl ?_
        refine QD.ev T (by decide) rfl rfl ?_
        refine QD.e ((Ev.cutSLo (j := ((encR (c : Int)).length : Int)) T rfl rfl rfl (by omega) (by rw [List.length_append]; omega)).as (show _ = str (encs rest) from congrArg str (by rw [Int.toNat_natCast, List.drop_left]))) (by decide) rfl ?_
        refine QD.ev T (by decide) rfl rfl ?_
        refine QD.nil (hZ _ ?_)
        clear hZ Z
        repeat (first | refine Run.inBlock ?_)
        refine Run.keep [0, 1] [_, _] rfl ?_
        exact ih rest.length _ _ _ (by simp only [List.length_cons]; omega) ⟨u ++ [c], rest, _, M3, rfl, by simp, (by rw [List.flatMap_append, List.flatMap_singleton, hq, ← List.append_assoc]; exact hB3), rfl, rfl, hle.trans l1⟩
      · skip
        refine Run.regionO (D := [some 35, some 36, some 37, some 38, some 39, some 40, some 34]) [true, true, true, true, true, true, true] rfl rfl rfl (fun Z hZ => ?_)
        refine QD.ev T (by decide) rfl rfl ?_
        refine QD.e ((Ev.eqlI rfl rfl).as (show _ = Value.bool false from congrArg Value.bool (decide_eq_false (by omega)))) (by decide) rfl ?_
        refine QD.ev T (by decide) rfl rfl ?_
        first | refine QD.ev T (by decide) rfl rfl ?_ | refine QD.off (by decide) rfl ?_
        refine QD.e ((Ev.eqlI rfl rfl).as (show _ = Value.bool true from congrArg Value.bool (decide_eq_true (by omega)))) (by decide) rfl ?_
        refine QD.ev T (by decide) rfl rfl ?_
        refine QD.ev T (by decide) rfl rfl ?_
        refine QD.nil (hZ _ ?_)
        clear hZ Z
        repeat (first | refine Run.cond_t rfl ?_)
        refine Run.regionP (D := [some 41, some 42, some 43, some 44, some 45, some 46, some 47, some 48, some 49, some 50, some 51, none]) [true, true, true, true, true, true, true] 7 rfl rfl rfl (by simp only [List.drop_succ_cons, List.drop_zero]; rfl) (fun Z hZ => ?_)
        refine QD.ev T (by decide) rfl rfl ?_
        refine QD.ev T (by decide) rfl rfl ?_
        refine QD.ev T (by decide) rfl rfl ?_
        refine QD.ev T (by decide) rfl rfl ?_
        first | refine QD.yv (by decide) rfl (Yv.load 0 T rfl rfl rfl rfl) ?_ | refine QD.yv (by decide) rfl (Yv.load 1 T rfl rfl rfl rfl) ?_ | refine QD.yv (by decide) rfl (Yv.load 2 T rfl rfl rfl rfl) ?_
        refine QD.ev T (by decide) rfl rfl ?_
        refine QD.e (Ev.conv (a := ((c : Nat) : Int)) (r := (((UInt8.ofNat c).toNat : Nat) : Int)) T rfl rfl rfl hw) (by decide) rfl ?_
        refine QD.nil (hZ _ ?_)
        clear hZ Z
        refine Ops.lit T rfl rfl rfl (by decide) rfl (by decide) (by decide) rfl rfl rfl rfl rfl (fun bq => ?_)
        refine Ops.appLit [92, UInt8.ofNat c] (N := [_]) btB hB2 rfl (by decide) rfl rfl rfl rfl rfl (by simp only [List.length_append, List.length_cons, List.length_nil] at *; omega) fun v3 M3 hB3 => ?_
        obtain ⟨A3, c3, rfl⟩ := hB3.isSl
        refine Ops.pure T rfl (by decide) rfl ?_
        refine Ops.pure T rfl (by decide) rfl ?_
        first | refine Ops.store 0 rfl rfl rfl rfl rfl (T.sizeOk rfl) rfl (Nat.le_of_ble_eq_true rfl) rfl rfl ?_ | refine Ops.store 1 rfl rfl rfl rfl rfl (T.sizeOk rfl) rfl (Nat.le_of_ble_eq_true rfl) rfl rfl ?_ | refine Ops.store 2 rfl rfl rfl rfl rfl (T.sizeOk rfl) rfl (Nat.le_of_ble_eq_true rfl) rfl rfl ?_
        refine Ops.nil ?_
        repeat (first | refine Run.inBlock ?_)
        refine Run.regionO (D := [some 179, some 180, some 181, some 1]) [true, true, true, true] rfl rfl rfl (fun Z hZ => ?_)
        refine QD.ev T (by decide) rfl rfl ?_
        refine QD.ev T (by decide) rfl rfl ?_
        refine QD.e ((Ev.cutSLo (j := ((encR (c : Int)).length : Int)) T rfl rfl rfl (by omega) (by rw [List.length_append]; omega)).as (show _ = str (encs rest) from congrArg str (by rw [Int.toNat_natCast, List.drop_left]))) (by decide) rfl ?_
        refine QD.ev T (by decide) rfl rfl ?_
        refine QD.nil (hZ _ ?_)
        clear hZ Z
        repeat (first | refine Run.inBlock ?_)
        refine Run.keep [0, 1] [_, _] rfl ?_
        exact ih rest.length _ _ _ (by simp only [List.length_cons]; omega) ⟨u ++ [c], rest, _, M3, rfl, by simp, (by rw [List.flatMap_append, List.flatMap_singleton, hq, ← List.append_assoc]; exact hB3), rfl, rfl, hle.trans l1⟩
    have h34a : ¬ c = 34 := fun h => h34 (.inl h)
    have h34b : ¬ c = 92 := fun h => h34 (.inr h)
    refine Run.regionO (D := [some 35, some 36, some 37, some 38, some 39, some 40, some 34]) [true, true, true, true, true, true, true] rfl rfl rfl (fun Z hZ => ?_)
    refine QD.ev T (by decide) rfl rfl ?_
    refine QD.e ((Ev.eqlI rfl rfl).as (show _ = Value.bool false from congrArg Value.bool (decide_eq_false (by omega)))) (by decide) rfl ?_
    refine QD.ev T (by decide) rfl rfl ?_
    first | refine QD.ev T (by decide) rfl rfl ?_ | refine QD.off (by decide) rfl ?_
    refine QD.e ((Ev.eqlI rfl rfl).as (show _ = Value.bool false from congrArg Value.bool (decide_eq_false (by omega)))) (by decide) rfl ?_
    refine QD.ev T (by decide) rfl rfl ?_
    refine QD.ev T (by decide) rfl rfl ?_
    refine QD.nil (hZ _ ?_)
    clear hZ Z
    repeat (first | refine Run.seq ?_ | refine Run.cond_f rfl ?_)
    by_cases h8 : c = 8
    · have hq : quo1 c = [92, 98] := by unfold quo1; rw [if_neg h34, if_pos h8]
      refine Run.regionO (D := [some 53, some 54, some 52]) [true, true, true] rfl rfl rfl (fun Z hZ => ?_)
      refine QD.ev T (by decide) rfl rfl ?_
      refine QD.e ((Ev.eqlI rfl rfl).as (show _ = Value.bool true from congrArg Value.bool (decide_eq_true (by omega)))) (by decide) rfl ?_
      refine QD.ev T (by decide) rfl rfl ?_
      refine QD.nil (hZ _ ?_)
      clear hZ Z
      repeat (first | refine Run.cond_t rfl ?_)
      refine Run.regionP (D := [some 55, some 56, some 57, some 58, some 59, some 60, some 61, some 62, none]) [true, true, true, true, true] 5 rfl rfl rfl (by simp only [List.drop_succ_cons, List.drop_zero]; rfl) (fun Z hZ => ?_)
      refine QD.ev T (by decide) rfl rfl ?_
      refine QD.ev T (by decide) rfl rfl ?_
      refine QD.ev T (by decide) rfl rfl ?_
      refine QD.ev T (by decide) rfl rfl ?_
      first | refine QD.yv (by decide) rfl (Yv.load 0 T rfl rfl rfl rfl) ?_ | refine QD.yv (by decide) rfl (Yv.load 1 T rfl rfl rfl rfl) ?_ | refine QD.yv (by decide) rfl (Yv.load 2 T rfl rfl rfl rfl) ?_
      refine QD.nil (hZ _ ?_)
      clear hZ Z
      refine Ops.appBuf (M := M2) (N := [(w, _)]) (ys := [92, 98]) btB hB2 rfl (by decide) rfl rfl (perm_of_count fun x => by simp only [List.count_append, List.count_cons, List.count_nil, Nat.add_zero, Nat.zero_add] <;> ac_rfl) (fun W hi => src_str rfl W) (by simp only [List.length_append, List.length_cons, List.length_nil] at *; omega) fun v3 M3 hB3 => ?_
      refine Ops.perm (L' := (w, _) :: M3) (perm_of_count fun x => by simp only [List.count_append, List.count_cons, List.count_nil, Nat.add_zero, Nat.zero_add] <;> ac_rfl) ?_
      obtain ⟨A3, c3, rfl⟩ := hB3.isSl
      refine Ops.pure T rfl (by decide) rfl ?_
      refine Ops.pure T rfl (by decide) rfl ?_
      first | refine Ops.store 0 rfl rfl rfl rfl rfl (T.sizeOk rfl) rfl (Nat.le_of_ble_eq_true rfl) rfl rfl ?_ | refine Ops.store 1 rfl rfl rfl rfl rfl (T.sizeOk rfl) rfl (Nat.le_of_ble_eq_true rfl) rfl rfl ?_ | refine Ops.store 2 rfl rfl rfl rfl rfl (T.sizeOk rfl) rfl (Nat.le_of_ble_eq_true rfl) rfl rfl ?_
      refine Ops.nil ?_
      repeat (first | refine Run.inBlock ?_)
      refine Run.regionO (D := [some 179, some 180, some 181, some 1]) [true, true, true, true] rfl rfl rfl (fun Z hZ => ?_)
      refine QD.ev T (by decide) rfl rfl ?_
      refine QD.ev T (by decide) rfl rfl ?_
      refine QD.e ((Ev.cutSLo (j := ((encR (c : Int)).length : Int)) T rfl rfl rfl (by omega) (by rw [List.length_append]; omega)).as (show _ = str (encs rest) from congrArg str (by rw [Int.toNat_natCast, List.drop_left]))) (by decide) rfl ?_
      refine QD.ev T (by decide) rfl rfl ?_
      refine QD.nil (hZ _ ?_)
      clear hZ Z
      repeat (first | refine Run.inBlock ?_)
      refine Run.keep [0, 1] [_, _] rfl ?_
      exact ih rest.length _ _ _ (by simp only [List.length_cons]; omega) ⟨u ++ [c], rest, _, M3, rfl, by simp, (by rw [List.flatMap_append, List.flatMap_singleton, hq, ← List.append_assoc]; exact hB3), rfl, rfl, hle.trans l1⟩
    refine Run.regionO (D := [some 53, some 54, some 52]) [true, true, true] rfl rfl rfl (fun Z hZ => ?_)
    refine QD.ev T (by decide) rfl rfl ?_
    refine QD.e ((Ev.eqlI rfl rfl).as (show _ = Value.bool false from congrArg Value.bool (decide_eq_false (by omega)))) (by decide) rfl ?_
    refine QD.ev T (by decide) rfl rfl ?_
    refine QD.nil (hZ _ ?_)
    clear hZ Z
    repeat (first | refine Run.seq ?_ | refine Run.cond_f rfl ?_)
    by_cases h12 : c = 12
    · have hq : quo1 c = [92, 102] := by unfold quo1; rw [if_neg h34, if_neg h8, if_pos h12]
      refine Run.regionO (D := [some 64, some 65, some 63]) [true, true, true] rfl rfl rfl (fun Z hZ => ?_)
      refine QD.ev T (by decide) rfl rfl ?_
      refine QD.e ((Ev.eqlI rfl rfl).as (show _ = Value.bool true from congrArg Value.bool (decide_eq_true (by omega)))) (by decide) rfl ?_
      refine QD.ev T (by decide) rfl rfl ?_
      refine QD.nil (hZ _ ?_)
      clear hZ Z
      repeat (first | refine Run.cond_t rfl ?_)
      refine Run.regionP (D := [some 66, some 67, some 68, some 69, some 70, some 71, some 72, some 73, none]) [true, true, true, true, true] 5 rfl rfl rfl (by simp only [List.drop_succ_cons, List.drop_zero]; rfl) (fun Z hZ => ?_)
      refine QD.ev T (by decide) rfl rfl ?_
      refine QD.ev T (by decide) rfl rfl ?_
      refine QD.ev T (by decide) rfl rfl ?_
      refine QD.ev T (by decide) rfl rfl ?_
      first | refine QD.yv (by decide) rfl (Yv.load 0 T rfl rfl rfl rfl) ?_ | refine QD.yv (by decide) rfl (Yv.load 1 T rfl rfl rfl rfl) ?_ | refine QD.yv (by decide) rfl (Yv.load 2 T rfl rfl rfl rfl) ?_
      refine QD.nil (hZ _ ?_)
      clear hZ Z
      refine Ops.appBuf (M := M2) (N := [(w, _)]) (ys := [92, 102]) btB hB2 rfl (by decide) rfl rfl (perm_of_count fun x => by simp only [List.count_append, List.count_cons, List.count_nil, Nat.add_zero, Nat.zero_add] <;> ac_rfl) (fun W hi => src_str rfl W) (by simp only [List.length_append, List.length_cons, List.length_nil] at *; omega) fun v3 M3 hB3 => ?_
      refine Ops.perm (L' := (w, _) :: M3) (perm_of_count fun x => by simp only [List.count_append, List.count_cons, List.count_nil, Nat.add_zero, Nat.zero_add] <;> ac_rfl) ?_
      obtain ⟨A3, c3, rfl⟩ := hB3.isSl
      refine Ops.pure T rfl (by decide) rfl ?_
      refine Ops.pure T rfl (by decide) rfl ?_
      first | refine Ops.store 0 rfl rfl rfl rfl rfl (T.sizeOk rfl) rfl (Nat.le_of_ble_eq_true rfl) rfl rfl ?_ | refine Ops.store 1 rfl rfl rfl rfl rfl (T.sizeOk rfl) rfl (Nat.le_of_ble_eq_true rfl) rfl rfl ?_ | refine Ops.store 2 rfl rfl rfl rfl rfl (T.sizeOk rfl) rfl (Nat.le_of_ble_eq_true rfl) rfl rfl ?_
      refine Ops.nil ?_
      repeat (first | refine Run.inBlock ?_)
      refine Run.regionO (D := [some 179, some 180, some 181, some 1]) [true, true, true, true] rfl rfl rfl (fun Z hZ => ?_)
      refine QD.ev T (by decide) rfl rfl ?_
      refine QD.ev T (by decide) rfl rfl ?_
      refine QD.e ((Ev.cutSLo (j := ((encR (c : Int)).length : Int)) T rfl rfl rfl (by omega) (by rw [List.length_append]; omega)).as (show _ = str (encs rest) from congrArg str (by rw [Int.toNat_natCast, List.drop_left]))) (by decide) rfl ?_
      refine QD.ev T (by decide) rfl rfl ?_
      refine QD.nil (hZ _ ?_)
      clear hZ Z
      repeat (first | refine Run.inBlock ?_)
      refine Run.keep [0, 1] [_, _] rfl ?_
      exact ih rest.length _ _ _ (by simp only [List.length_cons]; omega) ⟨u ++ [c], rest, _, M3, rfl, by simp, (by rw [List.flatMap_append, List.flatMap_singleton, hq, ← List.append_assoc]; exact hB3), rfl, rfl, hle.trans l1⟩
    refine Run.regionO (D := [some 64, some 65, some 63]) [true, true, true] rfl rfl rfl (fun Z hZ => ?_)
    refine QD.ev T (by decide) rfl rfl ?_
    refine QD.e ((Ev.eqlI rfl rfl).as (show _ = Value.bool false from congrArg Value.bool (decide_eq_false (by omega)))) (by decide) rfl ?_
    refine QD.ev T (by decide) rfl rfl ?_
    refine QD.nil (hZ _ ?_)
    clear hZ Z
    repeat (first | refine Run.seq ?_ | refine Run.cond_f rfl ?_)
    by_cases h10 : c = 10
    · have hq : quo1 c = [92, 110] := by unfold quo1; rw [if_neg h34, if_neg h8, if_neg h12, if_pos h10]
      refine Run.regionO (D := [some 75, some 76, some 74]) [true, true, true] rfl rfl rfl (fun Z hZ => ?_)
      refine QD.ev T (by decide) rfl rfl ?_
      refine QD.e ((Ev.eqlI rfl rfl).as (show _ = Value.bool true from congrArg Value.bool (decide_eq_true (by omega)))) (by decide) rfl ?_
      refine QD.ev T (by decide) rfl rfl ?_
      refine QD.nil (hZ _ ?_)
      clear hZ Z
      repeat (first | refine Run.cond_t rfl ?_)
      refine Run.regionP (D := [some 77, some 78, some 79, some 80, some 81, some 82, some 83, some 84, none]) [true, true, true, true, true] 5 rfl rfl rfl (by simp only [List.drop_succ_cons, List.drop_zero]; rfl) (fun Z hZ => ?_)
      refine QD.ev T (by decide) rfl rfl ?_
      refine QD.ev T (by decide) rfl rfl ?_
      refine QD.ev T (by decide) rfl rfl ?_
      refine QD.ev T (by decide) rfl rfl ?_
      first | refine QD.yv (by decide) rfl (Yv.load 0 T rfl rfl rfl rfl) ?_ | refine QD.yv (by decide) rfl (Yv.load 1 T rfl rfl rfl rfl) ?_ | refine QD.yv (by decide) rfl (Yv.load 2 T rfl rfl rfl rfl) ?_
      refine QD.nil (hZ _ ?_)
      clear hZ Z
      refine Ops.appBuf (M := M2) (N := [(w, _)]) (ys := [92, 110]) btB hB2 rfl (by decide) rfl rfl (perm_of_count fun x => by simp only [List.count_append, List.count_cons, List.count_nil, Nat.add_zero, Nat.zero_add] <;> ac_rfl) (fun W hi => src_str rfl W) (by simp only [List.length_append, List.length_cons, List.length_nil] at *; omega) fun v3 M3 hB3 => ?_
      refine Ops.perm (L' := (w, _) :: M3) (perm_of_count fun x => by simp only [List.count_append, List.count_cons, List.count_nil, Nat.add_zero, Nat.zero_add] <;> ac_rfl) ?_
      obtain ⟨A3, c3, rfl⟩ := hB3.isSl
      refine Ops.pure T rfl (by decide) rfl ?_
      refine Ops.pure T rfl (by decide) rfl ?_
      first | refine Ops.store 0 rfl rfl rfl rfl rfl (T.sizeOk rfl) rfl (Nat.le_of_ble_eq_true rfl) rfl rfl ?_ | refine Ops.store 1 rfl rfl rfl rfl rfl (T.sizeOk rfl) rfl (Nat.le_of_ble_eq_true rfl) rfl rfl ?_ | refine Ops.store 2 rfl rfl rfl rfl rfl (T.sizeOk rfl) rfl (Nat.le_of_ble_eq_true rfl) rfl rfl ?_
      refine Ops.nil ?_
      repeat (first | refine Run.inBlock ?_)
      refine Run.regionO (D := [some 179, some 180, some 181, some 1]) [true, true, true, true] rfl rfl rfl (fun Z hZ => ?_)
      refine QD.ev T (by decide) rfl rfl ?_
      refine QD.ev T (by decide) rfl rfl ?_
      refine QD.e ((Ev.cutSLo (j := ((encR (c : Int)).length : Int)) T rfl rfl rfl (by omega) (by rw [List.length_append]; omega)).as (show _ = str (encs rest) from congrArg str (by rw [Int.toNat_natCast, List.drop_left]))) (by decide) rfl ?_
      refine QD.ev T (by decide) rfl rfl ?_
      refine QD.nil (hZ _ ?_)
      clear hZ Z
      repeat (first | refine Run.inBlock ?_)
      refine Run.keep [0, 1] [_, _] rfl ?_
      exact ih rest.length _ _ _ (by simp only [List.length_cons]; omega) ⟨u ++ [c], rest, _, M3, rfl, by simp, (by rw [List.flatMap_append, List.flatMap_singleton, hq, ← List.append_assoc]; exact hB3), rfl, rfl, hle.trans l1⟩
    refine Run.regionO (D := [some 75, some 76, some 74]) [true, true, true] rfl rfl rfl (fun Z hZ => ?_)
    refine QD.ev T (by decide) rfl rfl ?_
    refine QD.e ((Ev.eqlI rfl rfl).as (show _ = Value.bool false from congrArg Value.bool (decide_eq_false (by omega)))) (by decide) rfl ?_
    refine QD.ev T (by decide) rfl rfl ?_
    refine QD.nil (hZ _ ?_)
    clear hZ Z
    repeat (first | refine Run.seq ?_ | refine Run.cond_f rfl ?_)
    by_cases h13 : c = 13
    · have hq : quo1 c = [92, 114] := by unfold quo1; rw [if_neg h34, if_neg h8, if_neg h12, if_neg h10, if_pos h13]
      refine Run.regionO (D := [some 86, some 87, some 85]) [true, true, true] rfl rfl rfl (fun Z hZ => ?_)
      refine QD.ev T (by decide) rfl rfl ?_
      refine QD.e ((Ev.eqlI rfl rfl).as (show _ = Value.bool true from congrArg Value.bool (decide_eq_true (by omega)))) (by decide) rfl ?_
      refine QD.ev T (by decide) rfl rfl ?_
      refine QD.nil (hZ _ ?_)
      clear hZ Z
      repeat (first | refine Run.cond_t rfl ?_)
      refine Run.regionP (D := [some 88, some 89, some 90, some 91, some 92, some 93, some 94, some 95, none]) [true, true, true, true, true] 5 rfl rfl rfl (by simp only [List.drop_succ_cons, List.drop_zero]; rfl) (fun Z hZ => ?_)
      refine QD.ev T (by decide) rfl rfl ?_
      refine QD.ev T (by decide) rfl rfl ?_
      refine QD.ev T (by decide) rfl rfl ?_
      refine QD.ev T (by decide) rfl rfl ?_
      first | refine QD.yv (by decide) rfl (Yv.load 0 T rfl rfl rfl rfl) ?_ | refine QD.yv (by decide) rfl (Yv.load 1 T rfl rfl rfl rfl) ?_ | refine QD.yv (by decide) rfl (Yv.load 2 T rfl rfl rfl rfl) ?_
      refine QD.nil (hZ _ ?_)
      clear hZ Z
      refine Ops.appBuf (M := M2) (N := [(w, _)]) (ys := [92, 114]) btB hB2 rfl (by decide) rfl rfl (perm_of_count fun x => by simp only [List.count_append, List.count_cons, List.count_nil, Nat.add_zero, Nat.zero_add] <;> ac_rfl) (fun W hi => src_str rfl W) (by simp only [List.length_append, List.length_cons, List.length_nil] at *; omega) fun v3 M3 hB3 => ?_
      refine Ops.perm (L' := (w, _) :: M3) (perm_of_count fun x => by simp only [List.count_append, List.count_cons, List.count_nil, Nat.add_zero, Nat.zero_add] <;> ac_rfl) ?_
      obtain ⟨A3, c3, rfl⟩ := hB3.isSl
      refine Ops.pure T rfl (by decide) rfl ?_
      refine Ops.pure T rfl (by decide) rfl ?_
      first | refine Ops.store 0 rfl rfl rfl rfl rfl (T.sizeOk rfl) rfl (Nat.le_of_ble_eq_true rfl) rfl rfl ?_ | refine Ops.store 1 rfl rfl rfl rfl rfl (T.sizeOk rfl) rfl (Nat.le_of_ble_eq_true rfl) rfl rfl ?_ | refine Ops.store 2 rfl rfl rfl rfl rfl (T.sizeOk rfl) rfl (Nat.le_of_ble_eq_true rfl) rfl rfl ?_
      refine Ops.nil ?_
      repeat (first | refine Run.inBlock ?_)
      refine Run.regionO (D := [some 179, some 180, some 181, some 1]) [true, true, true, true] rfl rfl rfl (fun Z hZ => ?_)
      refine QD.ev T (by decide) rfl rfl ?_
      refine QD.ev T (by decide) rfl rfl ?_
      refine QD.e ((Ev.cutSLo (j := ((encR (c : Int)).length : Int)) T rfl rfl rfl (by omega) (by rw [List.length_append]; omega)).as (show _ = str (encs rest) from congrArg str (by rw [Int.toNat_natCast, List.drop_left]))) (by decide) rfl ?_
      refine QD.ev T (by decide) rfl rfl ?_
      refine QD.nil (hZ _ ?_)
      clear hZ Z
      repeat (first | refine Run.inBlock ?_)
      refine Run.keep [0, 1] [_, _] rfl ?_
      exact ih rest.length _ _ _ (by simp only [List.length_cons]; omega) ⟨u ++ [c], rest, _, M3, rfl, by simp, (by rw [List.flatMap_append, List.flatMap_singleton, hq, ← List.append_assoc]; exact hB3), rfl, rfl, hle.trans l1⟩
    refine Run.regionO (D := [some 86, some 87, some 85]) [true, true, true] rfl rfl rfl (fun Z hZ => ?_)
    refine QD.ev T (by decide) rfl rfl ?_
    refine QD.e ((Ev.eqlI rfl rfl).as (show _ = Value.bool false from congrArg Value.bool (decide_eq_false (by omega)))) (by decide) rfl ?_
    refine QD.ev T (by decide) rfl rfl ?_
    refine QD.nil (hZ _ ?_)
    clear hZ Z
    repeat (first | refine Run.seq ?_ | refine Run.cond_f rfl ?_)
    by_cases h9 : c = 9
    · have hq : quo1 c = [92, 116] := by unfold quo1; rw [if_neg h34, if_neg h8, if_neg h12, if_neg h10, if_neg h13, if_pos h9]
      refine Run.regionO (D := [some 97, some 98, some 96]) [true, true, true] rfl rfl rfl (fun Z hZ => ?_)
      refine QD.ev T (by decide) rfl rfl ?_
      refine QD.e ((Ev.eqlI rfl rfl).as (show _ = Value.bool true from congrArg Value.bool (decide_eq_true (by omega)))) (by decide) rfl ?_
      refine QD.ev T (by decide) rfl rfl ?_
      refine QD.nil (hZ _ ?_)
      clear hZ Z
      repeat (first | refine Run.cond_t rfl ?_)
      refine Run.regionP (D := [some 99, some 100, some 101, some 102, some 103, some 104, some 105, some 106, none]) [true, true, true, true, true] 5 rfl rfl rfl (by simp only [List.drop_succ_cons, List.drop_zero]; rfl) (fun Z hZ => ?_)
      refine QD.ev T (by decide) rfl rfl ?_
      refine QD.ev T (by decide) rfl rfl ?_
      refine QD.ev T (by decide) rfl rfl ?_
      refine QD.ev T (by decide) rfl rfl ?_
      first | refine QD.yv (by decide) rfl (Yv.load 0 T rfl rfl rfl rfl) ?_ | refine QD.yv (by decide) rfl (Yv.load 1 T rfl rfl rfl rfl) ?_ | refine QD.yv (by decide) rfl (Yv.load 2 T rfl rfl rfl rfl) ?_
      refine QD.nil (hZ _ ?_)
      clear hZ Z
      refine Ops.appBuf (M := M2) (N := [(w, _)]) (ys := [92, 116]) btB hB2 rfl (by decide) rfl rfl (perm_of_count fun x => by simp only [List.count_append, List.count_cons, List.count_nil, Nat.add_zero, Nat.zero_add] <;> ac_rfl) (fun W hi => src_str rfl W) (by simp only [List.length_append, List.length_cons, List.length_nil] at *; omega) fun v3 M3 hB3 => ?_
      refine Ops.perm (L' := (w, _) :: M3) (perm_of_count fun x => by simp only [List.count_append, List.count_cons, List.count_nil, Nat.add_zero, Nat.zero_add] <;> ac_rfl) ?_
      obtain ⟨A3, c3, rfl⟩ := hB3.isSl
      refine Ops.pure T rfl (by decide) rfl ?_
      refine Ops.pure T rfl (by decide) rfl ?_
      first | refine Ops.store 0 rfl rfl rfl rfl rfl (T.sizeOk rfl) rfl (Nat.le_of_ble_eq_true rfl) rfl rfl ?_ | refine Ops.store 1 rfl rfl rfl rfl rfl (T.sizeOk rfl) rfl (Nat.le_of_ble_eq_true rfl) rfl rfl ?_ | refine Ops.store 2 rfl rfl rfl rfl rfl (T.sizeOk rfl) rfl (Nat.le_of_ble_eq_true rfl) rfl rfl ?_
      refine Ops.nil ?_
      repeat (first | refine Run.inBlock ?_)
      refine Run.regionO (D := [some 179, some 180, some 181, some 1]) [true, true, true, true] rfl rfl rfl (fun Z hZ => ?_)
      refine QD.ev T (by decide) rfl rfl ?_
      refine QD.ev T (by decide) rfl rfl ?_
      refine QD.e ((Ev.cutSLo (j := ((encR (c : Int)).length : Int)) T rfl rfl rfl (by omega) (by rw [List.length_append]; omega)).as (show _ = str (encs rest) from congrArg str (by rw [Int.toNat_natCast, List.drop_left]))) (by decide) rfl ?_
      refine QD.ev T (by decide) rfl rfl ?_
      refine QD.nil (hZ _ ?_)
      clear hZ Z
      repeat (first | refine Run.inBlock ?_)
      refine Run.keep [0, 1] [_, _] rfl ?_
      exact ih rest.length _ _ _ (by simp only [List.length_cons]; omega) ⟨u ++ [c], rest, _, M3, rfl, by simp, (by rw [List.flatMap_append, List.flatMap_singleton, hq, ← List.append_assoc]; exact hB3), rfl, rfl, hle.trans l1⟩
    refine Run.regionO (D := [some 97, some 98, some 96]) [true, true, true] rfl rfl rfl (fun Z hZ => ?_)
    refine QD.ev T (by decide) rfl rfl ?_
    refine QD.e ((Ev.eqlI rfl rfl).as (show _ = Value.bool false from congrArg Value.bool (decide_eq_false (by omega)))) (by decide) rfl ?_
    refine QD.ev T (by decide) rfl rfl ?_
    refine QD.nil (hZ _ ?_)
    clear hZ Z
    repeat (first | refine Run.seq ?_ | refine Run.cond_f rfl ?_)
    by_cases hx : c < 32 ∨ c = 60 ∨ c = 62 ∨ c = 38 ∨ c = 8232 ∨ c = 8233
    · have hq : quo1 c = [92, 117] ++ hexes c := by unfold quo1; rw [if_neg h34, if_neg h8, if_neg h12, if_neg h10, if_neg h13, if_neg h9, if_pos hx]
      by_cases hb : c < 128
      · have hq : quo1 c = [92, 117, 48, 48, hexD (c / 16), hexD c] := by
          rw [hq]; unfold hexes
          rw [show c / 4096 = 0 by omega, show c / 256 = 0 by omega]; rfl
        have hq : quo1 c = [92, 117, 48, 48, hexD (c / 2 ^ 4), hexD (c % 16)] := by rw [hq, hexD_mod]
        by_cases hx1 : c < 32
        · skip
          refine Run.regionO (D := [some 108, some 109, some 110, some 111, some 112, some 113, some 114, some 115, some 116, some 117, some 118, some 119, some 120, some 121, some 107]) [true, true, true, true, true, true, true, true, true, true, true, true, true, true, true] rfl rfl rfl (fun Z hZ => ?_)
          refine QD.ev T (by decide) rfl rfl ?_
          refine QD.e ((Ev.lss rfl rfl).as (show _ = Value.bool true from congrArg Value.bool (decide_eq_true (by omega)))) (by decide) rfl ?_
          refine QD.ev T (by decide) rfl rfl ?_
          first | refine QD.ev T (by decide) rfl rfl ?_ | refine QD.off (by decide) rfl ?_
          first | refine QD.e (Ev.eqlI rfl rfl) (by decide) rfl ?_ | refine QD.off (by decide) rfl ?_
          refine QD.ev T (by decide) rfl rfl ?_
          refine QD.ev T (by decide) rfl rfl ?_
          first | refine QD.ev T (by decide) rfl rfl ?_ | refine QD.off (by decide) rfl ?_
          first | refine QD.e (Ev.eqlI rfl rfl) (by decide) rfl ?_ | refine QD.off (by decide) rfl ?_
          refine QD.ev T (by decide) rfl rfl ?_
          refine QD.ev T (by decide) rfl rfl ?_
          first | refine QD.ev T (by decide) rfl rfl ?_ | refine QD.off (by decide) rfl ?_
          first | refine QD.e (Ev.eqlI rfl rfl) (by decide) rfl ?_ | refine QD.off (by decide) rfl ?_
          refine QD.ev T (by decide) rfl rfl ?_
          refine QD.ev T (by decide) rfl rfl ?_
          refine QD.nil (hZ _ ?_)
          clear hZ Z
          repeat (first | refine Run.cond_t rfl ?_)
          refine Run.regionAny (fun _ => True) (bl 16 0) (by kernel_rfl) (by kernel_rfl) ?_
          refine RAny.tk 0 (bl 16 1) rfl (by kernel_rfl) (by decide) (fun _ _ => trivial) (Yld.eval T rfl rfl) ?_
          refine RAny.tk 1 (bl 16 3) rfl (by kernel_rfl) (by decide) (fun _ _ => trivial) (Yld.eval T rfl rfl) ?_
          refine RAny.tk 2 (bl 16 7) rfl (by kernel_rfl) (by decide) (fun _ _ => trivial) (Yld.eval T rfl rfl) ?_
          refine RAny.tk 3 (bl 16 15) rfl (by kernel_rfl) (by decide) (fun _ _ => trivial) (Yld.eval T rfl rfl) ?_
          refine RAny.tk 5 (bl 16 47) rfl (by kernel_rfl) (by decide) (fun _ _ => trivial) (Yld.eval T rfl rfl) ?_
          refine RAny.tk 6 (bl 16 111) rfl (by kernel_rfl) (by decide) (fun _ _ => trivial) (Yld.ev (Ev.shrK rfl rfl (by decide) (by decide) (shrL c 4)) rfl) ?_
          refine RAny.tk 7 (bl 16 239) rfl (by kernel_rfl) (by decide) (fun _ _ => trivial) (Yld.ev ((Ev.indexT (s := hexT) T rfl rfl rfl (by omega) (by show _ < (16 : Int); omega)).as (hexV16 (n := c / 2 ^ 4) (by omega))) rfl) ?_
          refine RAny.tk 8 (bl 16 495) rfl (by kernel_rfl) (by decide) (fun _ _ => trivial) (Yld.eval T rfl rfl) ?_
          refine RAny.tk 9 (bl 16 1007) rfl (by kernel_rfl) (by decide) (fun _ _ => trivial) (Yld.ev (Ev.andK (b := 15) (c := c % 16) rfl rfl (by show _ < 4294967296; omega) (by decide) (and15 _) (wrapI32 (by omega) (by omega))) rfl) ?_
          refine RAny.tk 10 (bl 16 2031) rfl (by kernel_rfl) (by decide) (fun _ _ => trivial) (Yld.ev ((Ev.indexT (s := hexT) T rfl rfl rfl (by omega) (by show _ < (16 : Int); omega)).as (hexV16 (n := c % 16) (by omega))) rfl) ?_
          refine RAny.two 4 11 (bl 16 2047) (bl 16 4079) rfl rfl (by kernel_rfl) rfl rfl (by decide) (by decide) (Eff.yv (Yv.load 0 T rfl rfl rfl rfl) ⟨fun _ _ => trivial, ?_⟩) (Eff.lit T rfl rfl rfl (by decide) (by decide) rfl rfl rfl rfl rfl fun bq => ⟨fun _ _ => trivial, ?_⟩)
          skip
          · skip
            skip
            refine RAny.on 11 (bl 16 4095) rfl (by kernel_rfl) rfl (by decide) (Eff.lit T rfl rfl rfl (by decide) (by decide) rfl rfl rfl rfl rfl fun bq => ⟨fun _ _ => trivial, ?_⟩)
            refine RAny.on 12 (bl 16 8191) rfl (by kernel_rfl) rfl (by decide) (Eff.appLit [92, 117, 48, 48, hexD (c / 2 ^ 4), hexD (c % 16)] (N := [(w, _)]) btB hB2 rfl rfl rfl rfl rfl (by simp only [List.length_append, List.length_cons, List.length_nil] at *; omega) fun v3 M3 hB3 => ⟨fun _ _ => trivial, ?_⟩)
            refine RAny.perm (L' := (w, _) :: M3) (perm_of_count fun x => by simp only [List.count_append, List.count_cons, List.count_nil, Nat.add_zero, Nat.zero_add] <;> ac_rfl) ?_
            obtain ⟨A3, c3, rfl⟩ := hB3.isSl
            refine RAny.tk 13 (bl 16 16383) rfl (by kernel_rfl) (by decide) (fun _ _ => trivial) (Yld.eval T rfl rfl) ?_
            refine RAny.tk 14 (bl 16 32767) rfl (by kernel_rfl) (by decide) (fun _ _ => trivial) (Yld.eval T rfl rfl) ?_
            refine RAny.os 15 (bl 16 65535) rfl (by kernel_rfl) rfl (Eff.store 0 rfl rfl rfl rfl (T.sizeOk rfl) rfl (Nat.le_of_ble_eq_true rfl) rfl rfl ⟨fun _ _ => trivial, ?_⟩)
            refine RAny.done _ (by kernel_rfl) ?_
            repeat (first | refine Run.inBlock ?_)
            refine Run.regionO (D := [some 179, some 180, some 181, some 1]) [true, true, true, true] rfl rfl rfl (fun Z hZ => ?_)
            refine QD.ev T (by decide) rfl rfl ?_
            refine QD.ev T (by decide) rfl rfl ?_
            refine QD.e ((Ev.cutSLo (j := ((encR (c : Int)).length : Int)) T rfl rfl rfl (by omega) (by rw [List.length_append]; omega)).as (show _ = str (encs rest) from congrArg str (by rw [Int.toNat_natCast, List.drop_left]))) (by decide) rfl ?_
            refine QD.ev T (by decide) rfl rfl ?_
            refine QD.nil (hZ _ ?_)
            clear hZ Z
            repeat (first | refine Run.inBlock ?_)
            refine Run.keep [0, 1] [_, _] rfl ?_
            exact ih rest.length _ _ _ (by simp only [List.length_cons]; omega) ⟨u ++ [c], rest, _, M3, rfl, by simp, (by rw [List.flatMap_append, List.flatMap_singleton, hq, ← List.append_assoc]; exact hB3), rfl, rfl, hle.trans l1⟩
          · skip
            skip
            skip
            refine RAny.on 4 (bl 16 4095) rfl (by kernel_rfl) rfl (by decide) (Eff.yv (Yv.load 1 T rfl rfl rfl rfl) ⟨fun _ _ => trivial, ?_⟩)
            refine RAny.on 12 (bl 16 8191) rfl (by kernel_rfl) rfl (by decide) (Eff.appLit [92, 117, 48, 48, hexD (c / 2 ^ 4), hexD (c % 16)] (N := [(w, _)]) btB hB2 rfl rfl rfl rfl rfl (by simp only [List.length_append, List.length_cons, List.length_nil] at *; omega) fun v3 M3 hB3 => ⟨fun _ _ => trivial, ?_⟩)
            refine RAny.perm (L' := (w, _) :: M3) (perm_of_count fun x => by simp only [List.count_append, List.count_cons, List.count_nil, Nat.add_zero, Nat.zero_add] <;> ac_rfl) ?_
            obtain ⟨A3, c3, rfl⟩ := hB3.isSl
            refine RAny.tk 13 (bl 16 16383) rfl (by kernel_rfl) (by decide) (fun _ _ => trivial) (Yld.eval T rfl rfl) ?_
            refine RAny.tk 14 (bl 16 32767) rfl (by kernel_rfl) (by decide) (fun _ _ => trivial) (Yld.eval T rfl rfl) ?_
            refine RAny.os 15 (bl 16 65535) rfl (by kernel_rfl) rfl (Eff.store 0 rfl rfl rfl rfl (T.sizeOk rfl) rfl (Nat.le_of_ble_eq_true rfl) rfl rfl ⟨fun _ _ => trivial, ?_⟩)
            refine RAny.done _ (by kernel_rfl) ?_
            repeat (first | refine Run.inBlock ?_)
            refine Run.regionO (D := [some 179, some 180, some 181, some 1]) [true, true, true, true] rfl rfl rfl (fun Z hZ => ?_)
            refine QD.ev T (by decide) rfl rfl ?_
            refine QD.ev T (by decide) rfl rfl ?_
            refine QD.e ((Ev.cutSLo (j := ((encR (c : Int)).length : Int)) T rfl rfl rfl (by omega) (by rw [List.length_append]; omega)).as (show _ = str (encs rest) from congrArg str (by rw [Int.toNat_natCast, List.drop_left]))) (by decide) rfl ?_
            refine QD.ev T (by decide) rfl rfl ?_
            refine QD.nil (hZ _ ?_)
            clear hZ Z
            repeat (first | refine Run.inBlock ?_)
            refine Run.keep [0, 1] [_, _] rfl ?_
            exact ih rest.length _ _ _ (by simp only [List.length_cons]; omega) ⟨u ++ [c], rest, _, M3, rfl, by simp, (by rw [List.flatMap_append, List.flatMap_singleton, hq, ← List.append_assoc]; exact hB3), rfl, rfl, hle.trans l1⟩
        by_cases hx2 : c = 60
        · skip
          refine Run.regionO (D := [some 108, some 109, some 110, some 111, some 112, some 113, some 114, some 115, some 116, some 117, some 118, some 119, some 120, some 121, some 107]) [true, true, true, true, true, true, true, true, true, true, true, true, true, true, true] rfl rfl rfl (fun Z hZ => ?_)
          refine QD.ev T (by decide) rfl rfl ?_
          refine QD.e ((Ev.lss rfl rfl).as (show _ = Value.bool false from congrArg Value.bool (decide_eq_false (by omega)))) (by decide) rfl ?_
          refine QD.ev T (by decide) rfl rfl ?_
          first | refine QD.ev T (by decide) rfl rfl ?_ | refine QD.off (by decide) rfl ?_
          refine QD.e ((Ev.eqlI rfl rfl).as (show _ = Value.bool true from congrArg Value.bool (decide_eq_true (by omega)))) (by decide) rfl ?_
          refine QD.ev T (by decide) rfl rfl ?_
          refine QD.ev T (by decide) rfl rfl ?_
          first | refine QD.ev T (by decide) rfl rfl ?_ | refine QD.off (by decide) rfl ?_
          first | refine QD.e (Ev.eqlI rfl rfl) (by decide) rfl ?_ | refine QD.off (by decide) rfl ?_
          refine QD.ev T (by decide) rfl rfl ?_
          refine QD.ev T (by decide) rfl rfl ?_
          first | refine QD.ev T (by decide) rfl rfl ?_ | refine QD.off (by decide) rfl ?_
          first | refine QD.e (Ev.eqlI rfl rfl) (by decide) rfl ?_ | refine QD.off (by decide) rfl ?_
          refine QD.ev T (by decide) rfl rfl ?_
          refine QD.ev T (by decide) rfl rfl ?_
          refine QD.nil (hZ _ ?_)
          clear hZ Z
          repeat (first | refine Run.cond_t rfl ?_)
          refine Run.regionAny (fun _ => True) (bl 16 0) (by kernel_rfl) (by kernel_rfl) ?_
          refine RAny.tk 0 (bl 16 1) rfl (by kernel_rfl) (by decide) (fun _ _ => trivial) (Yld.eval T rfl rfl) ?_
          refine RAny.tk 1 (bl 16 3) rfl (by kernel_rfl) (by decide) (fun _ _ => trivial) (Yld.eval T rfl rfl) ?_
          refine RAny.tk 2 (bl 16 7) rfl (by kernel_rfl) (by decide) (fun _ _ => trivial) (Yld.eval T rfl rfl) ?_
          refine RAny.tk 3 (bl 16 15) rfl (by kernel_rfl) (by decide) (fun _ _ => trivial) (Yld.eval T rfl rfl) ?_
          refine RAny.tk 5 (bl 16 47) rfl (by kernel_rfl) (by decide) (fun _ _ => trivial) (Yld.eval T rfl rfl) ?_
          refine RAny.tk 6 (bl 16 111) rfl (by kernel_rfl) (by decide) (fun _ _ => trivial) (Yld.ev (Ev.shrK rfl rfl (by decide) (by decide) (shrL c 4)) rfl) ?_
          refine RAny.tk 7 (bl 16 239) rfl (by kernel_rfl) (by decide) (fun _ _ => trivial) (Yld.ev ((Ev.indexT (s := hexT) T rfl rfl rfl (by omega) (by show _ < (16 : Int); omega)).as (hexV16 (n := c / 2 ^ 4) (by omega))) rfl) ?_
          refine RAny.tk 8 (bl 16 495) rfl (by kernel_rfl) (by decide) (fun _ _ => trivial) (Yld.eval T rfl rfl) ?_
          refine RAny.tk 9 (bl 16 1007) rfl (by kernel_rfl) (by decide) (fun _ _ => trivial) (Yld.ev (Ev.andK (b := 15) (c := c % 16) rfl rfl (by show _ < 4294967296; omega) (by decide) (and15 _) (wrapI32 (by omega) (by omega))) rfl) ?_
          refine RAny.tk 10 (bl 16 2031) rfl (by kernel_rfl) (by decide) (fun _ _ => trivial) (Yld.ev ((Ev.indexT (s := hexT) T rfl rfl rfl (by omega) (by show _ < (16 : Int); omega)).as (hexV16 (n := c % 16) (by omega))) rfl) ?_
          refine RAny.two 4 11 (bl 16 2047) (bl 16 4079) rfl rfl (by kernel_rfl) rfl rfl (by decide) (by decide) (Eff.yv (Yv.load 0 T rfl rfl rfl rfl) ⟨fun _ _ => trivial, ?_⟩) (Eff.lit T rfl rfl rfl (by decide) (by decide) rfl rfl rfl rfl rfl fun bq => ⟨fun _ _ => trivial, ?_⟩)
          skip
          · skip
            skip
            refine RAny.on 11 (bl 16 4095) rfl (by kernel_rfl) rfl (by decide) (Eff.lit T rfl rfl rfl (by decide) (by decide) rfl rfl rfl rfl rfl fun bq => ⟨fun _ _ => trivial, ?_⟩)
            refine RAny.on 12 (bl 16 8191) rfl (by kernel_rfl) rfl (by decide) (Eff.appLit [92, 117, 48, 48, hexD (c / 2 ^ 4), hexD (c % 16)] (N := [(w, _)]) btB hB2 rfl rfl rfl rfl rfl (by simp only [List.length_append, List.length_cons, List.length_nil] at *; omega) fun v3 M3 hB3 => ⟨fun _ _ => trivial, ?_⟩)
            refine RAny.perm (L' := (w, _) :: M3) (perm_of_count fun x => by simp only [List.count_append, List.count_cons, List.count_nil, Nat.add_zero, Nat.zero_add] <;> ac_rfl) ?_
            obtain ⟨A3, c3, rfl⟩ := hB3.isSl
            refine RAny.tk 13 (bl 16 16383) rfl (by kernel_rfl) (by decide) (fun _ _ => trivial) (Yld.eval T rfl rfl) ?_
            refine RAny.tk 14 (bl 16 32767) rfl (by kernel_rfl) (by decide) (fun _ _ => trivial) (Yld.eval T rfl rfl) ?_
            refine RAny.os 15 (bl 16 65535) rfl (by kernel_rfl) rfl (Eff.store 0 rfl rfl rfl rfl (T.sizeOk rfl) rfl (Nat.le_of_ble_eq_true rfl) rfl rfl ⟨fun _ _ => trivial, ?_⟩)
            refine RAny.done _ (by kernel_rfl) ?_
            repeat (first | refine Run.inBlock ?_)
            refine Run.regionO (D := [some 179, some 180, some 181, some 1]) [true, true, true, true] rfl rfl rfl (fun Z hZ => ?_)
            refine QD.ev T (by decide) rfl rfl ?_
            refine QD.ev T (by decide) rfl rfl ?_
            refine QD.e ((Ev.cutSLo (j := ((encR (c : Int)).length : Int)) T rfl rfl rfl (by omega) (by rw [List.length_append]; omega)).as (show _ = str (encs rest) from congrArg str (by rw [Int.toNat_natCast, List.drop_left]))) (by decide) rfl ?_
            refine QD.ev T (by decide) rfl rfl ?_
            refine QD.nil (hZ _ ?_)
            clear hZ Z
            repeat (first | refine Run.inBlock ?_)
            refine Run.keep [0, 1] [_, _] rfl ?_
            exact ih rest.length _ _ _ (by simp only [List.length_cons]; omega) ⟨u ++ [c], rest, _, M3, rfl, by simp, (by rw [List.flatMap_append, List.flatMap_singleton, hq, ← List.append_assoc]; exact hB3), rfl, rfl, hle.trans l1⟩
          · skip
            skip
            skip
            refine RAny.on 4 (bl 16 4095) rfl (by kernel_rfl) rfl (by decide) (Eff.yv (Yv.load 1 T rfl rfl rfl rfl) ⟨fun _ _ => trivial, ?_⟩)
            refine RAny.on 12 (bl 16 8191) rfl (by kernel_rfl) rfl (by decide) (Eff.appLit [92, 117, 48, 48, hexD (c / 2 ^ 4), hexD (c % 16)] (N := [(w, _)]) btB hB2 rfl rfl rfl rfl rfl (by simp only [List.length_append, List.length_cons, List.length_nil] at *; omega) fun v3 M3 hB3 => ⟨fun _ _ => trivial, ?_⟩)
            refine RAny.perm (L' := (w, _) :: M3) (perm_of_count fun x => by simp only [List.count_append, List.count_cons, List.count_nil, Nat.add_zero, Nat.zero_add] <;> ac_rfl) ?_
            obtain ⟨A3, c3, rfl⟩ := hB3.isSl
            refine RAny.tk 13 (bl 16 16383) rfl (by kernel_rfl) (by decide) (fun _ _ => trivial) (Yld.eval T rfl rfl) ?_
            refine RAny.tk 14 (bl 16 32767) rfl (by kernel_rfl) (by decide) (fun _ _ => trivial) (Yld.eval T rfl rfl) ?_
            refine RAny.os 15 (bl 16 65535) rfl (by kernel_rfl) rfl (Eff.store 0 rfl rfl rfl rfl (T.sizeOk rfl) rfl (Nat.le_of_ble_eq_true rfl) rfl rfl ⟨fun _ _ => trivial, ?_⟩)
            refine RAny.done _ (by kernel_rfl) ?_
            repeat (first | refine Run.inBlock ?_)
            refine Run.regionO (D := [some 179, some 180, some 181, some 1]) [true, true, true, true] rfl rfl rfl (fun Z hZ => ?_)
            refine QD.ev T (by decide) rfl rfl ?_
            refine QD.ev T (by decide) rfl rfl ?_
            refine QD.e ((Ev.cutSLo (j := ((encR (c : Int)).length : Int)) T rfl rfl rfl (by omega) (by rw [List.length_append]; omega)).as (show _ = str (encs rest) from congrArg str (by rw [Int.toNat_natCast, List.drop_left]))) (by decide) rfl ?_
            refine QD.ev T (by decide) rfl rfl ?_
            refine QD.nil (hZ _ ?_)
            clear hZ Z
            repeat (first | refine Run.inBlock ?_)
            refine Run.keep [0, 1] [_, _] rfl ?_
            exact ih rest.length _ _ _ (by simp only [List.length_cons]; omega) ⟨u ++ [c], rest, _, M3, rfl, by simp, (by rw [List.flatMap_append, List.flatMap_singleton, hq, ← List.append_assoc]; exact hB3), rfl, rfl, hle.trans l1⟩
        by_cases hx3 : c = 62
        · skip
          refine Run.regionO (D := [some 108, some 109, some 110, some 111, some 112, some 113, some 114, some 115, some 116, some 117, some 118, some 119, some 120, some 121, some 107]) [true, true, true, true, true, true, true, true, true, true, true, true, true, true, true] rfl rfl rfl (fun Z hZ => ?_)
          refine QD.ev T (by decide) rfl rfl ?_
          refine QD.e ((Ev.lss rfl rfl).as (show _ = Value.bool false from congrArg Value.bool (decide_eq_false (by omega)))) (by decide) rfl ?_
          refine QD.ev T (by decide) rfl rfl ?_
          first | refine QD.ev T (by decide) rfl rfl ?_ | refine QD.off (by decide) rfl ?_
          refine QD.e ((Ev.eqlI rfl rfl).as (show _ = Value.bool false from congrArg Value.bool (decide_eq_false (by omega)))) (by decide) rfl ?_
          refine QD.ev T (by decide) rfl rfl ?_
          refine QD.ev T (by decide) rfl rfl ?_
          first | refine QD.ev T (by decide) rfl rfl ?_ | refine QD.off (by decide) rfl ?_
          refine QD.e ((Ev.eqlI rfl rfl).as (show _ = Value.bool true from congrArg Value.bool (decide_eq_true (by omega)))) (by decide) rfl ?_
          refine QD.ev T (by decide) rfl rfl ?_
          refine QD.ev T (by decide) rfl rfl ?_
          first | refine QD.ev T (by decide) rfl rfl ?_ | refine QD.off (by decide) rfl ?_
          first | refine QD.e (Ev.eqlI rfl rfl) (by decide) rfl ?_ | refine QD.off (by decide) rfl ?_
          refine QD.ev T (by decide) rfl rfl ?_
          refine QD.ev T (by decide) rfl rfl ?_
          refine QD.nil (hZ _ ?_)
          clear hZ Z
          repeat (first | refine Run.cond_t rfl ?_)
          refine Run.regionAny (fun _ => True) (bl 16 0) (by kernel_rfl) (by kernel_rfl) ?_
          refine RAny.tk 0 (bl 16 1) rfl (by kernel_rfl) (by decide) (fun _ _ => trivial) (Yld.eval T rfl rfl) ?_
          refine RAny.tk 1 (bl 16 3) rfl (by kernel_rfl) (by decide) (fun _ _ => trivial) (Yld.eval T rfl rfl) ?_
          refine RAny.tk 2 (bl 16 7) rfl (by kernel_rfl) (by decide) (fun _ _ => trivial) (Yld.eval T rfl rfl) ?_
          refine RAny.tk 3 (bl 16 15) rfl (by kernel_rfl) (by decide) (fun _ _ => trivial) (Yld.eval T rfl rfl) ?_
          refine RAny.tk 5 (bl 16 47) rfl (by kernel_rfl) (by decide) (fun _ _ => trivial) (Yld.eval T rfl rfl) ?_
          refine RAny.tk 6 (bl 16 111) rfl (by kernel_rfl) (by decide) (fun _ _ => trivial) (Yld.ev (Ev.shrK rfl rfl (by decide) (by decide) (shrL c 4)) rfl) ?_
          refine RAny.tk 7 (bl 16 239) rfl (by kernel_rfl) (by decide) (fun _ _ => trivial) (Yld.ev ((Ev.indexT (s := hexT) T rfl rfl rfl (by omega) (by show _ < (16 : Int); omega)).as (hexV16 (n := c / 2 ^ 4) (by omega))) rfl) ?_
          refine RAny.tk 8 (bl 16 495) rfl (by kernel_rfl) (by decide) (fun _ _ => trivial) (Yld.eval T rfl rfl) ?_
          refine RAny.tk 9 (bl 16 1007) rfl (by kernel_rfl) (by decide) (fun _ _ => trivial) (Yld.ev (Ev.andK (b := 15) (c := c % 16) rfl rfl (by show _ < 4294967296; omega) (by decide) (and15 _) (wrapI32 (by omega) (by omega))) rfl) ?_
          refine RAny.tk 10 (bl 16 2031) rfl (by kernel_rfl) (by decide) (fun _ _ => trivial) (Yld.ev ((Ev.indexT (s := hexT) T rfl rfl rfl (by omega) (by show _ < (16 : Int); omega)).as (hexV16 (n := c % 16) (by omega))) rfl) ?_
          refine RAny.two 4 11 (bl 16 2047) (bl 16 4079) rfl rfl (by kernel_rfl) rfl rfl (by decide) (by decide) (Eff.yv (Yv.load 0 T rfl rfl rfl rfl) ⟨fun _ _ => trivial, ?_⟩) (Eff.lit T rfl rfl rfl (by decide) (by decide) rfl rfl rfl rfl rfl fun bq => ⟨fun _ _ => trivial, ?_⟩)
          skip
          · skip
            skip
            refine RAny.on 11 (bl 16 4095) rfl (by kernel_rfl) rfl (by decide) (Eff.lit T rfl rfl rfl (by decide) (by decide) rfl rfl rfl rfl rfl fun bq => ⟨fun _ _ => trivial, ?_⟩)
            refine RAny.on 12 (bl 16 8191) rfl (by kernel_rfl) rfl (by decide) (Eff.appLit [92, 117, 48, 48, hexD (c / 2 ^ 4), hexD (c % 16)] (N := [(w, _)]) btB hB2 rfl rfl rfl rfl rfl (by simp only [List.length_append, List.length_cons, List.length_nil] at *; omega) fun v3 M3 hB3 => ⟨fun _ _ => trivial, ?_⟩)
            refine RAny.perm (L' := (w, _) :: M3) (perm_of_count fun x => by simp only [List.count_append, List.count_cons, List.count_nil, Nat.add_zero, Nat.zero_add] <;> ac_rfl) ?_
            obtain ⟨A3, c3, rfl⟩ := hB3.isSl
            refine RAny.tk 13 (bl 16 16383) rfl (by kernel_rfl) (by decide) (fun _ _ => trivial) (Yld.eval T rfl rfl) ?_
            refine RAny.tk 14 (bl 16 32767) rfl (by kernel_rfl) (by decide) (fun _ _ => trivial) (Yld.eval T rfl rfl) ?_
            refine RAny.os 15 (bl 16 65535) rfl (by kernel_rfl) rfl (Eff.store 0 rfl rfl rfl rfl (T.sizeOk rfl) rfl (Nat.le_of_ble_eq_true rfl) rfl rfl ⟨fun _ _ => trivial, ?_⟩)
            refine RAny.done _ (by kernel_rfl) ?_
            repeat (first | refine Run.inBlock ?_)
            refine Run.regionO (D := [some 179, some 180, some 181, some 1]) [true, true, true, true] rfl rfl rfl (fun Z hZ => ?_)
            refine QD.ev T (by decide) rfl rfl ?_
            refine QD.ev T (by decide) rfl rfl ?_
            refine QD.e ((Ev.cutSLo (j := ((encR (c : Int)).length : Int)) T rfl rfl rfl (by omega) (by rw [List.length_append]; omega)).as (show _ = str (encs rest) from congrArg str (by rw [Int.toNat_natCast, List.drop_left]))) (by decide) rfl ?_
            refine QD.ev T (by decide) rfl rfl ?_
            refine QD.nil (hZ _ ?_)
            clear hZ Z
            repeat (first | refine Run.inBlock ?_)
            refine Run.keep [0, 1] [_, _] rfl ?_
            exact ih rest.length _ _ _ (by simp only [List.length_cons]; omega) ⟨u ++ [c], rest, _, M3, rfl, by simp, (by rw [List.flatMap_append, List.flatMap_singleton, hq, ← List.append_assoc]; exact hB3), rfl, rfl, hle.trans l1⟩
          · skip
            skip
            skip
            refine RAny.on 4 (bl 16 4095) rfl (by kernel_rfl) rfl (by decide) (Eff.yv (Yv.load 1 T rfl rfl rfl rfl) ⟨fun _ _ => trivial, ?_⟩)
            refine RAny.on 12 (bl 16 8191) rfl (by kernel_rfl) rfl (by decide) (Eff.appLit [92, 117, 48, 48, hexD (c / 2 ^ 4), hexD (c % 16)] (N := [(w, _)]) btB hB2 rfl rfl rfl rfl rfl (by simp only [List.length_append, List.length_cons, List.length_nil] at *; omega) fun v3 M3 hB3 => ⟨fun _ _ => trivial, ?_⟩)
            refine RAny.perm (L' := (w, _) :: M3) (perm_of_count fun x => by simp only [List.count_append, List.count_cons, List.count_nil, Nat.add_zero, Nat.zero_add] <;> ac_rfl) ?_
            obtain ⟨A3, c3, rfl⟩ := hB3.isSl
            refine RAny.tk 13 (bl 16 16383) rfl (by kernel_rfl) (by decide) (fun _ _ => trivial) (Yld.eval T rfl rfl) ?_
            refine RAny.tk 14 (bl 16 32767) rfl (by kernel_rfl) (by decide) (fun _ _ => trivial) (Yld.eval T rfl rfl) ?_
            refine RAny.os 15 (bl 16 65535) rfl (by kernel_rfl) rfl (Eff.store 0 rfl rfl rfl rfl (T.sizeOk rfl) rfl (Nat.le_of_ble_eq_true rfl) rfl rfl ⟨fun _ _ => trivial, ?_⟩)
            refine RAny.done _ (by kernel_rfl) ?_
            repeat (first | refine Run.inBlock ?_)
            refine Run.regionO (D := [some 179, some 180, some 181, some 1]) [true, true, true, true] rfl rfl rfl (fun Z hZ => ?_)
            refine QD.ev T (by decide) rfl rfl ?_
            refine QD.ev T (by decide) rfl rfl ?_
            refine QD.e ((Ev.cutSLo (j := ((encR (c : Int)).length : Int)) T rfl rfl rfl (by omega) (by rw [List.length_append]; omega)).as (show _ = str (encs rest) from congrArg str (by rw [Int.toNat_natCast, List.drop_left]))) (by decide) rfl ?_
            refine QD.ev T (by decide) rfl rfl ?_
            refine QD.nil (hZ _ ?_)
            clear hZ Z
            repeat (first | refine Run.inBlock ?_)
            refine Run.keep [0, 1] [_, _] rfl ?_
            exact ih rest.length _ _ _ (by simp only [List.length_cons]; omega) ⟨u ++ [c], rest, _, M3, rfl, by simp, (by rw [List.flatMap_append, List.flatMap_singleton, hq, ← List.append_assoc]; exact hB3), rfl, rfl, hle.trans l1⟩
        · skip
          refine Run.regionO (D := [some 108, some 109, some 110, some 111, some 112, some 113, some 114, some 115, some 116, some 117, some 118, some 119, some 120, some 121, some 107]) [true, true, true, true, true, true, true, true, true, true, true, true, true, true, true] rfl rfl rfl (fun Z hZ => ?_)
          refine QD.ev T (by decide) rfl rfl ?_
          refine QD.e ((Ev.lss rfl rfl).as (show _ = Value.bool false from congrArg Value.bool (decide_eq_false (by omega)))) (by decide) rfl ?_
          refine QD.ev T (by decide) rfl rfl ?_
          first | refine QD.ev T (by decide) rfl rfl ?_ | refine QD.off (by decide) rfl ?_
          refine QD.e ((Ev.eqlI rfl rfl).as (show _ = Value.bool false from congrArg Value.bool (decide_eq_false (by omega)))) (by decide) rfl ?_
          refine QD.ev T (by decide) rfl rfl ?_
          refine QD.ev T (by decide) rfl rfl ?_
          first | refine QD.ev T (by decide) rfl rfl ?_ | refine QD.off (by decide) rfl ?_
          refine QD.e ((Ev.eqlI rfl rfl).as (show _ = Value.bool false from congrArg Value.bool (decide_eq_false (by omega)))) (by decide) rfl ?_
          refine QD.ev T (by decide) rfl rfl ?_
          refine QD.ev T (by decide) rfl rfl ?_
          first | refine QD.ev T (by decide) rfl rfl ?_ | refine QD.off (by decide) rfl ?_
          refine QD.e ((Ev.eqlI rfl rfl).as (show _ = Value.bool true from congrArg Value.bool (decide_eq_true (by omega)))) (by decide) rfl ?_
          refine QD.ev T (by decide) rfl rfl ?_
          refine QD.ev T (by decide) rfl rfl ?_
          refine QD.nil (hZ _ ?_)
          clear hZ Z
          repeat (first | refine Run.cond_t rfl ?_)
          refine Run.regionAny (fun _ => True) (bl 16 0) (by kernel_rfl) (by kernel_rfl) ?_
          refine RAny.tk 0 (bl 16 1) rfl (by kernel_rfl) (by decide) (fun _ _ => trivial) (Yld.eval T rfl rfl) ?_
          refine RAny.tk 1 (bl 16 3) rfl (by kernel_rfl) (by decide) (fun _ _ => trivial) (Yld.eval T rfl rfl) ?_
          refine RAny.tk 2 (bl 16 7) rfl (by kernel_rfl) (by decide) (fun _ _ => trivial) (Yld.eval T rfl rfl) ?_
          refine RAny.tk 3 (bl 16 15) rfl (by kernel_rfl) (by decide) (fun _ _ => trivial) (Yld.eval T rfl rfl) ?_
          refine RAny.tk 5 (bl 16 47) rfl (by kernel_rfl) (by decide) (fun _ _ => trivial) (Yld.eval T rfl rfl) ?_
          refine RAny.tk 6 (bl 16 111) rfl (by kernel_rfl) (by decide) (fun _ _ => trivial) (Yld.ev (Ev.shrK rfl rfl (by decide) (by decide) (shrL c 4)) rfl) ?_
          refine RAny.tk 7 (bl 16 239) rfl (by kernel_rfl) (by decide) (fun _ _ => trivial) (Yld.ev ((Ev.indexT (s := hexT) T rfl rfl rfl (by omega) (by show _ < (16 : Int); omega)).as (hexV16 (n := c / 2 ^ 4) (by omega))) rfl) ?_
          refine RAny.tk 8 (bl 16 495) rfl (by kernel_rfl) (by decide) (fun _ _ => trivial) (Yld.eval T rfl rfl) ?_
          refine RAny.tk 9 (bl 16 1007) rfl (by kernel_rfl) (by decide) (fun _ _ => trivial) (Yld.ev (Ev.andK (b := 15) (c := c % 16) rfl rfl (by show _ < 4294967296; omega) (by decide) (and15 _) (wrapI32 (by omega) (by omega))) rfl) ?_
          refine RAny.tk 10 (bl 16 2031) rfl (by kernel_rfl) (by decide) (fun _ _ => trivial) (Yld.ev ((Ev.indexT (s := hexT) T rfl rfl rfl (by omega) (by show _ < (16 : Int); omega)).as (hexV16 (n := c % 16) (by omega))) rfl) ?_
          refine RAny.two 4 11 (bl 16 2047) (bl 16 4079) rfl rfl (by kernel_rfl) rfl rfl (by decide) (by decide) (Eff.yv (Yv.load 0 T rfl rfl rfl rfl) ⟨fun _ _ => trivial, ?_⟩) (Eff.lit T rfl rfl rfl (by decide) (by decide) rfl rfl rfl rfl rfl fun bq => ⟨fun _ _ => trivial, ?_⟩)
          skip
          · skip
            skip
            refine RAny.on 11 (bl 16 4095) rfl (by kernel_rfl) rfl (by decide) (Eff.lit T rfl rfl rfl (by decide) (by decide) rfl rfl rfl rfl rfl fun bq => ⟨fun _ _ => trivial, ?_⟩)
            refine RAny.on 12 (bl 16 8191) rfl (by kernel_rfl) rfl (by decide) (Eff.appLit [92, 117, 48, 48, hexD (c / 2 ^ 4), hexD (c % 16)] (N := [(w, _)]) btB hB2 rfl rfl rfl rfl rfl (by simp only [List.length_append, List.length_cons, List.length_nil] at *; omega) fun v3 M3 hB3 => ⟨fun _ _ => trivial, ?_⟩)
            refine RAny.perm (L' := (w, _) :: M3) (perm_of_count fun x => by simp only [List.count_append, List.count_cons, List.count_nil, Nat.add_zero, Nat.zero_add] <;> ac_rfl) ?_
            obtain ⟨A3, c3, rfl⟩ := hB3.isSl
            refine RAny.tk 13 (bl 16 16383) rfl (by kernel_rfl) (by decide) (fun _ _ => trivial) (Yld.eval T rfl rfl) ?_
            refine RAny.tk 14 (bl 16 32767) rfl (by kernel_rfl) (by decide) (fun _ _ => trivial) (Yld.eval T rfl rfl) ?_
            refine RAny.os 15 (bl 16 65535) rfl (by kernel_rfl) rfl (Eff.store 0 rfl rfl rfl rfl (T.sizeOk rfl) rfl (Nat.le_of_ble_eq_true rfl) rfl rfl ⟨fun _ _ => trivial, ?_⟩)
            refine RAny.done _ (by kernel_rfl) ?_
            repeat (first | refine Run.inBlock ?_)
            refine Run.regionO (D := [some 179, some 180, some 181, some 1]) [true, true, true, true] rfl rfl rfl (fun Z hZ => ?_)
            refine QD.ev T (by decide) rfl rfl ?_
            refine QD.ev T (by decide) rfl rfl ?_
            refine QD.e ((Ev.cutSLo (j := ((encR (c : Int)).length : Int)) T rfl rfl rfl (by omega) (by rw [List.length_append]; omega)).as (show _ = str (encs rest) from congrArg str (by rw [Int.toNat_natCast, List.drop_left]))) (by decide) rfl ?_
            refine QD.ev T (by decide) rfl rfl ?_
            refine QD.nil (hZ _ ?_)
            clear hZ Z
            repeat (first | refine Run.inBlock ?_)
            refine Run.keep [0, 1] [_, _] rfl ?_
            exact ih rest.length _ _ _ (by simp only [List.length_cons]; omega) ⟨u ++ [c], rest, _, M3, rfl, by simp, (by rw [List.flatMap_append, List.flatMap_singleton, hq, ← List.append_assoc]; exact hB3), rfl, rfl, hle.trans l1⟩
          · skip
            skip
            skip
            refine RAny.on 4 (bl 16 4095) rfl (by kernel_rfl) rfl (by decide) (Eff.yv (Yv.load 1 T rfl rfl rfl rfl) ⟨fun _ _ => trivial, ?_⟩)
            refine RAny.on 12 (bl 16 8191) rfl (by kernel_rfl) rfl (by decide) (Eff.appLit [92, 117, 48, 48, hexD (c / 2 ^ 4), hexD (c % 16)] (N := [(w, _)]) btB hB2 rfl rfl rfl rfl rfl (by simp only [List.length_append, List.length_cons, List.length_nil] at *; omega) fun v3 M3 hB3 => ⟨fun _ _ => trivial, ?_⟩)
            refine RAny.perm (L' := (w, _) :: M3) (perm_of_count fun x => by simp only [List.count_append, List.count_cons, List.count_nil, Nat.add_zero, Nat.zero_add] <;> ac_rfl) ?_
            obtain ⟨A3, c3, rfl⟩ := hB3.isSl
            refine RAny.tk 13 (bl 16 16383) rfl (by kernel_rfl) (by decide) (fun _ _ => trivial) (Yld.eval T rfl rfl) ?_
            refine RAny.tk 14 (bl 16 32767) rfl (by kernel_rfl) (by decide) (fun _ _ => trivial) (Yld.eval T rfl rfl) ?_
            refine RAny.os 15 (bl 16 65535) rfl (by kernel_rfl) rfl (Eff.store 0 rfl rfl rfl rfl (T.sizeOk rfl) rfl (Nat.le_of_ble_eq_true rfl) rfl rfl ⟨fun _ _ => trivial, ?_⟩)
            refine RAny.done _ (by kernel_rfl) ?_
            repeat (first | refine Run.inBlock ?_)
            refine Run.regionO (D := [some 179, some 180, some 181, some 1]) [true, true, true, true] rfl rfl rfl (fun Z hZ => ?_)
            refine QD.ev T (by decide) rfl rfl ?_
            refine QD.ev T (by decide) rfl rfl ?_
            refine QD.e ((Ev.cutSLo (j := ((encR (c : Int)).length : Int)) T rfl rfl rfl (by omega) (by rw [List.length_append]; omega)).as (show _ = str (encs rest) from congrArg str (by rw [Int.toNat_natCast, List.drop_left]))) (by decide) rfl ?_
            refine QD.ev T (by decide) rfl rfl ?_
            refine QD.nil (hZ _ ?_)
            clear hZ Z
            repeat (first | refine Run.inBlock ?_)
            refine Run.keep [0, 1] [_, _] rfl ?_
            exact ih rest.length _ _ _ (by simp only [List.length_cons]; omega) ⟨u ++ [c], rest, _, M3, rfl, by simp, (by rw [List.flatMap_append, List.flatMap_singleton, hq, ← List.append_assoc]; exact hB3), rfl, rfl, hle.trans l1⟩
      · have hq : quo1 c = [92, 117, 50, 48, 50] ++ [hexD (c % 16)] := by
          rw [hq, hexD_mod]; unfold hexes
          rw [show c / 4096 = 2 by omega, show c / 256 = 32 by omega, show c / 16 = 514 by omega]; rfl
        refine Run.regionO (D := [some 108, some 109, some 110, some 111, some 112, some 113, some 114, some 115, some 116, some 117, some 118, some 119, some 120, some 121, some 107]) [true, true, true, true, true, true, true, true, true, true, true, true, true, true, true] rfl rfl rfl (fun Z hZ => ?_)
        refine QD.ev T (by decide) rfl rfl ?_
        refine QD.e ((Ev.lss rfl rfl).as (show _ = Value.bool false from congrArg Value.bool (decide_eq_false (by omega)))) (by decide) rfl ?_
        refine QD.ev T (by decide) rfl rfl ?_
        first | refine QD.ev T (by decide) rfl rfl ?_ | refine QD.off (by decide) rfl ?_
        refine QD.e ((Ev.eqlI rfl rfl).as (show _ = Value.bool false from congrArg Value.bool (decide_eq_false (by omega)))) (by decide) rfl ?_
        refine QD.ev T (by decide) rfl rfl ?_
        refine QD.ev T (by decide) rfl rfl ?_
        first | refine QD.ev T (by decide) rfl rfl ?_ | refine QD.off (by decide) rfl ?_
        refine QD.e ((Ev.eqlI rfl rfl).as (show _ = Value.bool false from congrArg Value.bool (decide_eq_false (by omega)))) (by decide) rfl ?_
        refine QD.ev T (by decide) rfl rfl ?_
        refine QD.ev T (by decide) rfl rfl ?_
        first | refine QD.ev T (by decide) rfl rfl ?_ | refine QD.off (by decide) rfl ?_
        refine QD.e ((Ev.eqlI rfl rfl).as (show _ = Value.bool false from congrArg Value.bool (decide_eq_false (by omega)))) (by decide) rfl ?_
        refine QD.ev T (by decide) rfl rfl ?_
        refine QD.ev T (by decide) rfl rfl ?_
        refine QD.nil (hZ _ ?_)
        clear hZ Z
        repeat (first | refine Run.seq ?_ | refine Run.cond_f rfl ?_)
        refine Run.regionO (D := [some 138, some 139, some 140, some 141, some 142, some 143, some 137]) [true, true, true, true, true, true, true] rfl rfl rfl (fun Z hZ => ?_)
        refine QD.ev T (by decide) rfl rfl ?_
        refine QD.e ((Ev.eqlI rfl rfl).as (show _ = Value.bool false from congrArg Value.bool (decide_eq_false (by omega)))) (by decide) rfl ?_
        refine QD.ev T (by decide) rfl rfl ?_
        first | refine QD.ev T (by decide) rfl rfl ?_ | refine QD.off (by decide) rfl ?_
        first | refine QD.e (Ev.eqlI rfl rfl) (by decide) rfl ?_ | refine QD.off (by decide) rfl ?_
        refine QD.ev T (by decide) rfl rfl ?_
        refine QD.ev T (by decide) rfl rfl ?_
        refine QD.nil (hZ _ ?_)
        clear hZ Z
        repeat (first | refine Run.seq ?_ | refine Run.cond_f rfl ?_)
        by_cases hx1 : c = 8232
        · skip
          refine Run.regionO (D := [some 153, some 154, some 155, some 156, some 157, some 158, some 152]) [true, true, true, true, true, true, true] rfl rfl rfl (fun Z hZ => ?_)
          refine QD.ev T (by decide) rfl rfl ?_
          refine QD.e ((Ev.eqlI rfl rfl).as (show _ = Value.bool true from congrArg Value.bool (decide_eq_true (by omega)))) (by decide) rfl ?_
          refine QD.ev T (by decide) rfl rfl ?_
          first | refine QD.ev T (by decide) rfl rfl ?_ | refine QD.off (by decide) rfl ?_
          first | refine QD.e (Ev.eqlI rfl rfl) (by decide) rfl ?_ | refine QD.off (by decide) rfl ?_
          refine QD.ev T (by decide) rfl rfl ?_
          refine QD.ev T (by decide) rfl rfl ?_
          refine QD.nil (hZ _ ?_)
          clear hZ Z
          repeat (first | refine Run.seq ?_ | refine Run.cond_t rfl ?_)
          refine Run.regionP (D := [some 159, some 160, some 161, some 162, some 163, some 164, some 165, some 166, none]) [true, true, true, true, true] 5 rfl rfl rfl (by simp only [List.drop_succ_cons, List.drop_zero]; rfl) (fun Z hZ => ?_)
          refine QD.ev T (by decide) rfl rfl ?_
          refine QD.ev T (by decide) rfl rfl ?_
          refine QD.ev T (by decide) rfl rfl ?_
          refine QD.ev T (by decide) rfl rfl ?_
          first | refine QD.yv (by decide) rfl (Yv.load 0 T rfl rfl rfl rfl) ?_ | refine QD.yv (by decide) rfl (Yv.load 1 T rfl rfl rfl rfl) ?_ | refine QD.yv (by decide) rfl (Yv.load 2 T rfl rfl rfl rfl) ?_
          refine QD.nil (hZ _ ?_)
          clear hZ Z
          refine Ops.appBuf (M := M2) (N := [(w, _)]) (ys := [92, 117, 50, 48, 50]) btB hB2 rfl (by decide) rfl rfl (perm_of_count fun x => by simp only [List.count_append, List.count_cons, List.count_nil, Nat.add_zero, Nat.zero_add] <;> ac_rfl) (fun W hi => src_str rfl W) (by simp only [List.length_append, List.length_cons, List.length_nil] at *; omega) fun v3 M3 hB3 => ?_
          refine Ops.perm (L' := (w, _) :: M3) (perm_of_count fun x => by simp only [List.count_append, List.count_cons, List.count_nil, Nat.add_zero, Nat.zero_add] <;> ac_rfl) ?_
          obtain ⟨A3, c3, rfl⟩ := hB3.isSl
          refine Ops.pure T rfl (by decide) rfl ?_
          refine Ops.pure T rfl (by decide) rfl ?_
          first | refine Ops.store 0 rfl rfl rfl rfl rfl (T.sizeOk rfl) rfl (Nat.le_of_ble_eq_true rfl) rfl rfl ?_ | refine Ops.store 1 rfl rfl rfl rfl rfl (T.sizeOk rfl) rfl (Nat.le_of_ble_eq_true rfl) rfl rfl ?_ | refine Ops.store 2 rfl rfl rfl rfl rfl (T.sizeOk rfl) rfl (Nat.le_of_ble_eq_true rfl) rfl rfl ?_
          refine Ops.nil ?_
          skip
          refine Run.regionAny (fun _ => True) (bl 13 0) (by kernel_rfl) (by kernel_rfl) ?_
          refine RAny.tk 0 (bl 13 1) rfl (by kernel_rfl) (by decide) (fun _ _ => trivial) (Yld.eval T rfl rfl) ?_
          refine RAny.tk 1 (bl 13 3) rfl (by kernel_rfl) (by decide) (fun _ _ => trivial) (Yld.eval T rfl rfl) ?_
          refine RAny.tk 2 (bl 13 7) rfl (by kernel_rfl) (by decide) (fun _ _ => trivial) (Yld.eval T rfl rfl) ?_
          refine RAny.tk 3 (bl 13 15) rfl (by kernel_rfl) (by decide) (fun _ _ => trivial) (Yld.eval T rfl rfl) ?_
          refine RAny.tk 5 (bl 13 47) rfl (by kernel_rfl) (by decide) (fun _ _ => trivial) (Yld.eval T rfl rfl) ?_
          refine RAny.tk 6 (bl 13 111) rfl (by kernel_rfl) (by decide) (fun _ _ => trivial) (Yld.ev (Ev.andK (b := 15) (c := c % 16) rfl rfl (by show _ < 4294967296; omega) (by decide) (and15 _) (wrapI32 (by omega) (by omega))) rfl) ?_
          refine RAny.tk 7 (bl 13 239) rfl (by kernel_rfl) (by decide) (fun _ _ => trivial) (Yld.ev ((Ev.indexT (s := hexT) T rfl rfl rfl (by omega) (by show _ < (16 : Int); omega)).as (hexV16 (n := c % 16) (by omega))) rfl) ?_
          refine RAny.two 4 8 (bl 13 255) (bl 13 495) rfl rfl (by kernel_rfl) rfl rfl (by decide) (by decide) (Eff.yv (Yv.load 0 T rfl rfl rfl rfl) ⟨fun _ _ => trivial, ?_⟩) (Eff.lit T rfl rfl rfl (by decide) (by decide) rfl rfl rfl rfl rfl fun bq => ⟨fun _ _ => trivial, ?_⟩)
          skip
          · skip
            skip
            refine RAny.on 8 (bl 13 511) rfl (by kernel_rfl) rfl (by decide) (Eff.lit T rfl rfl rfl (by decide) (by decide) rfl rfl rfl rfl rfl fun bq => ⟨fun _ _ => trivial, ?_⟩)
            refine RAny.on 9 (bl 13 1023) rfl (by kernel_rfl) rfl (by decide) (Eff.appLit [hexD (c % 16)] (N := [(w, _)]) btB hB3 rfl rfl rfl rfl rfl (by simp only [List.length_append, List.length_cons, List.length_nil] at *; omega) fun v4 M4 hB4 => ⟨fun _ _ => trivial, ?_⟩)
            refine RAny.perm (L' := (w, _) :: M4) (perm_of_count fun x => by simp only [List.count_append, List.count_cons, List.count_nil, Nat.add_zero, Nat.zero_add] <;> ac_rfl) ?_
            obtain ⟨A4, c4, rfl⟩ := hB4.isSl
            refine RAny.tk 10 (bl 13 2047) rfl (by kernel_rfl) (by decide) (fun _ _ => trivial) (Yld.eval T rfl rfl) ?_
            refine RAny.tk 11 (bl 13 4095) rfl (by kernel_rfl) (by decide) (fun _ _ => trivial) (Yld.eval T rfl rfl) ?_
            refine RAny.os 12 (bl 13 8191) rfl (by kernel_rfl) rfl (Eff.store 0 rfl rfl rfl rfl (T.sizeOk rfl) rfl (Nat.le_of_ble_eq_true rfl) rfl rfl ⟨fun _ _ => trivial, ?_⟩)
            refine RAny.done _ (by kernel_rfl) ?_
            repeat (first | refine Run.inBlock ?_)
            refine Run.regionO (D := [some 179, some 180, some 181, some 1]) [true, true, true, true] rfl rfl rfl (fun Z hZ => ?_)
            refine QD.ev T (by decide) rfl rfl ?_
            refine QD.ev T (by decide) rfl rfl ?_
            refine QD.e ((Ev.cutSLo (j := ((encR (c : Int)).length : Int)) T rfl rfl rfl (by omega) (by rw [List.length_append]; omega)).as (show _ = str (encs rest) from congrArg str (by rw [Int.toNat_natCast, List.drop_left]))) (by decide) rfl ?_
            refine QD.ev T (by decide) rfl rfl ?_
            refine QD.nil (hZ _ ?_)
            clear hZ Z
            repeat (first | refine Run.inBlock ?_)
            refine Run.keep [0, 1] [_, _] rfl ?_
            exact ih rest.length _ _ _ (by simp only [List.length_cons]; omega) ⟨u ++ [c], rest, _, M4, rfl, by simp, (by rw [List.flatMap_append, List.flatMap_singleton, hq, ← List.append_assoc, ← List.append_assoc]; exact hB4), rfl, rfl, hle.trans l1⟩
          · skip
            skip
            skip
            refine RAny.on 4 (bl 13 511) rfl (by kernel_rfl) rfl (by decide) (Eff.yv (Yv.load 1 T rfl rfl rfl rfl) ⟨fun _ _ => trivial, ?_⟩)
            refine RAny.on 9 (bl 13 1023) rfl (by kernel_rfl) rfl (by decide) (Eff.appLit [hexD (c % 16)] (N := [(w, _)]) btB hB3 rfl rfl rfl rfl rfl (by simp only [List.length_append, List.length_cons, List.length_nil] at *; omega) fun v4 M4 hB4 => ⟨fun _ _ => trivial, ?_⟩)
            refine RAny.perm (L' := (w, _) :: M4) (perm_of_count fun x => by simp only [List.count_append, List.count_cons, List.count_nil, Nat.add_zero, Nat.zero_add] <;> ac_rfl) ?_
            obtain ⟨A4, c4, rfl⟩ := hB4.isSl
            refine RAny.tk 10 (bl 13 2047) rfl (by kernel_rfl) (by decide) (fun _ _ => trivial) (Yld.eval T rfl rfl) ?_
            refine RAny.tk 11 (bl 13 4095) rfl (by kernel_rfl) (by decide) (fun _ _ => trivial) (Yld.eval T rfl rfl) ?_
            refine RAny.os 12 (bl 13 8191) rfl (by kernel_rfl) rfl (Eff.store 0 rfl rfl rfl rfl (T.sizeOk rfl) rfl (Nat.le_of_ble_eq_true rfl) rfl rfl ⟨fun _ _ => trivial, ?_⟩)
            refine RAny.done _ (by kernel_rfl) ?_
            repeat (first | refine Run.inBlock ?_)
            refine Run.regionO (D := [some 179, some 180, some 181, some 1]) [true, true, true, true] rfl rfl rfl (fun Z hZ => ?_)
            refine QD.ev T (by decide) rfl rfl ?_
            refine QD.ev T (by decide) rfl rfl ?_
            refine QD.e ((Ev.cutSLo (j := ((encR (c : Int)).length : Int)) T rfl rfl rfl (by omega) (by rw [List.length_append]; omega)).as (show _ = str (encs rest) from congrArg str (by rw [Int.toNat_natCast, List.drop_left]))) (by decide) rfl ?_
            refine QD.ev T (by decide) rfl rfl ?_
            refine QD.nil (hZ _ ?_)
            clear hZ Z
            repeat (first | refine Run.inBlock ?_)
            refine Run.keep [0, 1] [_, _] rfl ?_
            exact ih rest.length _ _ _ (by simp only [List.length_cons]; omega) ⟨u ++ [c], rest, _, M4, rfl, by simp, (by rw [List.flatMap_append, List.flatMap_singleton, hq, ← List.append_assoc, ← List.append_assoc]; exact hB4), rfl, rfl, hle.trans l1⟩
        · skip
          refine Run.regionO (D := [some 153, some 154, some 155, some 156, some 157, some 158, some 152]) [true, true, true, true, true, true, true] rfl rfl rfl (fun Z hZ => ?_)
          refine QD.ev T (by decide) rfl rfl ?_
          refine QD.e ((Ev.eqlI rfl rfl).as (show _ = Value.bool false from congrArg Value.bool (decide_eq_false (by omega)))) (by decide) rfl ?_
          refine QD.ev T (by decide) rfl rfl ?_
          first | refine QD.ev T (by decide) rfl rfl ?_ | refine QD.off (by decide) rfl ?_
          refine QD.e ((Ev.eqlI rfl rfl).as (show _ = Value.bool true from congrArg Value.bool (decide_eq_true (by omega)))) (by decide) rfl ?_
          refine QD.ev T (by decide) rfl rfl ?_
          refine QD.ev T (by decide) rfl rfl ?_
          refine QD.nil (hZ _ ?_)
          clear hZ Z
          repeat (first | refine Run.seq ?_ | refine Run.cond_t rfl ?_)
          refine Run.regionP (D := [some 159, some 160, some 161, some 162, some 163, some 164, some 165, some 166, none]) [true, true, true, true, true] 5 rfl rfl rfl (by simp only [List.drop_succ_cons, List.drop_zero]; rfl) (fun Z hZ => ?_)
          refine QD.ev T (by decide) rfl rfl ?_
          refine QD.ev T (by decide) rfl rfl ?_
          refine QD.ev T (by decide) rfl rfl ?_
          refine QD.ev T (by decide) rfl rfl ?_
          first | refine QD.yv (by decide) rfl (Yv.load 0 T rfl rfl rfl rfl) ?_ | refine QD.yv (by decide) rfl (Yv.load 1 T rfl rfl rfl rfl) ?_ | refine QD.yv (by decide) rfl (Yv.load 2 T rfl rfl rfl rfl) ?_
          refine QD.nil (hZ _ ?_)
          clear hZ Z
          refine Ops.appBuf (M := M2) (N := [(w, _)]) (ys := [92, 117, 50, 48, 50]) btB hB2 rfl (by decide) rfl rfl (perm_of_count fun x => by simp only [List.count_append, List.count_cons, List.count_nil, Nat.add_zero, Nat.zero_add] <;> ac_rfl) (fun W hi => src_str rfl W) (by simp only [List.length_append, List.length_cons, List.length_nil] at *; omega) fun v3 M3 hB3 => ?_
          refine Ops.perm (L' := (w, _) :: M3) (perm_of_count fun x => by simp only [List.count_append, List.count_cons, List.count_nil, Nat.add_zero, Nat.zero_add] <;> ac_rfl) ?_
          obtain ⟨A3, c3, rfl⟩ := hB3.isSl
          refine Ops.pure T rfl (by decide) rfl ?_
          refine Ops.pure T rfl (by decide) rfl ?_
          first | refine Ops.store 0 rfl rfl rfl rfl rfl (T.sizeOk rfl) rfl (Nat.le_of_ble_eq_true rfl) rfl rfl ?_ | refine Ops.store 1 rfl rfl rfl rfl rfl (T.sizeOk rfl) rfl (Nat.le_of_ble_eq_true rfl) rfl rfl ?_ | refine Ops.store 2 rfl rfl rfl rfl rfl (T.sizeOk rfl) rfl (Nat.le_of_ble_eq_true rfl) rfl rfl ?_
          refine Ops.nil ?_
          skip
          refine Run.regionAny (fun _ => True) (bl 13 0) (by kernel_rfl) (by kernel_rfl) ?_
          refine RAny.tk 0 (bl 13 1) rfl (by kernel_rfl) (by decide) (fun _ _ => trivial) (Yld.eval T rfl rfl) ?_
          refine RAny.tk 1 (bl 13 3) rfl (by kernel_rfl) (by decide) (fun _ _ => trivial) (Yld.eval T rfl rfl) ?_
          refine RAny.tk 2 (bl 13 7) rfl (by kernel_rfl) (by decide) (fun _ _ => trivial) (Yld.eval T rfl rfl) ?_
          refine RAny.tk 3 (bl 13 15) rfl (by kernel_rfl) (by decide) (fun _ _ => trivial) (Yld.eval T rfl rfl) ?_
          refine RAny.tk 5 (bl 13 47) rfl (by kernel_rfl) (by decide) (fun _ _ => trivial) (Yld.eval T rfl rfl) ?_
          refine RAny.tk 6 (bl 13 111) rfl (by kernel_rfl) (by decide) (fun _ _ => trivial) (Yld.ev (Ev.andK (b := 15) (c := c % 16) rfl rfl (by show _ < 4294967296; omega) (by decide) (and15 _) (wrapI32 (by omega) (by omega))) rfl) ?_
          refine RAny.tk 7 (bl 13 239) rfl (by kernel_rfl) (by decide) (fun _ _ => trivial) (Yld.ev ((Ev.indexT (s := hexT) T rfl rfl rfl (by omega) (by show _ < (16 : Int); omega)).as (hexV16 (n := c % 16) (by omega))) rfl) ?_
          refine RAny.two 4 8 (bl 13 255) (bl 13 495) rfl rfl (by kernel_rfl) rfl rfl (by decide) (by decide) (Eff.yv (Yv.load 0 T rfl rfl rfl rfl) ⟨fun _ _ => trivial, ?_⟩) (Eff.lit T rfl rfl rfl (by decide) (by decide) rfl rfl rfl rfl rfl fun bq => ⟨fun _ _ => trivial, ?_⟩)
          skip
          · skip
            skip
            refine RAny.on 8 (bl 13 511) rfl (by kernel_rfl) rfl (by decide) (Eff.lit T rfl rfl rfl (by decide) (by decide) rfl rfl rfl rfl rfl fun bq => ⟨fun _ _ => trivial, ?_⟩)
            refine RAny.on 9 (bl 13 1023) rfl (by kernel_rfl) rfl (by decide) (Eff.appLit [hexD (c % 16)] (N := [(w, _)]) btB hB3 rfl rfl rfl rfl rfl (by simp only [List.length_append, List.length_cons, List.length_nil] at *; omega) fun v4 M4 hB4 => ⟨fun _ _ => trivial, ?_⟩)
            refine RAny.perm (L' := (w, _) :: M4) (perm_of_count fun x => by simp only [List.count_append, List.count_cons, List.count_nil, Nat.add_zero, Nat.zero_add] <;> ac_rfl) ?_
            obtain ⟨A4, c4, rfl⟩ := hB4.isSl
            refine RAny.tk 10 (bl 13 2047) rfl (by kernel_rfl) (by decide) (fun _ _ => trivial) (Yld.eval T rfl rfl) ?_
            refine RAny.tk 11 (bl 13 4095) rfl (by kernel_rfl) (by decide) (fun _ _ => trivial) (Yld.eval T rfl rfl) ?_
            refine RAny.os 12 (bl 13 8191) rfl (by kernel_rfl) rfl (Eff.store 0 rfl rfl rfl rfl (T.sizeOk rfl) rfl (Nat.le_of_ble_eq_true rfl) rfl rfl ⟨fun _ _ => trivial, ?_⟩)
            refine RAny.done _ (by kernel_rfl) ?_
            repeat (first | refine Run.inBlock ?_)
            refine Run.regionO (D := [some 179, some 180, some 181, some 1]) [true, true, true, true] rfl rfl rfl (fun Z hZ => ?_)
            refine QD.ev T (by decide) rfl rfl ?_
            refine QD.ev T (by decide) rfl rfl ?_
            refine QD.e ((Ev.cutSLo (j := ((encR (c : Int)).length : Int)) T rfl rfl rfl (by omega) (by rw [List.length_append]; omega)).as (show _ = str (encs rest) from congrArg str (by rw [Int.toNat_natCast, List.drop_left]))) (by decide) rfl ?_
            refine QD.ev T (by decide) rfl rfl ?_
            refine QD.nil (hZ _ ?_)
            clear hZ Z
            repeat (first | refine Run.inBlock ?_)
            refine Run.keep [0, 1] [_, _] rfl ?_
            exact ih rest.length _ _ _ (by simp only [List.length_cons]; omega) ⟨u ++ [c], rest, _, M4, rfl, by simp, (by rw [List.flatMap_append, List.flatMap_singleton, hq, ← List.append_assoc, ← List.append_assoc]; exact hB4), rfl, rfl, hle.trans l1⟩
          · skip
            skip
            skip
            refine RAny.on 4 (bl 13 511) rfl (by kernel_rfl) rfl (by decide) (Eff.yv (Yv.load 1 T rfl rfl rfl rfl) ⟨fun _ _ => trivial, ?_⟩)
            refine RAny.on 9 (bl 13 1023) rfl (by kernel_rfl) rfl (by decide) (Eff.appLit [hexD (c % 16)] (N := [(w, _)]) btB hB3 rfl rfl rfl rfl rfl (by simp only [List.length_append, List.length_cons, List.length_nil] at *; omega) fun v4 M4 hB4 => ⟨fun _ _ => trivial, ?_⟩)
            refine RAny.perm (L' := (w, _) :: M4) (perm_of_count fun x => by simp only [List.count_append, List.count_cons, List.count_nil, Nat.add_zero, Nat.zero_add] <;> ac_rfl) ?_
            obtain ⟨A4, c4, rfl⟩ := hB4.isSl
            refine RAny.tk 10 (bl 13 2047) rfl (by kernel_rfl) (by decide) (fun _ _ => trivial) (Yld.eval T rfl rfl) ?_
            refine RAny.tk 11 (bl 13 4095) rfl (by kernel_rfl) (by decide) (fun _ _ => trivial) (Yld.eval T rfl rfl) ?_
            refine RAny.os 12 (bl 13 8191) rfl (by kernel_rfl) rfl (Eff.store 0 rfl rfl rfl rfl (T.sizeOk rfl) rfl (Nat.le_of_ble_eq_true rfl) rfl rfl ⟨fun _ _ => trivial, ?_⟩)
            refine RAny.done _ (by kernel_rfl) ?_
            repeat (first | refine Run.inBlock ?_)
            refine Run.regionO (D := [some 179, some 180, some 181, some 1]) [true, true, true, true] rfl rfl rfl (fun Z hZ => ?_)
            refine QD.ev T (by decide) rfl rfl ?_
            refine QD.ev T (by decide) rfl rfl ?_
            refine QD.e ((Ev.cutSLo (j := ((encR (c : Int)).length : Int)) T rfl rfl rfl (by omega) (by rw [List.length_append]; omega)).as (show _ = str (encs rest) from congrArg str (by rw [Int.toNat_natCast, List.drop_left]))) (by decide) rfl ?_
            refine QD.ev T (by decide) rfl rfl ?_
            refine QD.nil (hZ _ ?_)
            clear hZ Z
            repeat (first | refine Run.inBlock ?_)
            refine Run.keep [0, 1] [_, _] rfl ?_
            exact ih rest.length _ _ _ (by simp only [List.length_cons]; omega) ⟨u ++ [c], rest, _, M4, rfl, by simp, (by rw [List.flatMap_append, List.flatMap_singleton, hq, ← List.append_assoc, ← List.append_assoc]; exact hB4), rfl, rfl, hle.trans l1⟩
    · have hq : quo1 c = encR (c : Int) := by unfold quo1; rw [if_neg h34, if_neg h8, if_neg h12, if_neg h10, if_neg h13, if_neg h9, if_neg hx]
      refine Run.regionO (D := [some 108, some 109, some 110, some 111, some 112, some 113, some 114, some 115, some 116, some 117, some 118, some 119, some 120, some 121, some 107]) [true, true, true, true, true, true, true, true, true, true, true, true, true, true, true] rfl rfl rfl (fun Z hZ => ?_)
      refine QD.ev T (by decide) rfl rfl ?_
      refine QD.e ((Ev.lss rfl rfl).as (show _ = Value.bool false from congrArg Value.bool (decide_eq_false (by omega)))) (by decide) rfl ?_
      refine QD.ev T (by decide) rfl rfl ?_
      first | refine QD.ev T (by decide) rfl rfl ?_ | refine QD.off (by decide) rfl ?_
      refine QD.e ((Ev.eqlI rfl rfl).as (show _ = Value.bool false from congrArg Value.bool (decide_eq_false (by omega)))) (by decide) rfl ?_
      refine QD.ev T (by decide) rfl rfl ?_
      refine QD.ev T (by decide) rfl rfl ?_
      first | refine QD.ev T (by decide) rfl rfl ?_ | refine QD.off (by decide) rfl ?_
      refine QD.e ((Ev.eqlI rfl rfl).as (show _ = Value.bool false from congrArg Value.bool (decide_eq_false (by omega)))) (by decide) rfl ?_
      refine QD.ev T (by decide) rfl rfl ?_
      refine QD.ev T (by decide) rfl rfl ?_
      first | refine QD.ev T (by decide) rfl rfl ?_ | refine QD.off (by decide) rfl ?_
      refine QD.e ((Ev.eqlI rfl rfl).as (show _ = Value.bool false from congrArg Value.bool (decide_eq_false (by omega)))) (by decide) rfl ?_
      refine QD.ev T (by decide) rfl rfl ?_
      refine QD.ev T (by decide) rfl rfl ?_
      refine QD.nil (hZ _ ?_)
      clear hZ Z
      repeat (first | refine Run.seq ?_ | refine Run.cond_f rfl ?_)
      by_cases hfd : c = 65533
      · have h3l : (encR (c : Int)).length = 3 := by rw [hlen, if_neg (by omega), if_neg (by omega), if_pos (by omega)]
        refine Run.regionO (D := [some 138, some 139, some 140, some 141, some 142, some 143, some 137]) [true, true, true, true, true, true, true] rfl rfl rfl (fun Z hZ => ?_)
        refine QD.ev T (by decide) rfl rfl ?_
        refine QD.e ((Ev.eqlI rfl rfl).as (show _ = Value.bool true from congrArg Value.bool (decide_eq_true (by omega)))) (by decide) rfl ?_
        refine QD.ev T (by decide) rfl rfl ?_
        first | refine QD.ev T (by decide) rfl rfl ?_ | refine QD.off (by decide) rfl ?_
        refine QD.e ((Ev.eqlI rfl rfl).as (show _ = Value.bool false from congrArg Value.bool (decide_eq_false (by omega)))) (by decide) rfl ?_
        refine QD.ev T (by decide) rfl rfl ?_
        refine QD.ev T (by decide) rfl rfl ?_
        refine QD.nil (hZ _ ?_)
        clear hZ Z
        repeat (first | refine Run.seq ?_ | refine Run.cond_f rfl ?_)
        refine Run.regionO (D := [some 153, some 154, some 155, some 156, some 157, some 158, some 152]) [true, true, true, true, true, true, true] rfl rfl rfl (fun Z hZ => ?_)
        refine QD.ev T (by decide) rfl rfl ?_
        refine QD.e ((Ev.eqlI rfl rfl).as (show _ = Value.bool false from congrArg Value.bool (decide_eq_false (by omega)))) (by decide) rfl ?_
        refine QD.ev T (by decide) rfl rfl ?_
        first | refine QD.ev T (by decide) rfl rfl ?_ | refine QD.off (by decide) rfl ?_
        refine QD.e ((Ev.eqlI rfl rfl).as (show _ = Value.bool false from congrArg Value.bool (decide_eq_false (by omega)))) (by decide) rfl ?_
        refine QD.ev T (by decide) rfl rfl ?_
        refine QD.ev T (by decide) rfl rfl ?_
        refine QD.nil (hZ _ ?_)
        clear hZ Z
        repeat (first | refine Run.cond_f rfl ?_)
        refine Run.regionAny (fun _ => True) (bl 12 0) (by kernel_rfl) (by kernel_rfl) ?_
        refine RAny.tk 0 (bl 12 1) rfl (by kernel_rfl) (by decide) (fun _ _ => trivial) (Yld.eval T rfl rfl) ?_
        refine RAny.tk 1 (bl 12 3) rfl (by kernel_rfl) (by decide) (fun _ _ => trivial) (Yld.eval T rfl rfl) ?_
        refine RAny.tk 2 (bl 12 7) rfl (by kernel_rfl) (by decide) (fun _ _ => trivial) (Yld.eval T rfl rfl) ?_
        refine RAny.tk 3 (bl 12 15) rfl (by kernel_rfl) (by decide) (fun _ _ => trivial) (Yld.eval T rfl rfl) ?_
        refine RAny.tk 5 (bl 12 47) rfl (by kernel_rfl) (by decide) (fun _ _ => trivial) (Yld.eval T rfl rfl) ?_
        refine RAny.tk 6 (bl 12 111) rfl (by kernel_rfl) (by decide) (fun _ _ => trivial) (Yld.eval T rfl rfl) ?_
        refine RAny.tk 7 (bl 12 239) rfl (by kernel_rfl) (by decide) (fun _ _ => trivial) (Yld.ev ((Ev.cutSHi T rfl rfl rfl (by omega) (by rw [List.length_append]; omega)).as (show _ = str (encR (c : Int)) from congrArg str (by rw [Int.toNat_natCast, List.take_left]))) rfl) ?_
        refine RAny.on 4 (bl 12 255) rfl (by kernel_rfl) rfl (by decide) (Eff.yv (Yv.load 0 T rfl rfl rfl rfl) ⟨fun _ _ => trivial, ?_⟩)
        refine RAny.on 8 (bl 12 511) rfl (by kernel_rfl) rfl (by decide) (Eff.appBuf (M := M2) (N := [(w, _)]) (ys := encR (c : Int)) btB rfl rfl (perm_of_count fun x => by simp only [List.count_append, List.count_cons, List.count_nil, Nat.add_zero, Nat.zero_add] <;> ac_rfl) hB2 (fun W hi => src_str rfl W) (by simp only [List.length_append, List.length_cons, List.length_nil] at *; omega) fun v3 M3 hB3 => ⟨fun _ _ => trivial, ?_⟩)
        refine RAny.perm (L' := (w, _) :: M3) (perm_of_count fun x => by simp only [List.count_append, List.count_cons, List.count_nil, Nat.add_zero, Nat.zero_add] <;> ac_rfl) ?_
        obtain ⟨A3, c3, rfl⟩ := hB3.isSl
        refine RAny.tk 9 (bl 12 1023) rfl (by kernel_rfl) (by decide) (fun _ _ => trivial) (Yld.eval T rfl rfl) ?_
        refine RAny.tk 10 (bl 12 2047) rfl (by kernel_rfl) (by decide) (fun _ _ => trivial) (Yld.eval T rfl rfl) ?_
        refine RAny.os 11 (bl 12 4095) rfl (by kernel_rfl) rfl (Eff.store 0 rfl rfl rfl rfl (T.sizeOk rfl) rfl (Nat.le_of_ble_eq_true rfl) rfl rfl ⟨fun _ _ => trivial, ?_⟩)
        refine RAny.done _ (by kernel_rfl) ?_
        repeat (first | refine Run.inBlock ?_)
        refine Run.regionO (D := [some 179, some 180, some 181, some 1]) [true, true, true, true] rfl rfl rfl (fun Z hZ => ?_)
        refine QD.ev T (by decide) rfl rfl ?_
        refine QD.ev T (by decide) rfl rfl ?_
        refine QD.e ((Ev.cutSLo (j := ((encR (c : Int)).length : Int)) T rfl rfl rfl (by omega) (by rw [List.length_append]; omega)).as (show _ = str (encs rest) from congrArg str (by rw [Int.toNat_natCast, List.drop_left]))) (by decide) rfl ?_
        refine QD.ev T (by decide) rfl rfl ?_
        refine QD.nil (hZ _ ?_)
        clear hZ Z
        repeat (first | refine Run.inBlock ?_)
        refine Run.keep [0, 1] [_, _] rfl ?_
        exact ih rest.length _ _ _ (by simp only [List.length_cons]; omega) ⟨u ++ [c], rest, _, M3, rfl, by simp, (by rw [List.flatMap_append, List.flatMap_singleton, hq, ← List.append_assoc]; exact hB3), rfl, rfl, hle.trans l1⟩
      · skip
        refine Run.regionO (D := [some 138, some 139, some 140, some 141, some 142, some 143, some 137]) [true, true, true, true, true, true, true] rfl rfl rfl (fun Z hZ => ?_)
        refine QD.ev T (by decide) rfl rfl ?_
        refine QD.e ((Ev.eqlI rfl rfl).as (show _ = Value.bool false from congrArg Value.bool (decide_eq_false (by omega)))) (by decide) rfl ?_
        refine QD.ev T (by decide) rfl rfl ?_
        first | refine QD.ev T (by decide) rfl rfl ?_ | refine QD.off (by decide) rfl ?_
        first | refine QD.e (Ev.eqlI rfl rfl) (by decide) rfl ?_ | refine QD.off (by decide) rfl ?_
        refine QD.ev T (by decide) rfl rfl ?_
        refine QD.ev T (by decide) rfl rfl ?_
        refine QD.nil (hZ _ ?_)
        clear hZ Z
        repeat (first | refine Run.seq ?_ | refine Run.cond_f rfl ?_)
        refine Run.regionO (D := [some 153, some 154, some 155, some 156, some 157, some 158, some 152]) [true, true, true, true, true, true, true] rfl rfl rfl (fun Z hZ => ?_)
        refine QD.ev T (by decide) rfl rfl ?_
        refine QD.e ((Ev.eqlI rfl rfl).as (show _ = Value.bool false from congrArg Value.bool (decide_eq_false (by omega)))) (by decide) rfl ?_
        refine QD.ev T (by decide) rfl rfl ?_
        first | refine QD.ev T (by decide) rfl rfl ?_ | refine QD.off (by decide) rfl ?_
        refine QD.e ((Ev.eqlI rfl rfl).as (show _ = Value.bool false from congrArg Value.bool (decide_eq_false (by omega)))) (by decide) rfl ?_
        refine QD.ev T (by decide) rfl rfl ?_
        refine QD.ev T (by decide) rfl rfl ?_
        refine QD.nil (hZ _ ?_)
        clear hZ Z
        repeat (first | refine Run.cond_f rfl ?_)
        refine Run.regionAny (fun _ => True) (bl 12 0) (by kernel_rfl) (by kernel_rfl) ?_
        refine RAny.tk 0 (bl 12 1) rfl (by kernel_rfl) (by decide) (fun _ _ => trivial) (Yld.eval T rfl rfl) ?_
        refine RAny.tk 1 (bl 12 3) rfl (by kernel_rfl) (by decide) (fun _ _ => trivial) (Yld.eval T rfl rfl) ?_
        refine RAny.tk 2 (bl 12 7) rfl (by kernel_rfl) (by decide) (fun _ _ => trivial) (Yld.eval T rfl rfl) ?_
        refine RAny.tk 3 (bl 12 15) rfl (by kernel_rfl) (by decide) (fun _ _ => trivial) (Yld.eval T rfl rfl) ?_
        refine RAny.tk 5 (bl 12 47) rfl (by kernel_rfl) (by decide) (fun _ _ => trivial) (Yld.eval T rfl rfl) ?_
        refine RAny.tk 6 (bl 12 111) rfl (by kernel_rfl) (by decide) (fun _ _ => trivial) (Yld.eval T rfl rfl) ?_
        refine RAny.tk 7 (bl 12 239) rfl (by kernel_rfl) (by decide) (fun _ _ => trivial) (Yld.ev ((Ev.cutSHi T rfl rfl rfl (by omega) (by rw [List.length_append]; omega)).as (show _ = str (encR (c : Int)) from congrArg str (by rw [Int.toNat_natCast, List.take_left]))) rfl) ?_
        refine RAny.on 4 (bl 12 255) rfl (by kernel_rfl) rfl (by decide) (Eff.yv (Yv.load 0 T rfl rfl rfl rfl) ⟨fun _ _ => trivial, ?_⟩)
        refine RAny.on 8 (bl 12 511) rfl (by kernel_rfl) rfl (by decide) (Eff.appBuf (M := M2) (N := [(w, _)]) (ys := encR (c : Int)) btB rfl rfl (perm_of_count fun x => by simp only [List.count_append, List.count_cons, List.count_nil, Nat.add_zero, Nat.zero_add] <;> ac_rfl) hB2 (fun W hi => src_str rfl W) (by simp only [List.length_append, List.length_cons, List.length_nil] at *; omega) fun v3 M3 hB3 => ⟨fun _ _ => trivial, ?_⟩)
        refine RAny.perm (L' := (w, _) :: M3) (perm_of_count fun x => by simp only [List.count_append, List.count_cons, List.count_nil, Nat.add_zero, Nat.zero_add] <;> ac_rfl) ?_
        obtain ⟨A3, c3, rfl⟩ := hB3.isSl
        refine RAny.tk 9 (bl 12 1023) rfl (by kernel_rfl) (by decide) (fun _ _ => trivial) (Yld.eval T rfl rfl) ?_
        refine RAny.tk 10 (bl 12 2047) rfl (by kernel_rfl) (by decide) (fun _ _ => trivial) (Yld.eval T rfl rfl) ?_
        refine RAny.os 11 (bl 12 4095) rfl (by kernel_rfl) rfl (Eff.store 0 rfl rfl rfl rfl (T.sizeOk rfl) rfl (Nat.le_of_ble_eq_true rfl) rfl rfl ⟨fun _ _ => trivial, ?_⟩)
        refine RAny.done _ (by kernel_rfl) ?_
        repeat (first | refine Run.inBlock ?_)
        refine Run.regionO (D := [some 179, some 180, some 181, some 1]) [true, true, true, true] rfl rfl rfl (fun Z hZ => ?_)
        refine QD.ev T (by decide) rfl rfl ?_
        refine QD.ev T (by decide) rfl rfl ?_
        refine QD.e ((Ev.cutSLo (j := ((encR (c : Int)).length : Int)) T rfl rfl rfl (by omega) (by rw [List.length_append]; omega)).as (show _ = str (encs rest) from congrArg str (by rw [Int.toNat_natCast, List.drop_left]))) (by decide) rfl ?_
        refine QD.ev T (by decide) rfl rfl ?_
        refine QD.nil (hZ _ ?_)
        clear hZ Z
        repeat (first | refine Run.inBlock ?_)
        refine Run.keep [0, 1] [_, _] rfl ?_
        exact ih rest.length _ _ _ (by simp only [List.length_cons]; omega) ⟨u ++ [c], rest, _, M3, rfl, by simp, (by rw [List.flatMap_append, List.flatMap_singleton, hq, ← List.append_assoc]; exact hB3), rfl, rfl, hle.trans l1⟩
end Go.V
