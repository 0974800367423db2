import Derived.Test.YtcegjgmmbbojdaaGreatDoorAW
import Derived.Test.YtcegjgmmbbojdaaGreatDoorAM5
import Derived.Test.YtcegjgmmbbojdaaGreatDoorAM18
set_option linter.unusedVariables false
set_option linter.unusedSimpArgs false
namespace Go.V
open Go.Proofs.Tryz
open Go.RowKit
set_option maxRecDepth 10000
attribute [local irreducible] Run Ops QD
theorem Run.keepB {P : Program} {n : Nat} {C : Cx} {k : List Item} {env : Env} {I : Imm} {L M N : Own} {e : TypeId} {v : Value} {xs : Bs} (hG : Buf e v xs M) (hL : L.Perm (M ++ N)) (h : ∀ J, Le I J -> Sl tU8 J v xs -> Run P n C k env N J) : Run P n C k env L I := by
 rcases id hG with ⟨_, _, rfl⟩ | ⟨b, pre, post, cap, _, rfl, _⟩
 ·exact Run.perm hL (h I (Le.refl _) (hG.sl (fun _ _ h => by cases h)))
 ·exact Run.perm hL (Run.freeze fun J hle hJ => h J hle (hG.sl (fun b o hm => by cases List.mem_singleton.1 hm; exact hJ)))
def cls (ch n : Nat) : Prop := (65 <= ch /\ ch <= 90 /\ n = ch - 65) \/ (97 <= ch /\ ch <= 122 /\ n = ch - 71) \/ (48 <= ch /\ ch <= 57 /\ n = ch + 4) \/ (ch = 43 /\ n = 62) \/ (ch = 47 /\ n = 63)
instance (ch n : Nat) : Decidable (cls ch n) := by unfold cls; infer_instance
theorem cls_fin : ∀ k : Fin 64, cls (b64A.getD k.val 0).toNat k.val := by decide
theorem cls_c {n : Nat} (h : n < 64) : cls (b64c n).toNat n := by
 unfold b64c
 rw [Nat.mod_eq_of_lt h]; exact cls_fin ⟨n, h⟩
theorem shl8_2m (y : Nat) : IntKind.u8.wrap (((y : Nat) : Int) * 2 ^ (2 : Int).toNat) = ((y * 4 % 256 : Nat) : Int) := by
 show IntKind.u8.wrap (((y : Nat) : Int) * 4) = _
 rw [wrap8]; omega
theorem shl8_4m (y : Nat) : IntKind.u8.wrap (((y : Nat) : Int) * 2 ^ (4 : Int).toNat) = ((y * 16 % 256 : Nat) : Int) := by
 show IntKind.u8.wrap (((y : Nat) : Int) * 16) = _
 rw [wrap8]; omega
theorem shl8_6m (y : Nat) : IntKind.u8.wrap (((y : Nat) : Int) * 2 ^ (6 : Int).toNat) = ((y * 64 % 256 : Nat) : Int) := by
 show IntKind.u8.wrap (((y : Nat) : Int) * 64) = _
 rw [wrap8]; omega
def pd (r : Bs) (n : Nat) : Nat := n - (r.length + 1)
theorem four_eq {xs : List Value} {f : Nat -> Value} (hl : xs.length = 4) (h : ∀ j, j < 4 -> xs[j]? = some (f j)) : xs = [f 0, f 1, f 2, f 3] := by
 match xs, hl with
 | [a, b, c, d], _ =>
  have h0 := h 0 (by decide)
  have h1 := h 1 (by decide)
  have h2 := h 2 (by decide)
  have h3 := h 3 (by decide)
  simp only [List.getElem?_cons_zero, List.getElem?_cons_succ, Option.some.injEq] at h0 h1 h2 h3
  rw [h0, h1, h2, h3]
theorem setAt_oneB {xs : List Value} {n j : Nat} {w : Value} (hn : n < xs.length) : (setAt xs n [w])[j]? = if j = n then some w else xs[j]? := by
 have e : setAt xs n [w] = xs.set n w := by
  unfold setAt
  rw [List.set_eq_take_append_cons_drop, if_pos hn, List.append_assoc]; rfl
 rw [e, List.getElem?_set]
 by_cases h : n = j
 ·subst h; simp [hn]
 ·rw [if_neg h, if_neg fun e => h e.symm]
set_option maxHeartbeats 8000000 in
theorem zz_Unbase64 (I : Imm) (bs : Bs) (hne : bs ≠ []) (hl : bs.length <= 1099511627776) : Pure prog 129 [str (b64 bs)] I fun w J => ∃ v, w = .tuple #[v, .bool true] /\ Sl tU8 J v bs := by
 have hbl := b64_len bs
 generalize hs : b64 bs = s at *
 refine Spec.enter 142 [(0, _)] func129 rfl ntmps129 (by simp) rfl ?_
 intro C hCf hR hCI
 refine rS ?_
 refine rO (fun Z hZ => (eE rfl (eE rfl (zN hZ ((rS (Run.region (Ops.alloc rfl (by decide) (T.zeroOk rfl) rfl (fun b4 => (Ops.nil (rS (rO (fun Z hZ => (eE rfl (eE rfl (zN hZ ?_))))))))))))))))
 repeat refine rS ?_
 refine rO (fun Z hZ => (eE rfl (fE (Ev.lenS T rfl rfl) (eE rfl (zN hZ ((rB (Run.keep [0, 2, 4, 5, 6, 13, 14, 15] [_, _, _, _, _, _, _, _] rfl ?_))))))))
 refine Run.rounds (fun m env L J => ∃ (i n : Nat) (r out : Bs) (v2 : Value) (M : Own) (xs : List Value), m = s.length - i /\ n <= i /\ s.drop (i - n) = b64 r /\ n < 4 /\ (r = [] -> n = 0) /\ i <= s.length /\ out ++ r = bs /\ Buf 5 v2 out M /\ xs.length = 4 /\ (∀ j, j < n -> xs[j]? = some (.int .u8 (sx r j : Int))) /\
  env = [(0, str s), (2, v2), (4, .pointer (some ⟨b4, 0, none⟩)), (5, .int .i64 (n : Int)), (6, .int .i64 (pd r n : Int)), (13, str s), (14, .int .i64 (s.length : Int)), (15, .int .i64 (i : Int))] /\
  L = (b4, blk xs 226) :: M /\ I = J) s.length
  ⟨0, 0, bs, [], _, [], _, by omega, by omega, by rw [Nat.sub_self, List.drop_zero, hs], by omega, fun _ => rfl, by omega, rfl, Buf.nil _, rfl, fun j hj => absurd hj (Nat.not_lt_zero j), by unfold pd; rw [Nat.zero_sub]; rfl, rfl, rfl⟩ ?_
 rintro m env L J ⟨i, n, r, out, v2, M, xs, rfl, hni, hd, hn4, hr0, hi, hout, hB, hx4, hxs, rfl, rfl, rfl⟩ ih
 have hol : out.length <= 1099511627776 := by rw [<- hout, List.length_append] at hl; omega
 have hdl := congrArg List.length hd
 rw [List.length_drop, b64_len] at hdl
 obtain ⟨A2, c2, rfl⟩ := hB.isSl
 refine rS ?_
 by_cases hr : r = []
 ·subst hr
  obtain rfl := hr0 rfl
  have hob : out = bs := by rw [<- hout, List.append_nil]
  subst hob
  simp only [List.length_nil] at hdl
  rcases id hB with ⟨_, h0, _⟩ | ⟨b5, pre, post, cap, e5, _, _⟩
  ·exact absurd h0 hne
  cases e5
  refine rO (fun Z hZ => (fE ((Ev.lss rfl rfl).as (show _ = Value.bool false from congrArg Value.bool (decide_eq_false (by omega)))) (zN hZ ?_)))
  repeat (first | refine rS ?_ | refine Run.exit rfl ?_ | refine rF rfl ?_)
  refine rO (fun Z hZ => (eE rfl (fE (Ev.eqlNil T rfl rfl rfl rfl rfl) (zN hZ ?_))))
  repeat (first | refine rS ?_ | refine rK ?_ | refine rF rfl ?_)
  refine rO (fun Z hZ => (eE rfl (eE rfl (fE (Ev.eqlI rfl rfl) (eE rfl (eE rfl (fE (Ev.eqlI rfl rfl) (eE rfl (eE rfl (eE rfl (zN hZ ?_)))))))))))
  skip
  refine Run.keepB (M := M) (N := [(b4, _)]) hB (List.perm_append_comm (l₁ := [_]) (l₂ := M)) fun J5 l5 hv => ?_
  refine Run.fin (Run.ret2 (by rw [hCf]; exact func129) results129 rfl rfl (hR _ _ _ ?_))
  exact ⟨rfl, _, rfl, hv⟩
 have hrl := List.length_pos_iff.2 hr
 have hlt : i < s.length := by omega
 have hget : s.getD i 0 = if n <= r.length then b64c (sx r n) else 61 := by
  rw [<- b64_at hr hn4, <- hd, List.getD_eq_getElem?_getD, List.getD_eq_getElem?_getD, List.getElem?_drop, Nat.sub_add_cancel hni]
 obtain ⟨ch, hch⟩ : ∃ ch, (s.getD i 0).toNat = ch := ⟨_, rfl⟩
 have hS6 := sx_lt r n
 refine rO (fun Z hZ => (fE ((Ev.lss rfl rfl).as (show _ = Value.bool true from congrArg Value.bool (decide_eq_true (by omega)))) (zN hZ ?_)))
 repeat (first | refine rS ?_ | refine rK ?_ | refine rB ?_ | refine rT rfl ?_)
 refine rO (fun Z hZ => (eE rfl (eE rfl (zN hZ ((rS (rO (fun Z hZ => (eE rfl (eE rfl (fE ((Ev.indexT (s := s) T rfl rfl rfl (by omega) (by omega)).as (show _ = Value.int .u8 ((ch : Nat) : Int) from by show Value.int .u8 (((s.getD _ 0).toNat : Nat) : Int) = _; rw [show (((i : Nat) : Int)).toNat = i by omega, hch])) (eE rfl (zN hZ ((rS (rO (fun Z hZ => (eE rfl (zN hZ ((Run.keep [0, 2, 4, 5, 6, 7, 8, 9, 13, 14, 15] [_, _, _, _, _, _, _, _, _, _, _] rfl ?_)))))))))))))))))))))
 repeat (refine rS ?_)
 refine Run.piece (fun env L K => env = [(9, .int .u8 (sx r n : Int)), (0, str s), (2, .slice A2 out.length c2), (4, .pointer (some ⟨b4, 0, none⟩)), (5, .int .i64 (n : Int)), (6, .int .i64 (pd r (n + 1) : Int)), (7, .int .i64 (i : Int)), (13, str s), (14, .int .i64 (s.length : Int)), (15, .int .i64 (i : Int))] /\ L = (b4, blk xs 226) :: M /\ I = K) (fun k' fin => ?_) ?_
 ·refine rB ?_
  refine rS ?_
  by_cases hsg : n <= r.length
  ·rw [if_pos hsg] at hget
   have hcls := cls_c hS6
   rw [<- hget, hch] at hcls
   have p1 : pd r n = 0 := by unfold pd; omega
   have p2 : pd r (n + 1) = 0 := by unfold pd; omega
   rw [p2] at fin
   rw [p1]
   generalize hn : sx r n = f at *
   rcases hcls with hcls | hcls | hcls | hcls | hcls
   ·skip
    refine rO (fun Z hZ => (eE rfl (fE ((Ev.eqlI rfl rfl).as (show _ = Value.bool false from congrArg Value.bool (decide_eq_false (by omega)))) (eE rfl (eE rfl (fE ((Ev.eqlI rfl rfl).as (show _ = Value.bool false from congrArg Value.bool (decide_eq_false (by omega)))) (eE rfl (eE rfl (zN hZ ?_)))))))))
    repeat (first | refine rS ?_ | refine rF rfl ?_)
    refine rO (fun Z hZ => (eE rfl (fE ((Ev.eqlI rfl rfl).as (show _ = Value.bool false from congrArg Value.bool (decide_eq_false (by omega)))) (eE rfl (zN hZ ?_)))))
    repeat (first | refine rS ?_ | refine rF rfl ?_)
    refine rO (fun Z hZ => (eE rfl (fE (Ev.gtr rfl rfl) (eE rfl (zN hZ ?_)))))
    repeat (first | refine rS ?_ | refine rF rfl ?_)
    refine rO (fun Z hZ => (eE rfl (fE ((Ev.geq rfl rfl).as (show _ = Value.bool true from congrArg Value.bool (decide_eq_true (by omega)))) (eE rfl (eE rfl (fE ((Ev.leq rfl rfl).as (show _ = Value.bool true from congrArg Value.bool (decide_eq_true (by omega)))) (eE rfl (eE rfl (zN hZ ((rT rfl (rO (fun Z hZ => (eE rfl (fE (Ev.subK (r := (f : Int)) rfl rfl (by rw [wrap8]; omega)) (eE rfl (zN hZ ((rI (Run.keep [9, 0, 2, 4, 5, 6, 7, 13, 14, 15] [_, _, _, _, _, _, _, _, _, _] rfl ?_))))))))))))))))))))
    exact fin _ _ _ ⟨rfl, rfl, rfl⟩
   ·skip
    refine rO (fun Z hZ => (eE rfl (fE ((Ev.eqlI rfl rfl).as (show _ = Value.bool false from congrArg Value.bool (decide_eq_false (by omega)))) (eE rfl (eE rfl (fE ((Ev.eqlI rfl rfl).as (show _ = Value.bool false from congrArg Value.bool (decide_eq_false (by omega)))) (eE rfl (eE rfl (zN hZ ?_)))))))))
    repeat (first | refine rS ?_ | refine rF rfl ?_)
    refine rO (fun Z hZ => (eE rfl (fE ((Ev.eqlI rfl rfl).as (show _ = Value.bool false from congrArg Value.bool (decide_eq_false (by omega)))) (eE rfl (zN hZ ?_)))))
    repeat (first | refine rS ?_ | refine rF rfl ?_)
    refine rO (fun Z hZ => (eE rfl (fE (Ev.gtr rfl rfl) (eE rfl (zN hZ ?_)))))
    repeat (first | refine rS ?_ | refine rF rfl ?_)
    refine rO (fun Z hZ => (eE rfl (fE ((Ev.geq rfl rfl).as (show _ = Value.bool true from congrArg Value.bool (decide_eq_true (by omega)))) (eE rfl (eE rfl (fE ((Ev.leq rfl rfl).as (show _ = Value.bool false from congrArg Value.bool (decide_eq_false (by omega)))) (eE rfl (eE rfl (zN hZ ?_)))))))))
    repeat (first | refine rS ?_ | refine rF rfl ?_)
    refine rO (fun Z hZ => (eE rfl (fE ((Ev.geq rfl rfl).as (show _ = Value.bool true from congrArg Value.bool (decide_eq_true (by omega)))) (eE rfl (eE rfl (fE ((Ev.leq rfl rfl).as (show _ = Value.bool true from congrArg Value.bool (decide_eq_true (by omega)))) (eE rfl (eE rfl (zN hZ ((rT rfl (rO (fun Z hZ => (eE rfl (fE (Ev.subK (r := ((ch - 97 : Nat) : Int)) rfl rfl (by rw [wrap8]; omega)) (fE (Ev.addK (r := (f : Int)) rfl rfl (by rw [wrap8]; omega)) (eE rfl (zN hZ ((rI (Run.keep [9, 0, 2, 4, 5, 6, 7, 13, 14, 15] [_, _, _, _, _, _, _, _, _, _] rfl ?_)))))))))))))))))))))
    exact fin _ _ _ ⟨rfl, rfl, rfl⟩
   ·skip
    refine rO (fun Z hZ => (eE rfl (fE ((Ev.eqlI rfl rfl).as (show _ = Value.bool false from congrArg Value.bool (decide_eq_false (by omega)))) (eE rfl (eE rfl (fE ((Ev.eqlI rfl rfl).as (show _ = Value.bool false from congrArg Value.bool (decide_eq_false (by omega)))) (eE rfl (eE rfl (zN hZ ?_)))))))))
    repeat (first | refine rS ?_ | refine rF rfl ?_)
    refine rO (fun Z hZ => (eE rfl (fE ((Ev.eqlI rfl rfl).as (show _ = Value.bool false from congrArg Value.bool (decide_eq_false (by omega)))) (eE rfl (zN hZ ?_)))))
    repeat (first | refine rS ?_ | refine rF rfl ?_)
    refine rO (fun Z hZ => (eE rfl (fE (Ev.gtr rfl rfl) (eE rfl (zN hZ ?_)))))
    repeat (first | refine rS ?_ | refine rF rfl ?_)
    refine rO (fun Z hZ => (eE rfl (fE ((Ev.geq rfl rfl).as (show _ = Value.bool false from congrArg Value.bool (decide_eq_false (by omega)))) (eE rfl (oF (oF (eE rfl (eE rfl (zN hZ ?_)))))))))
    repeat (first | refine rS ?_ | refine rF rfl ?_)
    refine rO (fun Z hZ => (eE rfl (fE ((Ev.geq rfl rfl).as (show _ = Value.bool false from congrArg Value.bool (decide_eq_false (by omega)))) (eE rfl (oF (oF (eE rfl (eE rfl (zN hZ ?_)))))))))
    repeat (first | refine rS ?_ | refine rF rfl ?_)
    refine rO (fun Z hZ => (eE rfl (fE ((Ev.geq rfl rfl).as (show _ = Value.bool true from congrArg Value.bool (decide_eq_true (by omega)))) (eE rfl (eE rfl (fE ((Ev.leq rfl rfl).as (show _ = Value.bool true from congrArg Value.bool (decide_eq_true (by omega)))) (eE rfl (eE rfl (zN hZ ((rT rfl (rO (fun Z hZ => (eE rfl (fE (Ev.subK (r := ((ch - 48 : Nat) : Int)) rfl rfl (by rw [wrap8]; omega)) (fE (Ev.addK (r := (f : Int)) rfl rfl (by rw [wrap8]; omega)) (eE rfl (zN hZ ((rI (Run.keep [9, 0, 2, 4, 5, 6, 7, 13, 14, 15] [_, _, _, _, _, _, _, _, _, _] rfl ?_)))))))))))))))))))))
    exact fin _ _ _ ⟨rfl, rfl, rfl⟩
   ·obtain ⟨rfl, rfl⟩ := hcls
    refine rO (fun Z hZ => (eE rfl (fE ((Ev.eqlI rfl rfl).as (show _ = Value.bool false from congrArg Value.bool (decide_eq_false (by omega)))) (eE rfl (eE rfl (fE ((Ev.eqlI rfl rfl).as (show _ = Value.bool false from congrArg Value.bool (decide_eq_false (by omega)))) (eE rfl (eE rfl (zN hZ ?_)))))))))
    repeat (first | refine rS ?_ | refine rF rfl ?_)
    refine rO (fun Z hZ => (eE rfl (fE ((Ev.eqlI rfl rfl).as (show _ = Value.bool false from congrArg Value.bool (decide_eq_false (by omega)))) (eE rfl (zN hZ ?_)))))
    repeat (first | refine rS ?_ | refine rF rfl ?_)
    refine rO (fun Z hZ => (eE rfl (fE (Ev.gtr rfl rfl) (eE rfl (zN hZ ?_)))))
    repeat (first | refine rS ?_ | refine rF rfl ?_)
    refine rO (fun Z hZ => (eE rfl (fE ((Ev.geq rfl rfl).as (show _ = Value.bool false from congrArg Value.bool (decide_eq_false (by omega)))) (eE rfl (oF (oF (eE rfl (eE rfl (zN hZ ?_)))))))))
    repeat (first | refine rS ?_ | refine rF rfl ?_)
    refine rO (fun Z hZ => (eE rfl (fE ((Ev.geq rfl rfl).as (show _ = Value.bool false from congrArg Value.bool (decide_eq_false (by omega)))) (eE rfl (oF (oF (eE rfl (eE rfl (zN hZ ?_)))))))))
    repeat (first | refine rS ?_ | refine rF rfl ?_)
    refine rO (fun Z hZ => (eE rfl (fE ((Ev.geq rfl rfl).as (show _ = Value.bool false from congrArg Value.bool (decide_eq_false (by omega)))) (eE rfl (oF (oF (eE rfl (eE rfl (zN hZ ?_)))))))))
    repeat (first | refine rS ?_ | refine rF rfl ?_)
    refine rO (fun Z hZ => (eE rfl (fE (Ev.eqlI rfl rfl) (eE rfl (zN hZ ((rT rfl (rO (fun Z hZ => (eE rfl (zN hZ ((rI (Run.keep [9, 0, 2, 4, 5, 6, 7, 13, 14, 15] [_, _, _, _, _, _, _, _, _, _] rfl ?_))))))))))))))
    exact fin _ _ _ ⟨rfl, rfl, rfl⟩
   ·obtain ⟨rfl, rfl⟩ := hcls
    refine rO (fun Z hZ => (eE rfl (fE ((Ev.eqlI rfl rfl).as (show _ = Value.bool false from congrArg Value.bool (decide_eq_false (by omega)))) (eE rfl (eE rfl (fE ((Ev.eqlI rfl rfl).as (show _ = Value.bool false from congrArg Value.bool (decide_eq_false (by omega)))) (eE rfl (eE rfl (zN hZ ?_)))))))))
    repeat (first | refine rS ?_ | refine rF rfl ?_)
    refine rO (fun Z hZ => (eE rfl (fE ((Ev.eqlI rfl rfl).as (show _ = Value.bool false from congrArg Value.bool (decide_eq_false (by omega)))) (eE rfl (zN hZ ?_)))))
    repeat (first | refine rS ?_ | refine rF rfl ?_)
    refine rO (fun Z hZ => (eE rfl (fE (Ev.gtr rfl rfl) (eE rfl (zN hZ ?_)))))
    repeat (first | refine rS ?_ | refine rF rfl ?_)
    refine rO (fun Z hZ => (eE rfl (fE ((Ev.geq rfl rfl).as (show _ = Value.bool false from congrArg Value.bool (decide_eq_false (by omega)))) (eE rfl (oF (oF (eE rfl (eE rfl (zN hZ ?_)))))))))
    repeat (first | refine rS ?_ | refine rF rfl ?_)
    refine rO (fun Z hZ => (eE rfl (fE ((Ev.geq rfl rfl).as (show _ = Value.bool false from congrArg Value.bool (decide_eq_false (by omega)))) (eE rfl (oF (oF (eE rfl (eE rfl (zN hZ ?_)))))))))
    repeat (first | refine rS ?_ | refine rF rfl ?_)
    refine rO (fun Z hZ => (eE rfl (fE ((Ev.geq rfl rfl).as (show _ = Value.bool false from congrArg Value.bool (decide_eq_false (by omega)))) (eE rfl (oF (oF (eE rfl (eE rfl (zN hZ ?_)))))))))
    repeat (first | refine rS ?_ | refine rF rfl ?_)
    refine rO (fun Z hZ => (eE rfl (fE (Ev.eqlI rfl rfl) (eE rfl (zN hZ ?_)))))
    repeat (first | refine rS ?_ | refine rF rfl ?_)
    refine rO (fun Z hZ => (eE rfl (fE (Ev.eqlI rfl rfl) (eE rfl (zN hZ ((rT rfl (rO (fun Z hZ => (eE rfl (zN hZ ((rI (Run.keep [9, 0, 2, 4, 5, 6, 7, 13, 14, 15] [_, _, _, _, _, _, _, _, _, _] rfl ?_))))))))))))))
    exact fin _ _ _ ⟨rfl, rfl, rfl⟩
  ·rw [if_neg hsg] at hget
   have h61 : ch = 61 := by rw [<- hch, hget]; rfl
   subst h61
   have p1 : pd r n + 1 = pd r (n + 1) := by unfold pd; omega
   have p2 : pd r (n + 1) <= 2 := by unfold pd; omega
   have p3 : sx r n = 0 := sx_no (by omega) hr hn4
   rw [p3] at fin
   refine rO (fun Z hZ => (eE rfl (fE (Ev.eqlI rfl rfl) (eE rfl (eE rfl (fE (Ev.eqlI rfl rfl) (eE rfl (eE rfl (zN hZ ?_)))))))))
   repeat (first | refine rS ?_ | refine rF rfl ?_)
   refine rO (fun Z hZ => (eE rfl (fE (Ev.eqlI rfl rfl) (eE rfl (zN hZ ?_)))))
   repeat (first | refine rS ?_ | refine rT rfl ?_)
   refine rO (fun Z hZ => (eE rfl (fE (Ev.addK (r := (pd r (n + 1) : Int)) rfl rfl (by rw [wI (by omega) (by omega)]; omega)) (eE rfl (zN hZ ((rS (rO (fun Z hZ => (eE rfl (fE ((Ev.lss rfl rfl).as (show _ = Value.bool false from congrArg Value.bool (decide_eq_false (by omega)))) (eE rfl (eE rfl (fE ((Ev.gtr rfl rfl).as (show _ = Value.bool false from congrArg Value.bool (decide_eq_false (by omega)))) (eE rfl (zN hZ ?_))))))))))))))))
   repeat (first | refine rK ?_ | refine rI ?_ | refine rF rfl ?_)
   refine Run.keep [9, 0, 2, 4, 5, 6, 7, 13, 14, 15] [_, _, _, _, _, _, _, _, _, _] rfl ?_
   exact fin _ _ _ ⟨rfl, rfl, rfl⟩
 rintro env L K ⟨rfl, rfl, rfl⟩
 have hxs2 : ∀ j, j < n + 1 -> (setAt xs n [.int .u8 (sx r n : Int)])[j]? = some (.int .u8 (sx r j : Int)) := fun j hj => by
  rw [setAt_oneB (by omega)]
  split
  ·rename_i h; rw [h]
  ·exact hxs j (by omega)
 have hx42 : (setAt xs n [.int .u8 (sx r n : Int)]).length = 4 := by
  unfold setAt
  simp only [List.length_append, List.length_take, List.length_drop, List.length_cons, List.length_nil]; omega
 refine rS ?_
 refine rP 3 (fun Z hZ => (eE rfl (eE rfl (fE (Ev.indexP T rfl rfl rfl rfl (by first | omega | (simp only [List.length_cons, List.length_nil] ; omega) | (simp; omega)) (by first | omega | (simp only [List.length_cons, List.length_nil] ; omega) | (simp; omega))) (zN hZ ((Ops.store 0 rfl rfl rfl rfl rfl (T.sizeOk rfl) rfl (show 0 + ((n : Nat) : Int).toNat * 1 + 1 <= _ by omega) rfl rfl (Ops.nil (Run.perm (L' := (b4, blk (setAt xs (0 + ((n : Nat) : Int).toNat * 1) [.int .u8 (sx r n : Int)]) 226) :: M) (List.Perm.refl _) ?_)))))))))
 rw [show 0 + ((n : Nat) : Int).toNat * 1 = n by omega]
 generalize setAt xs n [.int .u8 (sx r n : Int)] = xs2 at *
 repeat refine rS ?_
 refine rO (fun Z hZ => (eE rfl (fE (Ev.addK (r := ((n + 1 : Nat) : Int)) rfl rfl (by rw [wI (by omega) (by omega)]; omega)) (eE rfl (zN hZ ((rS ?_)))))))
 by_cases hl4 : n + 1 < 4
 ·skip
  refine rO (fun Z hZ => (eE rfl (fE ((Ev.lss rfl rfl).as (show _ = Value.bool true from congrArg Value.bool (decide_eq_true (by omega)))) (zN hZ ?_))))
  repeat (first | refine Run.exit rfl ?_ | refine rT rfl ?_)
  refine rO (fun Z hZ => (fE (Ev.addK (r := ((i + 1 : Nat) : Int)) rfl rfl (by rw [wI (by omega) (by omega)]; omega)) (eE rfl (zN hZ ?_))))
  skip
  refine Run.keep [0, 2, 4, 5, 6, 13, 14, 15] [_, _, _, _, _, _, _, _] rfl ?_
  exact ih (s.length - (i + 1)) _ _ _ (by omega) ⟨i + 1, n + 1, r, out, _, M, xs2, rfl, by omega, by rw [Nat.add_sub_add_right]; exact hd, hl4, fun h => absurd h hr, by omega, hout, hB, hx42, hxs2, rfl, rfl, rfl⟩
 obtain rfl : n = 3 := by omega
 have hx := four_eq hx42 hxs2
 subst hx
 clear hxs2 hx42 hxs hx4
 refine rO (fun Z hZ => (eE rfl (fE (Ev.lss rfl rfl) (zN hZ ?_))))
 repeat (first | refine rS ?_ | refine rK ?_ | refine rF rfl ?_)
 have la := bt_lt r 0
 have lb := bt_lt r 1
 have lc := bt_lt r 2
 generalize hf0 : sx r 0 = f0 at *
 generalize hf1 : sx r 1 = f1 at *
 generalize hf2 : sx r 2 = f2 at *
 generalize hf3 : sx r 3 = f3 at *
 replace hf0 : bt r 0 / 4 = f0 := hf0
 replace hf1 : bt r 0 % 4 * 16 + bt r 1 / 16 = f1 := hf1
 replace hf2 : bt r 1 % 16 * 4 + bt r 2 / 64 = f2 := hf2
 replace hf3 : bt r 2 % 64 = f3 := hf3
 generalize hA : bt r 0 = A at *
 generalize hB' : bt r 1 = B at *
 generalize hC' : bt r 2 = C at *
 obtain ⟨g0', g1', g2', g3'⟩ : (f0 = A / 4 /\ A < 256) /\ (f1 = A % 4 * 16 + B / 16 /\ B < 256) /\ (f2 = B % 16 * 4 + C / 64 /\ C < 256) /\ f3 = C % 64 := by omega
 have q1 : f0 * 4 % 256 = A / 4 * 2 ^ 2 := by omega
 have q2 : f1 / 2 ^ 4 = A % 4 := by omega
 have q3 : f1 * 16 % 256 = B / 16 * 2 ^ 4 := by omega
 have q4 : f2 / 2 ^ 2 = B % 16 := by omega
 have q5 : f2 * 64 % 256 = C / 64 * 2 ^ 6 := by omega
 have r1 : f0 * 4 % 256 ||| f1 / 2 ^ 4 = A := by rw [q1, q2, orSh 2 (by omega)]; try omega
 have r2 : f1 * 16 % 256 ||| f2 / 2 ^ 2 = B := by rw [q3, q4, orSh 4 (by omega)]; try omega
 have r3 : f2 * 64 % 256 ||| f3 = C := by rw [q5, g3', orSh 6 (by omega)]; try omega
 have s1 := shl8_2m f0
 have s2 := shl8_4m f1
 have s3 := shl8_6m f2
 have s4 := shrL f1 4
 have s5 := shrL f2 2
 generalize f0 * 4 % 256 = y1 at *
 generalize f1 * 16 % 256 = y2 at *
 generalize f2 * 64 % 256 = y3 at *
 refine rP 20 (fun Z hZ => (fE (Ev.indexP T rfl rfl rfl rfl (by first | omega | (simp only [List.length_cons, List.length_nil] ; omega) | (simp; omega)) (by first | omega | (simp only [List.length_cons, List.length_nil] ; omega) | (simp; omega))) (gY (Yv.load 0 T rfl rfl rfl rfl) (fE (Ev.shlK rfl rfl (by decide) (by decide) s1) (fE (Ev.indexP T rfl rfl rfl rfl (by first | omega | (simp only [List.length_cons, List.length_nil] ; omega) | (simp; omega)) (by first | omega | (simp only [List.length_cons, List.length_nil] ; omega) | (simp; omega))) (gY (Yv.load 0 T rfl rfl rfl rfl) (fE (Ev.shrK rfl rfl (by decide) (by decide) s4) (fE (Ev.orK (a := y1) (b := f1 / 2 ^ 4) (c := A) rfl rfl (by show _ < 256; omega) (by show _ < 256; omega) r1 (wrapN8 (by omega))) ?_))))))))
 refine fE (Ev.indexP T rfl rfl rfl rfl (by first | omega | (simp only [List.length_cons, List.length_nil] ; omega) | (simp; omega)) (by first | omega | (simp only [List.length_cons, List.length_nil] ; omega) | (simp; omega))) (gY (Yv.load 0 T rfl rfl rfl rfl) (fE (Ev.shlK rfl rfl (by decide) (by decide) s2) (fE (Ev.indexP T rfl rfl rfl rfl (by first | omega | (simp only [List.length_cons, List.length_nil] ; omega) | (simp; omega)) (by first | omega | (simp only [List.length_cons, List.length_nil] ; omega) | (simp; omega))) (gY (Yv.load 0 T rfl rfl rfl rfl) (fE (Ev.shrK rfl rfl (by decide) (by decide) s5) (fE (Ev.orK (a := y2) (b := f2 / 2 ^ 2) (c := B) rfl rfl (by show _ < 256; omega) (by show _ < 256; omega) r2 (wrapN8 (by omega))) ?_))))))
 refine fE (Ev.indexP T rfl rfl rfl rfl (by first | omega | (simp only [List.length_cons, List.length_nil] ; omega) | (simp; omega)) (by first | omega | (simp only [List.length_cons, List.length_nil] ; omega) | (simp; omega))) (gY (Yv.load 0 T rfl rfl rfl rfl) (fE (Ev.shlK rfl rfl (by decide) (by decide) s3) (fE (Ev.indexP T rfl rfl rfl rfl (by first | omega | (simp only [List.length_cons, List.length_nil] ; omega) | (simp; omega)) (by first | omega | (simp only [List.length_cons, List.length_nil] ; omega) | (simp; omega))) (gY (Yv.load 0 T rfl rfl rfl rfl) (fE (Ev.orK (a := y3) (b := f3) (c := C) rfl rfl (by show _ < 256; omega) (by show _ < 256; omega) r3 (wrapN8 (by omega))) (zN hZ (Ops.lit T rfl rfl rfl (by decide) rfl (by decide) (by decide) rfl rfl rfl rfl rfl (fun bq => (oP rfl (Ops.nil (rS ?_)))))))))))
 match r, hr, hout, hd, hdl, hA, hB', hC' with
 | [a], _, hout, hd, hdl, hA, hB', hC' =>
  obtain rfl : a.toNat = A := hA
  obtain rfl : 0 = B := hB'
  obtain rfl : 0 = C := hC'
  simp only [List.length_cons, List.length_nil] at hdl
  rw [show pd [a] (3 + 1) = 2 from rfl]
  refine rP 5 (fun Z hZ => (eE rfl (eE rfl (eE rfl (fE (Ev.subI rfl rfl (wI (by first | omega | (simp only [List.length_cons, List.length_nil] ; omega) | (simp; omega)) (by first | omega | (simp only [List.length_cons, List.length_nil] ; omega) | (simp; omega)))) (fE (Ev.sliceHi' T rfl rfl rfl rfl (by first | omega | (simp only [List.length_cons, List.length_nil] ; omega) | (simp; omega)) (by first | omega | (simp only [List.length_cons, List.length_nil] ; omega) | (simp; omega))) (zN hZ ?_)))))))
  refine Ops.appBuf (M := M) (N := [(bq, _), (b4, _)]) (ys := [a]) btB hB rfl (by decide) rfl rfl (List.perm_append_comm (l₁ := [_, _]) (l₂ := M)) (fun W hi => src_own (pre := []) (post := [.int .u8 0, .int .u8 0]) (ys := [a]) btB.el.under hi List.mem_cons_self) (by simp only [List.length_cons, List.length_nil]; omega) fun v3 M3 hB3 => (Ops.perm (List.perm_append_comm (l₁ := M3) (l₂ := [_, _])) (oP rfl (Ops.nil (rS (rO (fun Z hZ => (eE rfl (zN hZ ((rS (rO (fun Z hZ => (eE rfl (fE (Ev.gtr rfl rfl) (zN hZ ?_)))))))))))))))
  repeat (first | refine rS ?_ | refine rT rfl ?_)
  refine rP 4 (fun Z hZ => (eE rfl (eE rfl (fE (Ev.addK (r := ((i + 1 : Nat) : Int)) rfl rfl (by rw [wI (by omega) (by omega)]; omega)) (fE ((Ev.cutSLo (j := ((i + 1 : Nat) : Int)) T rfl rfl rfl (by omega) (by omega)).as (show _ = str [] from congrArg str (List.drop_eq_nil_of_le (by omega)))) (zN hZ ((Ops.convBytes T rfl (by decide) rfl rfl rfl rfl fun v4 J4 l4 hv4 => ?_))))))))
  obtain ⟨A4, c4, rfl⟩ := hv4.isSl
  iterate 2 refine oP rfl ?_
  refine Ops.nil (rB (Run.loop (rS ?_)))
  refine rO (fun Z hZ => (fE ((Ev.lss rfl rfl).as (show _ = Value.bool false from congrArg Value.bool (decide_eq_false (by simp)))) (zN hZ ?_)))
  repeat (first | refine rS ?_ | refine Run.exit rfl ?_ | refine rF rfl ?_)
  refine rO (fun Z hZ => (eE rfl (eE rfl (eE rfl (zN hZ ?_)))))
  skip
  refine Run.keepB (M := M3) (N := [(bq, _), (b4, _)]) hB3 (List.perm_append_comm (l₁ := [_, _]) (l₂ := M3)) fun J5 l5 hv => ?_
  refine Run.fin (Run.ret2 (by rw [hCf]; exact func129) results129 rfl rfl (hR _ _ _ ?_))
  exact ⟨rfl, _, rfl, by rw [<- hout]; exact hv⟩
 | [a, b], _, hout, hd, hdl, hA, hB', hC' =>
  obtain rfl : a.toNat = A := hA
  obtain rfl : b.toNat = B := hB'
  obtain rfl : 0 = C := hC'
  simp only [List.length_cons, List.length_nil] at hdl
  rw [show pd [a, b] (3 + 1) = 1 from rfl]
  refine rP 5 (fun Z hZ => (eE rfl (eE rfl (eE rfl (fE (Ev.subI rfl rfl (wI (by first | omega | (simp only [List.length_cons, List.length_nil] ; omega) | (simp; omega)) (by first | omega | (simp only [List.length_cons, List.length_nil] ; omega) | (simp; omega)))) (fE (Ev.sliceHi' T rfl rfl rfl rfl (by first | omega | (simp only [List.length_cons, List.length_nil] ; omega) | (simp; omega)) (by first | omega | (simp only [List.length_cons, List.length_nil] ; omega) | (simp; omega))) (zN hZ ?_)))))))
  refine Ops.appBuf (M := M) (N := [(bq, _), (b4, _)]) (ys := [a, b]) btB hB rfl (by decide) rfl rfl (List.perm_append_comm (l₁ := [_, _]) (l₂ := M)) (fun W hi => src_own (pre := []) (post := [.int .u8 0]) (ys := [a, b]) btB.el.under hi List.mem_cons_self) (by simp only [List.length_cons, List.length_nil]; omega) fun v3 M3 hB3 => (Ops.perm (List.perm_append_comm (l₁ := M3) (l₂ := [_, _])) (oP rfl (Ops.nil (rS (rO (fun Z hZ => (eE rfl (zN hZ ((rS (rO (fun Z hZ => (eE rfl (fE (Ev.gtr rfl rfl) (zN hZ ?_)))))))))))))))
  repeat (first | refine rS ?_ | refine rT rfl ?_)
  refine rP 4 (fun Z hZ => (eE rfl (eE rfl (fE (Ev.addK (r := ((i + 1 : Nat) : Int)) rfl rfl (by rw [wI (by omega) (by omega)]; omega)) (fE ((Ev.cutSLo (j := ((i + 1 : Nat) : Int)) T rfl rfl rfl (by omega) (by omega)).as (show _ = str [] from congrArg str (List.drop_eq_nil_of_le (by omega)))) (zN hZ ((Ops.convBytes T rfl (by decide) rfl rfl rfl rfl fun v4 J4 l4 hv4 => ?_))))))))
  obtain ⟨A4, c4, rfl⟩ := hv4.isSl
  iterate 2 refine oP rfl ?_
  refine Ops.nil (rB (Run.loop (rS ?_)))
  refine rO (fun Z hZ => (fE ((Ev.lss rfl rfl).as (show _ = Value.bool false from congrArg Value.bool (decide_eq_false (by simp)))) (zN hZ ?_)))
  repeat (first | refine rS ?_ | refine Run.exit rfl ?_ | refine rF rfl ?_)
  refine rO (fun Z hZ => (eE rfl (eE rfl (eE rfl (zN hZ ?_)))))
  skip
  refine Run.keepB (M := M3) (N := [(bq, _), (b4, _)]) hB3 (List.perm_append_comm (l₁ := [_, _]) (l₂ := M3)) fun J5 l5 hv => ?_
  refine Run.fin (Run.ret2 (by rw [hCf]; exact func129) results129 rfl rfl (hR _ _ _ ?_))
  exact ⟨rfl, _, rfl, by rw [<- hout]; exact hv⟩
 | a :: b :: c :: t, _, hout, hd, hdl, hA, hB', hC' =>
  obtain rfl : a.toNat = A := hA
  obtain rfl : b.toNat = B := hB'
  obtain rfl : c.toNat = C := hC'
  simp only [List.length_cons] at hdl
  have p0 : pd (a :: b :: c :: t) (3 + 1) = 0 := by unfold pd; simp only [List.length_cons]; omega
  rw [p0]
  refine Run.le fun J3 l3 e3 => ?_
  refine rP 5 (fun Z hZ => (eE rfl (eE rfl (eE rfl (fE (Ev.subI rfl rfl (wI (by first | omega | (simp only [List.length_cons, List.length_nil] ; omega) | (simp; omega)) (by first | omega | (simp only [List.length_cons, List.length_nil] ; omega) | (simp; omega)))) (fE (Ev.sliceHi' T rfl rfl rfl rfl (by first | omega | (simp only [List.length_cons, List.length_nil] ; omega) | (simp; omega)) (by first | omega | (simp only [List.length_cons, List.length_nil] ; omega) | (simp; omega))) (zN hZ ?_)))))))
  refine Ops.appBuf (M := M) (N := [(bq, _), (b4, _)]) (ys := [a, b, c]) btB hB rfl (by decide) rfl rfl (List.perm_append_comm (l₁ := [_, _]) (l₂ := M)) (fun W hi => src_own (pre := []) (post := []) (ys := [a, b, c]) btB.el.under hi List.mem_cons_self) (by simp only [List.length_cons, List.length_nil]; omega) fun v3 M3 hB3 => (Ops.perm (List.perm_append_comm (l₁ := M3) (l₂ := [_, _])) (oP rfl (Ops.nil (rS (rO (fun Z hZ => (eE rfl (zN hZ ((rS (rO (fun Z hZ => (eE rfl (fE (Ev.gtr rfl rfl) (zN hZ ?_)))))))))))))))
  repeat (first | refine rK ?_ | refine rI ?_ | refine rF rfl ?_)
  refine rO (fun Z hZ => (fE (Ev.addK (r := ((i + 1 : Nat) : Int)) rfl rfl (by rw [wI (by omega) (by omega)]; omega)) (eE rfl (zN hZ ?_))))
  skip
  refine Run.keep [0, 2, 4, 5, 6, 13, 14, 15] [_, _, _, _, _, _, _, _] rfl ?_
  refine Run.dropL (List.sublist_cons_self _ _) ?_
  exact ih (s.length - (i + 1)) _ _ _ (by omega) ⟨i + 1, 0, t, out ++ [a, b, c], _, M3, _, rfl, by omega, (by rw [show i + 1 - 0 = (i - 3) + 4 by omega, <- List.drop_drop, hd]; rfl), by omega, fun _ => rfl, by omega, by rw [<- hout]; simp, hB3, rfl, fun j hj => absurd hj (Nat.not_lt_zero j), by unfold pd; rw [Nat.zero_sub]; rfl, rfl, e3.symm⟩
end Go.V
namespace Go.V
open Go.Proofs.Tryz
open Go.RowKit
set_option maxRecDepth 10000
theorem Spec.keep {P : Program} {f : FuncId} {args : List Value} {I : Imm} {M : Own} {R R' : Value -> Imm -> Own -> Prop} (hs : Spec P f args I M R) (h : ∀ w J L, Le I J -> R w J L -> ∃ b o L', L.Perm ((b, o) :: L') /\ ∀ K, Le J K -> K b = some o -> R' w K L') : Spec P f args I M R' := by
 intro W hfit
 refine (hs W hfit).mono ?_
 rintro e W2 ⟨v, J, L, rfl, hR, hi⟩
 obtain ⟨b, o, L', hp, hk⟩ := h v J L hi.ext hR
 exact ⟨v, _, L', rfl, hk _ (hi.perm hp).le_iset (by simp [iset]), (hi.perm hp).freeze⟩
attribute [local irreducible] Run Ops QD
theorem Cells.strsOf {I : Imm} (l : List JV) : Cells tStr I (l.map fun y => str y.text) (l.map fun y => y.text) := by
 have := Cells.strs (I := I) (l.map fun y => y.text)
 rw [List.map_map] at this
 exact this
theorem hTell_split {h : K2} (hd : digGood (hTell h) = true) : h.1 = sha256T' /\ (hTell h).drop 7 = h.2 := by
 obtain ⟨e, h1, h2⟩ := digGood_split hd
 have hno : (58 : UInt8) ∉ (hTell h).drop 7 := fun hm => by
  unfold allIn at h2
  rw [List.all_eq_true] at h2
  have := h2 _ hm
  revert this
  decide
 generalize (hTell h).drop 7 = R at e hno ⊢
 have e' : h.1 ++ (58 :: h.2) = sha256T' ++ (58 :: R) := by
  have : hTell h = h.1 ++ (58 :: h.2) := by unfold hTell; rw [List.append_assoc]; rfl
  rw [<- this, e]; rfl
 have hns : (58 : UInt8) ∉ sha256T' := by decide
 rcases List.append_eq_append_iff.1 e' with ⟨a, h3, h4⟩ | ⟨a, h3, h4⟩
 ·cases a with
  | nil => exact ⟨by rw [h3, List.append_nil], by simpa using h4.symm⟩
  | cons y a =>
   rw [List.cons_append] at h4
   have := (List.cons.inj h4).1
   subst this
   exact absurd (by rw [h3]; simp) hns
 ·cases a with
  | nil => exact ⟨by rw [h3, List.append_nil], by simpa using h4⟩
  | cons y a =>
   rw [List.cons_append] at h4
   have := List.cons.inj h4
   exact absurd (by rw [this.2]; simp) hno
def okDt (x : Ds) : Prop := x.urls.length <= 1000000 /\ x.anns.length <= 1000000 /\ (∀ y ∈ x.plats, y.2.1.length <= 1000000 /\ y.2.2.length <= 1000000) /\ digGood (hTell x.dig) = true /\ -9223372036854775808 <= x.size /\ x.size <= 9223372036854775807 /\ x.data.length <= 1000000
theorem Value_StrT (f : Nat) (I : Imm) (cs : List Value) (v : JV) (hrel : (tJV (f + 1)).rel I cs v) (x off : Nat) (cells : List Value) (tt : TypeId) (s : Bs) (hk : v.kind = 34 /\ v.text = s) (ho : off + 1 <= cells.length) : Spec prog 104 [.agg cs.toArray, .pointer (some ⟨x, off, none⟩)] I [(x, blk cells tt)] fun w J M => w = .bool true /\ M = [(x, blk (setAt cells off [str s]) tt)] := by
 refine (Value_Str f I cs v hrel x off cells tt ho).mono fun w J M _ h => ?_
 obtain ⟨_, h1, h2⟩ := h
 rw [if_pos hk.1, hk.2] at h2
 exact ⟨by rw [h1, hk.1]; rfl, h2⟩
theorem Value_IntT (f : Nat) (I : Imm) (cs : List Value) (v : JV) (hrel : (tJV (f + 1)).rel I cs v) (x off : Nat) (cells : List Value) (tt : TypeId) (z : Int) (hk : v.kind = 48 /\ v.text = numT z) (h1 : -9223372036854775808 <= z) (h2 : z <= 9223372036854775807) (ho : off + 1 <= cells.length) : Spec prog 99 [.agg cs.toArray, .pointer (some ⟨x, off, none⟩)] I [(x, blk cells tt)] fun w J M => w = .bool true /\ M = [(x, blk (setAt cells off [.int .i64 z]) tt)] := by
 have hl := numT_len z
 exact Value_Int f I cs v hrel hk.1 (by rw [hk.2]; omega) z (by rw [hk.2]; exact pi_num z h1 h2) x off cells tt ho
theorem Hash_T (f : Nat) (I : Imm) (cs : List Value) (v : JV) (hrel : (tJV (f + 1)).rel I cs v) (x off : Nat) (cells : List Value) (tt : TypeId) (h : K2) (hk : v.kind = 34 /\ v.text = hTell h) (hd : digGood (hTell h) = true) (ho : off + 2 <= cells.length) : Spec prog 118 [.pointer (some ⟨x, off, none⟩), .agg cs.toArray] I [(x, blk cells tt)] fun w J M => w = .bool true /\ M = [(x, blk (setAt (setAt cells off [str h.1]) (off + 1) [str h.2]) tt)] := by
 have h1 := Hash_take f I cs v hrel hk.1 (by rw [hk.2]; exact hd) x off cells tt ho
 rw [hk.2, (hTell_split hd).2, <- (hTell_split hd).1] at h1
 exact h1
theorem Value_StrsT (f : Nat) (I : Imm) (cs : List Value) (v : JV) (hrel : (tJV (f + 1)).rel I cs v) (x off : Nat) (cells : List Value) (tt : TypeId) (l : List Bs) (hk : lsR v l) (hl : l.length <= 1000000) (hc : cells[off]? = some (.slice none 0 0)) : Spec prog 120 [.agg cs.toArray, .pointer (some ⟨x, off, none⟩)] I [(x, blk cells tt)] fun w J M => w = .bool true /\ ∃ c, Sl tStr J c l /\ M = [(x, blk (setAt cells off [c]) tt)] := by
 obtain ⟨k1, k2, k3⟩ := hk
 have hkl : v.kids.length = l.length := by rw [<- k3, List.length_map]
 refine (Value_Strs f I cs v hrel k1 (by omega) k2 x off cells tt hc (List.getElem?_eq_some_iff.1 hc).1).keep ?_
 rintro w J L _ ⟨rfl, b, rfl⟩
 refine ⟨b, _, [(x, _)], List.Perm.swap _ _ _, fun K _ hK => ⟨rfl, _, ?_, rfl⟩⟩
 rw [<- k3]
 exact Sl.ofBlock hK (Cells.strsOf _) (by rw [List.length_map]) (Nat.le_refl _)
theorem Value_StrMapT (f : Nat) (I : Imm) (cs : List Value) (v : JV) (hrel : (tJV (f + 1)).rel I cs v) (x off : Nat) (cells : List Value) (tt : TypeId) (l : List K2) (hk : paR v l) (hl : l.length <= 1000000) (hc : cells[off]? = some (.map none)) : Spec prog 102 [.agg cs.toArray, .pointer (some ⟨x, off, none⟩)] I [(x, blk cells tt)] fun w J M => w = .bool true /\ ∃ c, mpC J true c l /\ M = [(x, blk (setAt cells off [c]) tt)] := by
 obtain ⟨k1, k2, k3, k4⟩ := hk
 have hkl : v.kids.length = l.length := by rw [<- k4, List.length_map, List.length_zip]; omega
 refine (Value_StrMap f I cs v hrel k1 k2 (by omega) k3 x off cells tt hc (List.getElem?_eq_some_iff.1 hc).1).keep ?_
 rintro w J L _ ⟨rfl, m, o, hM, rfl⟩
 refine ⟨m, _, [(x, _)], List.Perm.swap _ _ _, fun K _ hK => ⟨rfl, _, ⟨m, o, rfl, hK, ?_⟩, rfl⟩⟩
 rw [<- k4, <- mbs_kvs]
 exact hM
end Go.V
namespace Go.V
open Go.Proofs.Tryz
open Go.RowKit
set_option maxRecDepth 10000
attribute [local irreducible] Run Ops QD
theorem fieldOf (I : Imm) (hU : UT I) (key : Bs) (names : List Bs) (v : Value) (hS : Sl tStr I v names) (hk : key.length <= 137438953472) (hn : ∀ s ∈ names, s.length <= 137438953472) (hl : names.length <= 1000000) : Pure prog 98 [str key, v] I fun w J => w = .int .i64 (fieldR key names) :=
 zz_Field I hU key names v hS hk hn hl
set_option maxHeartbeats 4000000 in
theorem pf_step (f : Nat) (I : Imm) (hU : UT I) (cs : List Value) (m : Bs × JV) (hrel : (tJV (f + 1)).rel I cs m.2) (x : PfL) (hm : plM x m) (g1 : x.2.1.length <= 1000000) (g2 : x.2.2.length <= 1000000) (b2 xb : Nat) (hB : At I b2 0 [.pointer (some ⟨xb, 0, none⟩)]) (D : Int -> Bool) (hD : fieldR m.1 pfNames ≠ -1 -> D (fieldR m.1 pfNames) = false) (pc : List Value) (hS0 : pfSt I x D pc) :
  Spec prog 136 [str m.1, .agg cs.toArray, .pointer (some ⟨b2, 0, none⟩)] I [(xb, blk pc 138)] fun w J M => w = .bool true /\ ∃ pc', pfSt J x (upd D (fieldR m.1 pfNames)) pc' /\ M = [(xb, blk pc' 138)] := by
 obtain ⟨cf, cg, rfl, h3, h5⟩ := hS0
 have hkl := hm.1
 have hrel0 := hrel
 obtain ⟨wk, wn, ew, hwk, hwn⟩ := hrel
 obtain ⟨A3, z3, rfl⟩ := hwk.isSl
 obtain ⟨A4, z4, rfl⟩ := hwn.isSl
 subst ew
 refine Spec.enter 51 [(0, _), (1, _), (2, _)] func136 rfl ntmps136 (by simp) rfl ?_
 intro C hCf hR hCI
 refine rS ?_
 refine Run.region (Ops.box rfl dc rfl rfl (fun b4 => (oP rfl (Ops.nil ?_))))
 repeat refine rS ?_
 refine rP 1 (fun Z hZ => (eE rfl (zN hZ ((Ops.lit T rfl rfl rfl dc rfl dc dc rfl rfl rfl rfl rfl (fun bq => (Ops.freezeAt 0 rfl rfl fun J1 l1 hJ1 => ?_)))))))
 have hS : Sl tStr J1 (.slice (some ⟨bq, 0, none⟩) 6 6) pfNames := Sl.ofBlock hJ1 (Cells.strs pfNames) rfl (by decide)
 have hB := hB.mono l1
 have hrel := (tJV (f + 1)).mono hrel0 l1
 refine Ops.call ((fieldOf J1 (hU.mono l1) m.1 pfNames _ hS hkl dc dc)) rfl dc call98 rfl ?_
 rintro _ J2 l2 rfl
 refine Ops.nil ?_
 have hB := hB.mono l2
 have hU2 := (hU.mono l1).mono l2
 have hrel := (tJV (f + 1)).mono hrel l2
 have l12 := l1.trans l2
 clear l1 hrel0 hJ1 hS
 rcases hm.2 with ⟨hf, ht⟩ | ⟨hf, ht⟩ | ⟨hf, ht⟩ | ⟨hf, ht⟩ | ⟨hf, ht⟩ | ⟨hf, ht⟩ | hf
 ·rw [hf] at hD ⊢
  repeat (first | refine rS ?_ | refine rB ?_)
  refine rO (fun Z hZ => (fE (Ev.eqlI rfl rfl) (eE rfl (zN hZ ?_))))
  repeat (first | refine rS ?_ | refine rT rfl ?_)
  refine Run.regionT (D := [some 11, some 12, some 13, some 14, some 15, some 5]) (fun _ => True) [true, true, true, true] (bl 6 15) 2 (by kernel_rfl) (by kernel_rfl) (by kernel_rfl) rfl (fun Z hZ => (gY (Yv.loadN 0 T rfl rfl rfl rfl rfl rfl) (gY (Yv.loadI T hB rfl rfl) (eE rfl (eE rfl (zN hZ ((RAny.on 4 (bl 6 31) rfl (by kernel_rfl) rfl dc (Eff.callM (M := [_]) (N := [_]) (Value_StrT f _ _ m.2 hrel xb 0 _ _ _ ht (lb rfl)) (List.Perm.swap _ _ _) call104 rfl fun w J' M' l' hw => ⟨fun _ _ => trivial, ?_⟩)))))))))
  obtain ⟨rfl, rfl⟩ := hw
  refine RAny.tk 5 (bl 6 63) rfl (by kernel_rfl) dc (fun _ _ => trivial) (Yld.eval T rfl rfl) (RAny.done _ (by kernel_rfl) ?_)
  skip
  refine Run.dropL (L' := [(xb, _)]) (List.Sublist.cons_cons _ (List.nil_sublist _)) ?_
  refine Run.ret1 (by rw [hCf]; exact func136) results136 rfl (hR _ _ _ ?_)
  rw [hf]
  exact ⟨rfl, _, ⟨cf, cg, rfl, h3.mono (l12.trans l'), h5.mono (l12.trans l')⟩, rfl⟩
 ·rw [hf] at hD ⊢
  repeat (first | refine rS ?_ | refine rB ?_)
  refine rO (fun Z hZ => (fE (Ev.eqlI rfl rfl) (eE rfl (zN hZ ?_))))
  repeat (first | refine rS ?_ | refine rF rfl ?_)
  refine rO (fun Z hZ => (fE (Ev.eqlI rfl rfl) (eE rfl (zN hZ ?_))))
  repeat (first | refine rS ?_ | refine rT rfl ?_)
  refine Run.regionT (D := [some 18, some 19, some 20, some 21, some 22, some 5]) (fun _ => True) [true, true, true, true] (bl 6 15) 2 (by kernel_rfl) (by kernel_rfl) (by kernel_rfl) rfl (fun Z hZ => (gY (Yv.loadN 0 T rfl rfl rfl rfl rfl rfl) (gY (Yv.loadI T hB rfl rfl) (eE rfl (eE rfl (zN hZ ((RAny.on 4 (bl 6 31) rfl (by kernel_rfl) rfl dc (Eff.callM (M := [_]) (N := [_]) (Value_StrT f _ _ m.2 hrel xb 1 _ _ _ ht (lb rfl)) (List.Perm.swap _ _ _) call104 rfl fun w J' M' l' hw => ⟨fun _ _ => trivial, ?_⟩)))))))))
  obtain ⟨rfl, rfl⟩ := hw
  refine RAny.tk 5 (bl 6 63) rfl (by kernel_rfl) dc (fun _ _ => trivial) (Yld.eval T rfl rfl) (RAny.done _ (by kernel_rfl) ?_)
  skip
  refine Run.dropL (L' := [(xb, _)]) (List.Sublist.cons_cons _ (List.nil_sublist _)) ?_
  refine Run.ret1 (by rw [hCf]; exact func136) results136 rfl (hR _ _ _ ?_)
  rw [hf]
  exact ⟨rfl, _, ⟨cf, cg, rfl, h3.mono (l12.trans l'), h5.mono (l12.trans l')⟩, rfl⟩
 ·rw [hf] at hD ⊢
  repeat (first | refine rS ?_ | refine rB ?_)
  refine rO (fun Z hZ => (fE (Ev.eqlI rfl rfl) (eE rfl (zN hZ ?_))))
  repeat (first | refine rS ?_ | refine rF rfl ?_)
  refine rO (fun Z hZ => (fE (Ev.eqlI rfl rfl) (eE rfl (zN hZ ?_))))
  repeat (first | refine rS ?_ | refine rF rfl ?_)
  refine rO (fun Z hZ => (fE (Ev.eqlI rfl rfl) (eE rfl (zN hZ ?_))))
  repeat (first | refine rS ?_ | refine rT rfl ?_)
  refine Run.regionT (D := [some 25, some 26, some 27, some 28, some 29, some 5]) (fun _ => True) [true, true, true, true] (bl 6 15) 2 (by kernel_rfl) (by kernel_rfl) (by kernel_rfl) rfl (fun Z hZ => (gY (Yv.loadN 0 T rfl rfl rfl rfl rfl rfl) (gY (Yv.loadI T hB rfl rfl) (eE rfl (eE rfl (zN hZ ((RAny.on 4 (bl 6 31) rfl (by kernel_rfl) rfl dc (Eff.callM (M := [_]) (N := [_]) (Value_StrT f _ _ m.2 hrel xb 2 _ _ _ ht (lb rfl)) (List.Perm.swap _ _ _) call104 rfl fun w J' M' l' hw => ⟨fun _ _ => trivial, ?_⟩)))))))))
  obtain ⟨rfl, rfl⟩ := hw
  refine RAny.tk 5 (bl 6 63) rfl (by kernel_rfl) dc (fun _ _ => trivial) (Yld.eval T rfl rfl) (RAny.done _ (by kernel_rfl) ?_)
  skip
  refine Run.dropL (L' := [(xb, _)]) (List.Sublist.cons_cons _ (List.nil_sublist _)) ?_
  refine Run.ret1 (by rw [hCf]; exact func136) results136 rfl (hR _ _ _ ?_)
  rw [hf]
  exact ⟨rfl, _, ⟨cf, cg, rfl, h3.mono (l12.trans l'), h5.mono (l12.trans l')⟩, rfl⟩
 ·rw [hf] at hD ⊢
  repeat (first | refine rS ?_ | refine rB ?_)
  refine rO (fun Z hZ => (fE (Ev.eqlI rfl rfl) (eE rfl (zN hZ ?_))))
  repeat (first | refine rS ?_ | refine rF rfl ?_)
  refine rO (fun Z hZ => (fE (Ev.eqlI rfl rfl) (eE rfl (zN hZ ?_))))
  repeat (first | refine rS ?_ | refine rF rfl ?_)
  refine rO (fun Z hZ => (fE (Ev.eqlI rfl rfl) (eE rfl (zN hZ ?_))))
  repeat (first | refine rS ?_ | refine rF rfl ?_)
  refine rO (fun Z hZ => (fE (Ev.eqlI rfl rfl) (eE rfl (zN hZ ?_))))
  repeat (first | refine rS ?_ | refine rT rfl ?_)
  obtain rfl : cf = .slice none 0 0 := by rw [hD (by decide)] at h3; exact h3
  refine Run.regionT (D := [some 32, some 33, some 34, some 35, some 36, some 5]) (fun _ => True) [true, true, true, true] (bl 6 15) 2 (by kernel_rfl) (by kernel_rfl) (by kernel_rfl) rfl (fun Z hZ => (gY (Yv.loadN 0 T rfl rfl rfl rfl rfl rfl) (gY (Yv.loadI T hB rfl rfl) (eE rfl (eE rfl (zN hZ ((RAny.on 4 (bl 6 31) rfl (by kernel_rfl) rfl dc (Eff.callM (M := [_]) (N := [_]) (Value_StrsT f _ _ m.2 hrel xb 3 _ _ _ ht g1 rfl) (List.Perm.swap _ _ _) call120 rfl fun w J' M' l' hw => ⟨fun _ _ => trivial, ?_⟩)))))))))
  obtain ⟨rfl, c, hc, rfl⟩ := hw
  refine RAny.tk 5 (bl 6 63) rfl (by kernel_rfl) dc (fun _ _ => trivial) (Yld.eval T rfl rfl) (RAny.done _ (by kernel_rfl) ?_)
  skip
  refine Run.dropL (L' := [(xb, _)]) (List.Sublist.cons_cons _ (List.nil_sublist _)) ?_
  refine Run.ret1 (by rw [hCf]; exact func136) results136 rfl (hR _ _ _ ?_)
  rw [hf]
  exact ⟨rfl, _, ⟨c, cg, rfl, hc, h5.mono (l12.trans l')⟩, rfl⟩
 ·rw [hf] at hD ⊢
  repeat (first | refine rS ?_ | refine rB ?_)
  refine rO (fun Z hZ => (fE (Ev.eqlI rfl rfl) (eE rfl (zN hZ ?_))))
  repeat (first | refine rS ?_ | refine rF rfl ?_)
  refine rO (fun Z hZ => (fE (Ev.eqlI rfl rfl) (eE rfl (zN hZ ?_))))
  repeat (first | refine rS ?_ | refine rF rfl ?_)
  refine rO (fun Z hZ => (fE (Ev.eqlI rfl rfl) (eE rfl (zN hZ ?_))))
  repeat (first | refine rS ?_ | refine rF rfl ?_)
  refine rO (fun Z hZ => (fE (Ev.eqlI rfl rfl) (eE rfl (zN hZ ?_))))
  repeat (first | refine rS ?_ | refine rF rfl ?_)
  refine rO (fun Z hZ => (fE (Ev.eqlI rfl rfl) (eE rfl (zN hZ ?_))))
  repeat (first | refine rS ?_ | refine rT rfl ?_)
  refine Run.regionT (D := [some 39, some 40, some 41, some 42, some 43, some 5]) (fun _ => True) [true, true, true, true] (bl 6 15) 2 (by kernel_rfl) (by kernel_rfl) (by kernel_rfl) rfl (fun Z hZ => (gY (Yv.loadN 0 T rfl rfl rfl rfl rfl rfl) (gY (Yv.loadI T hB rfl rfl) (eE rfl (eE rfl (zN hZ ((RAny.on 4 (bl 6 31) rfl (by kernel_rfl) rfl dc (Eff.callM (M := [_]) (N := [_]) (Value_StrT f _ _ m.2 hrel xb 4 _ _ _ ht (lb rfl)) (List.Perm.swap _ _ _) call104 rfl fun w J' M' l' hw => ⟨fun _ _ => trivial, ?_⟩)))))))))
  obtain ⟨rfl, rfl⟩ := hw
  refine RAny.tk 5 (bl 6 63) rfl (by kernel_rfl) dc (fun _ _ => trivial) (Yld.eval T rfl rfl) (RAny.done _ (by kernel_rfl) ?_)
  skip
  refine Run.dropL (L' := [(xb, _)]) (List.Sublist.cons_cons _ (List.nil_sublist _)) ?_
  refine Run.ret1 (by rw [hCf]; exact func136) results136 rfl (hR _ _ _ ?_)
  rw [hf]
  exact ⟨rfl, _, ⟨cf, cg, rfl, h3.mono (l12.trans l'), h5.mono (l12.trans l')⟩, rfl⟩
 ·rw [hf] at hD ⊢
  repeat (first | refine rS ?_ | refine rB ?_)
  refine rO (fun Z hZ => (fE (Ev.eqlI rfl rfl) (eE rfl (zN hZ ?_))))
  repeat (first | refine rS ?_ | refine rF rfl ?_)
  refine rO (fun Z hZ => (fE (Ev.eqlI rfl rfl) (eE rfl (zN hZ ?_))))
  repeat (first | refine rS ?_ | refine rF rfl ?_)
  refine rO (fun Z hZ => (fE (Ev.eqlI rfl rfl) (eE rfl (zN hZ ?_))))
  repeat (first | refine rS ?_ | refine rF rfl ?_)
  refine rO (fun Z hZ => (fE (Ev.eqlI rfl rfl) (eE rfl (zN hZ ?_))))
  repeat (first | refine rS ?_ | refine rF rfl ?_)
  refine rO (fun Z hZ => (fE (Ev.eqlI rfl rfl) (eE rfl (zN hZ ?_))))
  repeat (first | refine rS ?_ | refine rF rfl ?_)
  refine rO (fun Z hZ => (fE (Ev.eqlI rfl rfl) (eE rfl (zN hZ ?_))))
  repeat (first | refine rS ?_ | refine rT rfl ?_)
  obtain rfl : cg = .slice none 0 0 := by rw [hD (by decide)] at h5; exact h5
  refine Run.regionT (D := [some 46, some 47, some 48, some 49, some 50, some 5]) (fun _ => True) [true, true, true, true] (bl 6 15) 2 (by kernel_rfl) (by kernel_rfl) (by kernel_rfl) rfl (fun Z hZ => (gY (Yv.loadN 0 T rfl rfl rfl rfl rfl rfl) (gY (Yv.loadI T hB rfl rfl) (eE rfl (eE rfl (zN hZ ((RAny.on 4 (bl 6 31) rfl (by kernel_rfl) rfl dc (Eff.callM (M := [_]) (N := [_]) (Value_StrsT f _ _ m.2 hrel xb 5 _ _ _ ht g2 rfl) (List.Perm.swap _ _ _) call120 rfl fun w J' M' l' hw => ⟨fun _ _ => trivial, ?_⟩)))))))))
  obtain ⟨rfl, c, hc, rfl⟩ := hw
  refine RAny.tk 5 (bl 6 63) rfl (by kernel_rfl) dc (fun _ _ => trivial) (Yld.eval T rfl rfl) (RAny.done _ (by kernel_rfl) ?_)
  skip
  refine Run.dropL (L' := [(xb, _)]) (List.Sublist.cons_cons _ (List.nil_sublist _)) ?_
  refine Run.ret1 (by rw [hCf]; exact func136) results136 rfl (hR _ _ _ ?_)
  rw [hf]
  exact ⟨rfl, _, ⟨cf, c, rfl, h3.mono (l12.trans l'), hc⟩, rfl⟩
 ·rw [hf] at hD ⊢
  repeat (first | refine rS ?_ | refine rB ?_)
  refine rO (fun Z hZ => (fE (Ev.eqlI rfl rfl) (eE rfl (zN hZ ?_))))
  repeat (first | refine rS ?_ | refine rF rfl ?_)
  refine rO (fun Z hZ => (fE (Ev.eqlI rfl rfl) (eE rfl (zN hZ ?_))))
  repeat (first | refine rS ?_ | refine rF rfl ?_)
  refine rO (fun Z hZ => (fE (Ev.eqlI rfl rfl) (eE rfl (zN hZ ?_))))
  repeat (first | refine rS ?_ | refine rF rfl ?_)
  refine rO (fun Z hZ => (fE (Ev.eqlI rfl rfl) (eE rfl (zN hZ ?_))))
  repeat (first | refine rS ?_ | refine rF rfl ?_)
  refine rO (fun Z hZ => (fE (Ev.eqlI rfl rfl) (eE rfl (zN hZ ?_))))
  repeat (first | refine rS ?_ | refine rF rfl ?_)
  refine rO (fun Z hZ => (fE (Ev.eqlI rfl rfl) (eE rfl (zN hZ ?_))))
  repeat (first | refine rS ?_ | refine rK ?_ | refine rI ?_ | refine rF rfl ?_)
  refine rO (fun Z hZ => (eE rfl (zN hZ ?_)))
  skip
  refine Run.dropL (L' := [(xb, _)]) (List.sublist_cons_self _ _) ?_
  refine Run.ret1 (by rw [hCf]; exact func136) results136 rfl (hR _ _ _ ?_)
  rw [hf]
  exact ⟨rfl, _, ⟨cf, cg, rfl, h3.mono l12, h5.mono l12⟩, rfl⟩
end Go.V
