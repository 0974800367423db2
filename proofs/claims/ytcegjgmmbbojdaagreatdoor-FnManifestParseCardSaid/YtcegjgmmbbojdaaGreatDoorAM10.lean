import Derived.Test.YtcegjgmmbbojdaaGreatDoorAW
import Derived.Test.YtcegjgmmbbojdaaGreatDoorAM9
import Derived.Test.YtcegjgmmbbojdaaGreatDoorAM4
set_option linter.unusedVariables false
set_option linter.unusedSimpArgs false
namespace Go.V
open Go.Proofs.Tryz
open Go.RowKit
set_option maxRecDepth 10000
attribute [local irreducible] Run Ops QD
set_option maxHeartbeats 2000000 in
theorem reader_word (w : Bs) (I : Imm) (xs : Bs) (v : Value) (db off c r p d : Nat) (hR0 : Rd I v xs db off c) (hp : p <= xs.length) (hl : xs.length <= 1099511627776) (hw : w ≠ []) (hw2 : w.length <= 1000) :
  Spec prog 66 [.pointer (some ⟨r, 0, none⟩), str w] I [(r, rdr v p d)] fun x J M => J = I /\
   x = .bool (wordR w (xs.drop p)).isSome /\ M = [(r, rdr v (xs.length - ((wordR w (xs.drop p)).getD (xs.drop p)).length) d)] := by
 obtain rfl := hR0.eq
 have hcap := hR0.cap
 have hwl : 0 < w.length := List.length_pos_iff.2 hw
 have hpd : xs.length - (xs.drop p).length = p := by rw [List.length_drop]; omega
 refine Spec.enter 48 [(0, _), (1, _)] func66 rfl ntmps66 (by simp) rfl ?_
 intro C hCf hR hCI
 refine rS ?_
 refine rO (fun Z hZ => (eE rfl (zN hZ ?_)))
 repeat refine rS ?_
 by_cases hlt : xs.length < p + w.length
 ·have hno : wordR w (xs.drop p) = none := by
   unfold wordR
   rw [if_neg]
   intro e
   have := congrArg List.length e
   simp at this; omega
  refine rQ (fun Z hZ => (eE rfl (eE rfl (eE rfl (gY (Yv.load 0 T rfl rfl rfl rfl) (eE rfl (fE (Ev.lenS T rfl rfl) (fE (Ev.addK (r := ((p + w.length : Nat) : Int)) rfl rfl (by rw [wI (by omega) (by omega)]; omega)) (eE rfl (eE rfl (eE rfl (gY (Yv.load 0 T rfl rfl rfl rfl) (eE rfl (kT (Ev.gtr rfl rfl) (by omega) (eE rfl ?_)))))))))))))))
  iterate 19 refine oF ?_
  refine eE rfl (zN hZ ?_)
  repeat (first | refine rS ?_ | refine rT rfl ?_)
  refine rO (fun Z hZ => (eE rfl (zN hZ ?_)))
  skip
  refine Run.ret1 (by rw [hCf]; exact func66) results66 rfl (hR _ _ _ ?_)
  rw [hno]
  exact ⟨rfl, rfl, by rw [Option.getD_none, hpd]⟩
 ·have hcut := (hR0.cut (p := p) (q := p + w.length) (by omega) (by omega) (by omega)).sl
  have ht : (xs.take (p + w.length)).drop p = (xs.drop p).take w.length := by rw [List.drop_take]; congr 1; omega
  rw [ht] at hcut
  have hcut2 : Sl tU8 I (.slice (if c = p then some ⟨db, off, none⟩ else (some (⟨db, off, none⟩ : Addr)).map (·.add (p * 1))) (p + w.length - p) (c - p)) ((xs.drop p).take w.length) := hcut
  by_cases he : (xs.drop p).take w.length = w
  ·have hyes : wordR w (xs.drop p) = some ((xs.drop p).drop w.length) := by unfold wordR; rw [if_pos he]
   have hend : xs.length - ((xs.drop p).drop w.length).length = p + w.length := by simp only [List.length_drop]; omega
   refine rQ (fun Z hZ => (eE rfl (eE rfl (eE rfl (gY (Yv.load 0 T rfl rfl rfl rfl) (eE rfl (fE (Ev.lenS T rfl rfl) (fE (Ev.addK (r := ((p + w.length : Nat) : Int)) rfl rfl (by rw [wI (by omega) (by omega)]; omega)) (eE rfl (eE rfl (eE rfl (gY (Yv.load 0 T rfl rfl rfl rfl) (eE rfl (kF (Ev.gtr rfl rfl) (by omega) ?_))))))))))))))
   iterate 4 refine eE rfl ?_
   refine gY (Yv.load 0 T rfl rfl rfl rfl) (eE rfl (eE rfl (eE rfl (gY (Yv.load 0 T rfl rfl rfl rfl) (eE rfl (eE rfl (eE rfl (gY (Yv.load 0 T rfl rfl rfl rfl) (eE rfl (fE (Ev.lenS T rfl rfl) (fE (Ev.addK (r := ((p + w.length : Nat) : Int)) rfl rfl (by rw [wI (by omega) (by omega)]; omega)) (fE (Ev.sliceLH (p := p) (q := p + w.length) T rfl rfl rfl rfl rfl (by omega) (by omega)) (gY (Yv.bytesSl T hcut2 rfl rfl rfl rfl) (eE rfl (fE ((Ev.neqS rfl rfl).as (show _ = Value.bool false from congrArg Value.bool (by rw [decide_eq_true he]; rfl))) (eE rfl (zN hZ ?_)))))))))))))))))
   repeat (first | refine rS ?_ | refine rK ?_ | refine rF rfl ?_)
   refine rP 9 (fun Z hZ => (eE rfl (eE rfl (eE rfl (gY (Yv.load 0 T rfl rfl rfl rfl) (eE rfl (fE (Ev.lenS T rfl rfl) (fE (Ev.addK (r := ((p + w.length : Nat) : Int)) rfl rfl (by rw [wI (by omega) (by omega)]; omega)) (eE rfl (eE rfl (zN hZ ((Ops.store 0 rfl rfl rfl rfl rfl (T.sizeOk rfl) rfl (lb rfl) rfl rfl (Ops.nil (rS (rO (fun Z hZ => (eE rfl (zN hZ ?_)))))))))))))))))))
   skip
   refine Run.ret1 (by rw [hCf]; exact func66) results66 rfl (hR _ _ _ ?_)
   rw [hyes]
   exact ⟨rfl, rfl, by rw [Option.getD_some, hend]; rfl⟩
  ·have hno : wordR w (xs.drop p) = none := by unfold wordR; rw [if_neg he]
   refine rQ (fun Z hZ => (eE rfl (eE rfl (eE rfl (gY (Yv.load 0 T rfl rfl rfl rfl) (eE rfl (fE (Ev.lenS T rfl rfl) (fE (Ev.addK (r := ((p + w.length : Nat) : Int)) rfl rfl (by rw [wI (by omega) (by omega)]; omega)) (eE rfl (eE rfl (eE rfl (gY (Yv.load 0 T rfl rfl rfl rfl) (eE rfl (kF (Ev.gtr rfl rfl) (by omega) ?_))))))))))))))
   iterate 4 refine eE rfl ?_
   refine gY (Yv.load 0 T rfl rfl rfl rfl) (eE rfl (eE rfl (eE rfl (gY (Yv.load 0 T rfl rfl rfl rfl) (eE rfl (eE rfl (eE rfl (gY (Yv.load 0 T rfl rfl rfl rfl) (eE rfl (fE (Ev.lenS T rfl rfl) (fE (Ev.addK (r := ((p + w.length : Nat) : Int)) rfl rfl (by rw [wI (by omega) (by omega)]; omega)) (fE (Ev.sliceLH (p := p) (q := p + w.length) T rfl rfl rfl rfl rfl (by omega) (by omega)) (gY (Yv.bytesSl T hcut2 rfl rfl rfl rfl) (eE rfl (fE ((Ev.neqS rfl rfl).as (show _ = Value.bool true from congrArg Value.bool (by rw [decide_eq_false he]; rfl))) (eE rfl (zN hZ ?_)))))))))))))))))
   repeat (first | refine rS ?_ | refine rT rfl ?_)
   refine rO (fun Z hZ => (eE rfl (zN hZ ?_)))
   skip
   refine Run.ret1 (by rw [hCf]; exact func66) results66 rfl (hR _ _ _ ?_)
   rw [hno]
   exact ⟨rfl, rfl, by rw [Option.getD_none, hpd]⟩
abbrev posR (xs t : Bs) : Nat := xs.length - t.length
theorem digs_some {s t : Bs} (h : digsR s = some t) : t = s.dropWhile isDg := by
 unfold digsR at h
 split at h
 ·cases h
 ·split at h
  ·rename_i hd
   cases h
   rw [List.dropWhile_cons, if_pos hd]
  ·cases h
theorem digs_end {xs : Bs} {p q : Nat} (hpq : p <= q) (hq : q <= xs.length) (hs : (xs.drop q).dropWhile isDg = (xs.drop p).dropWhile isDg) (hyes : p < q -> ∃ t, digsR (xs.drop p) = some t)
  (hst : ∀ h : q < xs.length, isDg (xs.getD q 0) = false) : (digsR (xs.drop p)).isSome = decide (p < q) /\ posR xs ((digsR (xs.drop p)).getD (xs.drop p)) = q := by
 have hd : (xs.drop q).dropWhile isDg = xs.drop q := by
  by_cases h : q < xs.length
  ·rw [drop_at h, List.dropWhile_cons, if_neg (by rw [hst h]; decide)]
  ·rw [List.drop_eq_nil_of_le (by omega)]; rfl
 rcases Nat.eq_or_lt_of_le hpq with e | e
 ·subst e
  have : digsR (xs.drop p) = none := by
   by_cases h : p < xs.length
   ·rw [drop_at h, digsR, if_neg (by rw [hst h]; decide)]
   ·rw [List.drop_eq_nil_of_le (by omega)]; rfl
  rw [this]
  refine ⟨by simp, ?_⟩
  simp only [posR, Option.getD_none, List.length_drop]; omega
 ·obtain ⟨t, ht⟩ := hyes e
  rw [ht]
  have := digs_some ht
  rw [<- hs, hd] at this
  subst this
  refine ⟨by simp [e], ?_⟩
  simp only [posR, Option.getD_some, List.length_drop]; omega
set_option maxHeartbeats 4000000 in
theorem reader_digits (I : Imm) (xs : Bs) (v : Value) (db off c r p d : Nat) (hR0 : Rd I v xs db off c) (hp : p <= xs.length) (hl : xs.length <= 1099511627776) :
  Spec prog 72 [.pointer (some ⟨r, 0, none⟩)] I [(r, rdr v p d)] fun x J M => J = I /\ x = .bool (digsR (xs.drop p)).isSome /\ M = [(r, rdr v (posR xs ((digsR (xs.drop p)).getD (xs.drop p))) d)] := by
 obtain rfl := hR0.eq
 have hcap := hR0.cap
 refine Spec.enter 57 [(0, _)] func72 rfl ntmps72 (by simp) rfl ?_
 intro C hCf hR hCI
 refine rS ?_
 refine rO (fun Z hZ => (eE rfl (zN hZ ((rS (rO (fun Z hZ => (eE rfl (eE rfl (eE rfl (gY (Yv.load 0 T rfl rfl rfl rfl) (eE rfl (zN hZ ?_)))))))))))))
 refine rS ?_; refine rB ?_
 refine Run.keep [0, 3] [_, _] rfl ?_
 refine Run.rounds (fun m env L J => ∃ q, m = xs.length - q /\ p <= q /\ q <= xs.length /\ (xs.drop q).dropWhile isDg = (xs.drop p).dropWhile isDg /\ (p < q -> ∃ t, digsR (xs.drop p) = some t) /\ env = [(0, .pointer (some ⟨r, 0, none⟩)), (3, .int .i64 (p : Int))] /\
  L = [(r, rdr (.slice (some ⟨db, off, none⟩) xs.length c) q d)] /\ J = I) (xs.length - p) ⟨p, rfl, Nat.le_refl _, hp, rfl, fun h => by omega, rfl, rfl, rfl⟩ ?_
 rintro m env L J ⟨q, rfl, hpq, hq, hs, hyes, rfl, rfl, rfl⟩ ih
 by_cases hlt : q < xs.length
 ·have hA := hR0.at' q hlt
  by_cases h1 : 48 <= (xs.getD q 0).toNat
  ·by_cases h2 : (xs.getD q 0).toNat <= 57
   ·have hd : isDg (xs.getD q 0) = true := by simp only [isDg, Bool.and_eq_true, decide_eq_true_eq]; exact ⟨h1, h2⟩
    have key : (xs.drop (q + 1)).dropWhile isDg = (xs.drop p).dropWhile isDg := by rw [<- hs, drop_at hlt, List.dropWhile_cons, if_pos hd]
    have key2 : p < q + 1 -> ∃ t, digsR (xs.drop p) = some t := fun _ => by
     rcases Nat.eq_or_lt_of_le hpq with e | e
     ·subst e; rw [drop_at hlt, digsR, if_pos hd]; exact ⟨_, rfl⟩
     ·exact hyes e
    generalize xs.getD q 0 = b at hA h1 h2
    repeat refine rS ?_
    refine rQ (fun Z hZ => (eE rfl (eE rfl (eE rfl (gY (Yv.load 0 T rfl rfl rfl rfl) (eE rfl (eE rfl (eE rfl (gY (Yv.load 0 T rfl rfl rfl rfl) (eE rfl (kT (Ev.lss rfl rfl) (by omega) ?_)))))))))))
    iterate 4 refine eE rfl ?_
    refine gY (Yv.load 0 T rfl rfl rfl rfl) (eE rfl (eE rfl (eE rfl (gY (Yv.load 0 T rfl rfl rfl rfl) (fE (Ev.indexS T rfl rfl rfl rfl om om) (gY (Yv.loadI T hA rfl rfl) (kT (Ev.geq rfl rfl) (by omega) ?_)))))))
    iterate 5 refine eE rfl ?_
    refine gY (Yv.load 0 T rfl rfl rfl rfl) (eE rfl (eE rfl (eE rfl (gY (Yv.load 0 T rfl rfl rfl rfl) (fE (Ev.indexS T rfl rfl rfl rfl om om) (gY (Yv.loadI T hA rfl rfl) (kT (Ev.leq rfl rfl) (by omega) (eE rfl (zN hZ ?_)))))))))
    repeat (first | refine rK ?_ | refine rB ?_ | refine rT rfl ?_)
    refine rP 7 (fun Z hZ => (eE rfl (eE rfl (eE rfl (gY (Yv.load 0 T rfl rfl rfl rfl) (fE (Ev.addK (r := ((q + 1 : Nat) : Int)) rfl rfl (by rw [wI (by omega) (by omega)]; omega)) (eE rfl (eE rfl (zN hZ ((Ops.store 0 rfl rfl rfl rfl rfl (T.sizeOk rfl) rfl (lb rfl) rfl rfl (Ops.nil (rI (Run.keep [0, 3] [_, _] rfl ?_))))))))))))))
    exact ih (xs.length - (q + 1)) _ _ _ (by omega) ⟨q + 1, rfl, by omega, by omega, key, key2, rfl, rfl, rfl⟩
   ·have hd : isDg (xs.getD q 0) = false := by simp only [isDg, Bool.and_eq_false_iff, decide_eq_false_iff_not]; exact .inr h2
    generalize hb : xs.getD q 0 = b at hA h1 h2
    repeat refine rS ?_
    refine rQ (fun Z hZ => (eE rfl (eE rfl (eE rfl (gY (Yv.load 0 T rfl rfl rfl rfl) (eE rfl (eE rfl (eE rfl (gY (Yv.load 0 T rfl rfl rfl rfl) (eE rfl (kT (Ev.lss rfl rfl) (by omega) ?_)))))))))))
    iterate 4 refine eE rfl ?_
    refine gY (Yv.load 0 T rfl rfl rfl rfl) (eE rfl (eE rfl (eE rfl (gY (Yv.load 0 T rfl rfl rfl rfl) (fE (Ev.indexS T rfl rfl rfl rfl om om) (gY (Yv.loadI T hA rfl rfl) (kT (Ev.geq rfl rfl) (by omega) ?_)))))))
    iterate 5 refine eE rfl ?_
    refine gY (Yv.load 0 T rfl rfl rfl rfl) (eE rfl (eE rfl (eE rfl (gY (Yv.load 0 T rfl rfl rfl rfl) (fE (Ev.indexS T rfl rfl rfl rfl om om) (gY (Yv.loadI T hA rfl rfl) (kF (Ev.leq rfl rfl) (by omega) (eE rfl (zN hZ ?_)))))))))
    repeat (first | refine rS ?_ | refine Run.exit rfl ?_ | refine rF rfl ?_)
    refine rO (fun Z hZ => (eE rfl (eE rfl (eE rfl (gY (Yv.load 0 T rfl rfl rfl rfl) (eE rfl (fE (Ev.gtr rfl rfl) (eE rfl (zN hZ ?_)))))))))
    skip
    refine Run.ret1 (by rw [hCf]; exact func72) results72 rfl (hR _ _ _ ?_)
    obtain ⟨f1, f2⟩ := digs_end hpq hq hs hyes (by exact fun _ => hd)
    rw [f1, f2]
    exact ⟨rfl, congrArg Value.bool (by simp), rfl⟩
  ·have hd : isDg (xs.getD q 0) = false := by simp only [isDg, Bool.and_eq_false_iff, decide_eq_false_iff_not]; exact .inl h1
   generalize hb : xs.getD q 0 = b at hA h1
   repeat refine rS ?_
   refine rQ (fun Z hZ => (eE rfl (eE rfl (eE rfl (gY (Yv.load 0 T rfl rfl rfl rfl) (eE rfl (eE rfl (eE rfl (gY (Yv.load 0 T rfl rfl rfl rfl) (eE rfl (kT (Ev.lss rfl rfl) (by omega) ?_)))))))))))
   iterate 4 refine eE rfl ?_
   refine gY (Yv.load 0 T rfl rfl rfl rfl) (eE rfl (eE rfl (eE rfl (gY (Yv.load 0 T rfl rfl rfl rfl) (fE (Ev.indexS T rfl rfl rfl rfl om om) (gY (Yv.loadI T hA rfl rfl) (kF (Ev.geq rfl rfl) (by omega) (eE rfl (eE rfl ?_)))))))))
   iterate 11 refine oF ?_
   refine eE rfl (zN hZ ?_)
   repeat (first | refine rS ?_ | refine Run.exit rfl ?_ | refine rF rfl ?_)
   refine rO (fun Z hZ => (eE rfl (eE rfl (eE rfl (gY (Yv.load 0 T rfl rfl rfl rfl) (eE rfl (fE (Ev.gtr rfl rfl) (eE rfl (zN hZ ?_)))))))))
   skip
   refine Run.ret1 (by rw [hCf]; exact func72) results72 rfl (hR _ _ _ ?_)
   obtain ⟨f1, f2⟩ := digs_end hpq hq hs hyes (by exact fun _ => hd)
   rw [f1, f2]
   exact ⟨rfl, congrArg Value.bool (by simp), rfl⟩
 ·skip
  repeat refine rS ?_
  refine rQ (fun Z hZ => (eE rfl (eE rfl (eE rfl (gY (Yv.load 0 T rfl rfl rfl rfl) (eE rfl (eE rfl (eE rfl (gY (Yv.load 0 T rfl rfl rfl rfl) (eE rfl (kF (Ev.lss rfl rfl) (by omega) (eE rfl ?_))))))))))))
  iterate 11 refine oF ?_
  iterate 2 refine eE rfl ?_
  iterate 11 refine oF ?_
  refine eE rfl (zN hZ ?_)
  repeat (first | refine rS ?_ | refine Run.exit rfl ?_ | refine rF rfl ?_)
  refine rO (fun Z hZ => (eE rfl (eE rfl (eE rfl (gY (Yv.load 0 T rfl rfl rfl rfl) (eE rfl (fE (Ev.gtr rfl rfl) (eE rfl (zN hZ ?_)))))))))
  skip
  refine Run.ret1 (by rw [hCf]; exact func72) results72 rfl (hR _ _ _ ?_)
  obtain ⟨f1, f2⟩ := digs_end hpq hq hs hyes (by exact fun h => absurd h hlt)
  rw [f1, f2]
  exact ⟨rfl, congrArg Value.bool (by simp), rfl⟩
end Go.V
namespace Go.V
open Go.Proofs.Tryz
open Go.RowKit
set_option maxRecDepth 10000
attribute [local irreducible] Run Ops QD
theorem sfx_drop {xs t s : Bs} (h : Sfx t xs) : xs.drop (posR xs t) = t /\ posR xs t <= xs.length := by
 obtain ⟨u, rfl⟩ := h
 refine ⟨?_, by unfold posR; omega⟩
 unfold posR
 rw [List.length_append, Nat.add_sub_cancel, List.drop_left]
theorem word_at (w t : Bs) (I : Imm) (xs : Bs) (v : Value) (db off c r d : Nat) (hR0 : Rd I v xs db off c) (ht : Sfx t xs) (hl : xs.length <= 1099511627776) (hw : w ≠ []) (hw2 : w.length <= 1000) :
  Spec prog 66 [.pointer (some ⟨r, 0, none⟩), str w] I [(r, rdr v (posR xs t) d)] fun x J M => J = I /\
   x = .bool (wordR w t).isSome /\ M = [(r, rdr v (posR xs ((wordR w t).getD t)) d)] := by
 obtain ⟨h1, h2⟩ := sfx_drop (s := []) ht
 have := reader_word w I xs v db off c r (posR xs t) d hR0 h2 hl hw hw2
 rwa [h1] at this
theorem digits_at (t : Bs) (I : Imm) (xs : Bs) (v : Value) (db off c r d : Nat) (hR0 : Rd I v xs db off c) (ht : Sfx t xs) (hl : xs.length <= 1099511627776) :
  Spec prog 72 [.pointer (some ⟨r, 0, none⟩)] I [(r, rdr v (posR xs t) d)] fun x J M => J = I /\ x = .bool (digsR t).isSome /\ M = [(r, rdr v (posR xs ((digsR t).getD t)) d)] := by
 obtain ⟨h1, h2⟩ := sfx_drop (s := []) ht
 have := reader_digits I xs v db off c r (posR xs t) d hR0 h2 hl
 rwa [h1] at this
theorem blank_at (t : Bs) (I : Imm) (xs : Bs) (v : Value) (db off c r d : Nat) (hR0 : Rd I v xs db off c) (ht : Sfx t xs) (hl : xs.length <= 1099511627776) :
  Spec prog 56 [.pointer (some ⟨r, 0, none⟩)] I [(r, rdr v (posR xs t) d)] fun w J M => M = [(r, rdr v (posR xs (skipB t)) d)] /\ J = I := by
 obtain ⟨h1, h2⟩ := sfx_drop (s := []) ht
 have := reader_blank I xs v db off c r (posR xs t) d hR0 h2 hl
 rwa [h1] at this
theorem Sfx.wordG {w t xs : Bs} (h : Sfx t xs) : Sfx ((wordR w t).getD t) xs := by
 cases e : wordR w t with
 | none => exact h
 | some q => exact (word_sfx e).1.trans h
set_option maxHeartbeats 4000000 in
theorem reader_number (t : Bs) (I : Imm) (xs : Bs) (v : Value) (db off c r d : Nat) (hR0 : Rd I v xs db off c) (ht : Sfx t xs) (hl : xs.length <= 1099511627776) :
  Spec prog 67 [.pointer (some ⟨r, 0, none⟩)] I [(r, rdr v (posR xs t) d)] fun x J M => J = I /\ match numR t with
   | some t' => x = .tuple #[str (eaten t t'), .bool true] /\ M = [(r, rdr v (posR xs t') d)]
   | none => ∃ q, posR xs t <= q /\ q <= xs.length /\ x = .tuple #[str [], .bool false] /\ M = [(r, rdr v q d)] := by
 have hWd : ∀ (w t : Bs), Sfx t xs -> w ≠ [] -> w.length <= 1000 -> _ := fun w t ht hw hw2 => word_at w t I xs v db off c r d hR0 ht hl hw hw2
 have hDg : ∀ (t : Bs), Sfx t xs -> _ := fun t ht => digits_at t I xs v db off c r d hR0 ht hl
 obtain rfl := hR0.eq
 have hcap := hR0.cap
 have le : ∀ {a b : Bs}, Sfx a b -> Sfx b xs -> posR xs b <= posR xs a /\ posR xs a <= xs.length := fun h k => by
  have h1 := h.len
  have h2 := k.len
  unfold posR; omega
 refine Spec.enter 51 [(0, _)] func67 rfl ntmps67 (by simp) rfl ?_
 intro C hCf hR hCI
 refine rS ?_
 refine rO (fun Z hZ => (eE rfl (eE rfl (zN hZ ((rS (rO (fun Z hZ => (eE rfl (eE rfl (eE rfl (gY (Yv.load 0 T rfl rfl rfl rfl) (eE rfl (zN hZ ((rS (rP 1 (fun Z hZ => (eE rfl (zN hZ ((Ops.callP (N := []) ((hWd [45] t ht dc dc)) (.refl _) rfl dc call66 rfl ?_))))))))))))))))))))))
 rintro x J1 M1 l1 ⟨rfl, rfl, rfl⟩
 refine Ops.nil ?_
 have h1 : Sfx (numR1 t) xs := ht.wordG
 have e1 : (wordR [45] t).getD t = numR1 t := rfl
 rw [e1]
 have hle1 := le (num1_sfx t) ht
 repeat refine rS ?_
 refine Run.piece (fun env L I' => ∃ b q, env = [(0, .pointer (some ⟨r, 0, none⟩)), (4, .int .i64 (posR xs t : Int)), (18, .bool b)] /\ L = [(r, rdr (.slice (some ⟨db, off, none⟩) xs.length c) q d)] /\ J1 = I' /\
  match numR2 (numR1 t) with | some s => b = false /\ q = posR xs s | none => b = true /\ posR xs t <= q /\ q <= xs.length) (fun k' hk => ?_) ?_
 ·skip
  refine Run.region (oP rfl (Ops.callP (N := []) ((hWd [48] _ h1 dc dc)) (.refl _) rfl dc call66 rfl ?_))
  rintro x J2 M2 l2 ⟨rfl, rfl, rfl⟩
  cases h2 : wordR [48] (numR1 t) with
  | some s2 =>
   simp only [Option.isSome_some, Option.getD_some]
   iterate 2 refine oP rfl ?_
   iterate 3 refine Ops.not rfl dc ?_
   refine oP rfl (Ops.nil (Run.keep [0, 4, 18] [_, _, _] rfl ?_))
   exact hk _ _ _ ⟨false, _, rfl, rfl, rfl, by simp only [numR2, h2]; exact ⟨trivial, trivial⟩⟩
  | none =>
   simp only [Option.isSome_none, Option.getD_none]
   iterate 3 refine oP rfl ?_
   refine Ops.callP (N := []) ((hDg _ h1)) (.refl _) rfl dc call72 rfl ?_
   rintro x J3 M3 l3 ⟨rfl, rfl, rfl⟩
   have e2 : numR2 (numR1 t) = digsR (numR1 t) := by simp only [numR2, h2]
   cases h3 : digsR (numR1 t) with
   | some s2 =>
    simp only [Option.isSome_some, Option.getD_some]
    iterate 2 refine oP rfl ?_
    refine Ops.nil (Run.keep [0, 4, 18] [_, _, _] rfl ?_)
    exact hk _ _ _ ⟨false, _, rfl, rfl, rfl, by rw [e2, h3]; exact ⟨rfl, rfl⟩⟩
   | none =>
    simp only [Option.isSome_none, Option.getD_none]
    iterate 2 refine oP rfl ?_
    refine Ops.nil (Run.keep [0, 4, 18] [_, _, _] rfl ?_)
    exact hk _ _ _ ⟨true, _, rfl, rfl, rfl, by rw [e2, h3]; exact ⟨rfl, hle1⟩⟩
 rintro env L I' ⟨b, q, rfl, rfl, rfl, hb⟩
 cases hn2 : numR2 (numR1 t) with
 | none =>
  rw [hn2] at hb
  obtain ⟨rfl, hq1, hq2⟩ := hb
  have hn : numR t = none := by simp only [numR, hn2, Option.bind_none]
  repeat (first | refine rS ?_ | refine rT rfl ?_)
  refine rO (fun Z hZ => (eE rfl (eE rfl (zN hZ ?_))))
  skip
  refine Run.ret2 (by rw [hCf]; exact func67) results67 rfl rfl (hR _ _ _ ?_)
  rw [hn]
  exact ⟨rfl, q, hq1, hq2, rfl, rfl⟩
 | some s2 =>
  rw [hn2] at hb
  obtain ⟨rfl, rfl⟩ := hb
  have h2 : Sfx s2 xs := (num2_sfx hn2).1.trans h1
  have k2 : Sfx s2 t := (num2_sfx hn2).1.trans (num1_sfx t)
  have hle2 := le k2 ht
  repeat (first | refine rS ?_ | refine rK ?_ | refine rF rfl ?_)
  refine Run.piece (fun env L I' => ∃ b q, env = [(0, .pointer (some ⟨r, 0, none⟩)), (4, .int .i64 (posR xs t : Int)), (25, .bool b)] /\ L = [(r, rdr (.slice (some ⟨db, off, none⟩) xs.length c) q d)] /\ J1 = I' /\
   match numR3 s2 with | some s => b = false /\ q = posR xs s | none => b = true /\ posR xs t <= q /\ q <= xs.length) (fun k' hk => ?_) ?_
  ·skip
   refine Run.region (oP rfl (Ops.callP (N := []) ((hWd [46] _ h2 dc dc)) (.refl _) rfl dc call66 rfl ?_))
   rintro x J2 M2 l2 ⟨rfl, rfl, rfl⟩
   cases h3 : wordR [46] s2 with
   | none =>
    simp only [Option.isSome_none, Option.getD_none]
    refine oP rfl (Ops.not rfl dc (Ops.not rfl dc (Ops.not rfl dc (oP rfl (Ops.nil (Run.keep [0, 4, 25] [_, _, _] rfl ?_))))))
    exact hk _ _ _ ⟨false, _, rfl, rfl, rfl, by simp only [numR3, h3]; exact ⟨trivial, trivial⟩⟩
   | some s3 =>
    have h3' : Sfx s3 xs := (word_sfx h3).1.trans h2
    have k3 : Sfx s3 t := (word_sfx h3).1.trans k2
    simp only [Option.isSome_some, Option.getD_some]
    iterate 2 refine oP rfl ?_
    refine Ops.callP (N := []) ((hDg _ h3')) (.refl _) rfl dc call72 rfl ?_
    rintro x J3 M3 l3 ⟨rfl, rfl, rfl⟩
    have e3 : numR3 s2 = digsR s3 := by simp only [numR3, h3]
    cases h4 : digsR s3 with
    | some s4 =>
     simp only [Option.isSome_some, Option.getD_some]
     iterate 2 refine oP rfl ?_
     refine Ops.nil (Run.keep [0, 4, 25] [_, _, _] rfl ?_)
     exact hk _ _ _ ⟨false, _, rfl, rfl, rfl, by rw [e3, h4]; exact ⟨rfl, rfl⟩⟩
    | none =>
     simp only [Option.isSome_none, Option.getD_none]
     iterate 2 refine oP rfl ?_
     refine Ops.nil (Run.keep [0, 4, 25] [_, _, _] rfl ?_)
     exact hk _ _ _ ⟨true, _, rfl, rfl, rfl, by rw [e3, h4]; exact ⟨rfl, le k3 ht⟩⟩
  rintro env L I' ⟨b, q, rfl, rfl, rfl, hb⟩
  cases hn3 : numR3 s2 with
  | none =>
   rw [hn3] at hb
   obtain ⟨rfl, hq1, hq2⟩ := hb
   have hn : numR t = none := by simp only [numR, hn2, Option.bind_some, hn3, Option.bind_none]
   repeat (first | refine rS ?_ | refine rT rfl ?_)
   refine rO (fun Z hZ => (eE rfl (eE rfl (zN hZ ?_))))
   skip
   refine Run.ret2 (by rw [hCf]; exact func67) results67 rfl rfl (hR _ _ _ ?_)
   rw [hn]
   exact ⟨rfl, q, hq1, hq2, rfl, rfl⟩
  | some s3 =>
   rw [hn3] at hb
   obtain ⟨rfl, rfl⟩ := hb
   have h3 : Sfx s3 xs := (num3_sfx hn3).trans h2
   have k3 : Sfx s3 t := (num3_sfx hn3).trans k2
   have hN : numR t = numR4 s3 := by simp only [numR, hn2, Option.bind_some, hn3]
   repeat (first | refine rS ?_ | refine rK ?_ | refine rF rfl ?_)
   refine Run.piece (fun env L I' => ∃ b q, env = [(0, .pointer (some ⟨r, 0, none⟩)), (4, .int .i64 (posR xs t : Int)), (31, .bool b)] /\ L = [(r, rdr (.slice (some ⟨db, off, none⟩) xs.length c) q d)] /\ J1 = I' /\
    ((b = false /\ numR4 s3 = some s3 /\ q = posR xs s3) \/ (b = true /\ ∃ s4, Sfx s4 s3 /\ q = posR xs s4 /\ numR4 s3 = digsR ((wordR [43] s4).getD (numR1 s4))))) (fun k' hk => ?_) ?_
   ·skip
    refine Run.region (oP rfl (Ops.callP (N := []) ((hWd [101] _ h3 dc dc)) (.refl _) rfl dc call66 rfl ?_))
    rintro x J2 M2 l2 ⟨rfl, rfl, rfl⟩
    cases h4 : wordR [101] s3 with
    | some s4 =>
     simp only [Option.isSome_some, Option.getD_some]
     refine oP rfl (Ops.not rfl dc (Ops.not rfl dc (oP rfl (Ops.nil (Run.keep [0, 4, 31] [_, _, _] rfl ?_)))))
     exact hk _ _ _ ⟨true, _, rfl, rfl, rfl, .inr ⟨rfl, s4, (word_sfx h4).1, rfl, by simp only [numR4, h4]⟩⟩
    | none =>
     simp only [Option.isSome_none, Option.getD_none]
     iterate 2 refine oP rfl ?_
     refine Ops.callP (N := []) ((hWd [69] _ h3 dc dc)) (.refl _) rfl dc call66 rfl ?_
     rintro x J3 M3 l3 ⟨rfl, rfl, rfl⟩
     cases h5 : wordR [69] s3 with
     | some s4 =>
      simp only [Option.isSome_some, Option.getD_some]
      refine oP rfl (Ops.nil (Run.keep [0, 4, 31] [_, _, _] rfl ?_))
      exact hk _ _ _ ⟨true, _, rfl, rfl, rfl, .inr ⟨rfl, s4, (word_sfx h5).1, rfl, by simp only [numR4, h4, h5]⟩⟩
     | none =>
      simp only [Option.isSome_none, Option.getD_none]
      refine oP rfl (Ops.nil (Run.keep [0, 4, 31] [_, _, _] rfl ?_))
      exact hk _ _ _ ⟨false, _, rfl, rfl, rfl, .inl ⟨rfl, by simp only [numR4, h4, h5], rfl⟩⟩
   rintro env L I' ⟨b, q, rfl, rfl, rfl, hb⟩
   skip
   refine Run.piece (fun env L I' => ∃ s4, env = [(0, .pointer (some ⟨r, 0, none⟩)), (4, .int .i64 (posR xs t : Int))] /\ L = [(r, rdr (.slice (some ⟨db, off, none⟩) xs.length c) (posR xs s4) d)] /\ J1 = I' /\ Sfx s4 t /\ numR4 s3 = some s4) (fun k' hk => ?_) ?_
   ·rcases hb with ⟨rfl, h4, rfl⟩ | ⟨rfl, s4, k4, rfl, h4⟩
    ·skip
     repeat (first | refine rK ?_ | refine rF rfl ?_)
     refine Run.keep [0, 4] [_, _] rfl ?_
     exact hk _ _ _ ⟨s3, rfl, rfl, rfl, k3, h4⟩
    ·have h4' : Sfx s4 xs := k4.trans h3
     have k4' : Sfx s4 t := k4.trans k3
     repeat (first | refine rS ?_ | refine rT rfl ?_)
     refine Run.piece (fun env L I' => ∃ b q, env = [(0, .pointer (some ⟨r, 0, none⟩)), (4, .int .i64 (posR xs t : Int)), (34, .bool b)] /\ L = [(r, rdr (.slice (some ⟨db, off, none⟩) xs.length c) (posR xs q) d)] /\ J1 = I' /\
      ((b = false /\ (wordR [43] s4).getD (numR1 s4) = q /\ Sfx q s4) \/ (b = true /\ wordR [43] s4 = none /\ q = s4))) (fun k'' hk' => ?_) ?_
     ·skip
      refine Run.region (oP rfl (Ops.callP (N := []) ((hWd [43] _ h4' dc dc)) (.refl _) rfl dc call66 rfl ?_))
      rintro x J2 M2 l2 ⟨rfl, rfl, rfl⟩
      cases h5 : wordR [43] s4 with
      | some s5 =>
       simp only [Option.isSome_some, Option.getD_some]
       refine oP rfl (Ops.nil (Run.keep [0, 4, 34] [_, _, _] rfl ?_))
       exact hk' _ _ _ ⟨false, s5, rfl, rfl, rfl, .inl ⟨rfl, by rw [h5]; rfl, (word_sfx h5).1⟩⟩
      | none =>
       simp only [Option.isSome_none, Option.getD_none]
       refine oP rfl (Ops.nil (Run.keep [0, 4, 34] [_, _, _] rfl ?_))
       exact hk' _ _ _ ⟨true, s4, rfl, rfl, rfl, .inr ⟨rfl, h5, rfl⟩⟩
     rintro env L I' ⟨b, q, rfl, rfl, rfl, hb⟩
     skip
     refine Run.piece (fun env L I' => env = [(0, .pointer (some ⟨r, 0, none⟩)), (4, .int .i64 (posR xs t : Int))] /\ L = [(r, rdr (.slice (some ⟨db, off, none⟩) xs.length c) (posR xs ((wordR [43] s4).getD (numR1 s4))) d)] /\ J1 = I') (fun k'' hk' => ?_) ?_
     ·rcases hb with ⟨rfl, h5, h6⟩ | ⟨rfl, h5, rfl⟩
      ·skip
       repeat (first | refine rK ?_ | refine rF rfl ?_)
       refine Run.keep [0, 4] [_, _] rfl ?_
       exact hk' _ _ _ ⟨rfl, by rw [h5], rfl⟩
      ·skip
       refine rT rfl ?_
       refine rP 1 (fun Z hZ => (eE rfl (zN hZ ((Ops.callP (N := []) ((hWd [45] _ h4' dc dc)) (.refl _) rfl dc call66 rfl ?_)))))
       rintro x J2 M2 l2 ⟨rfl, rfl, rfl⟩
       refine Ops.nil (Run.keep [0, 4] [_, _] rfl ?_)
       exact hk' _ _ _ ⟨rfl, by rw [h5]; rfl, rfl⟩
     rintro env L I' ⟨rfl, rfl, rfl⟩
     have ks : Sfx ((wordR [43] s4).getD (numR1 s4)) s4 := sgn_sfx s4
     generalize (wordR [43] s4).getD (numR1 s4) = s5 at h4 ks
     refine rS ?_
     refine rP 1 (fun Z hZ => (eE rfl (zN hZ ((Ops.callP (N := []) ((hDg _ (ks.trans h4'))) (.refl _) rfl dc call72 rfl ?_)))))
     rintro x J3 M3 l3 ⟨rfl, rfl, rfl⟩
     cases h6 : digsR s5 with
     | some s6 =>
      simp only [Option.isSome_some, Option.getD_some]
      refine oP rfl (Ops.nil ?_)
      repeat (first | refine rK ?_ | refine rF rfl ?_)
      refine Run.keep [0, 4] [_, _] rfl ?_
      exact hk _ _ _ ⟨s6, rfl, rfl, rfl, ((digs_sfx h6).1.trans ks).trans k4', by rw [h4, h6]⟩
     | none =>
      simp only [Option.isSome_none, Option.getD_none]
      refine oP rfl (Ops.nil ?_)
      have hn : numR t = none := by rw [hN, h4, h6]
      have := le (ks.trans k4') ht
      repeat (first | refine rS ?_ | refine rT rfl ?_)
      refine rO (fun Z hZ => (eE rfl (eE rfl (zN hZ ?_))))
      skip
      refine Run.ret2 (by rw [hCf]; exact func67) results67 rfl rfl (hR _ _ _ ?_)
      rw [hn]
      exact ⟨rfl, _, this.1, this.2, rfl, rfl⟩
   rintro env L I' ⟨s4, rfl, rfl, rfl, k4, h4⟩
   have hpq := le k4 ht
   have hl4 : s4.length < t.length := (num_sfx (hN.trans h4)).2
   have htl := ht.len
   have hlt : posR xs t < c := by unfold posR; omega
   have hcut := (hR0.cut hpq.1 hpq.2 hlt).sl
   have he : (xs.take (posR xs s4)).drop (posR xs t) = eaten t s4 := by
    obtain ⟨u, hu⟩ := ht
    subst hu
    unfold eaten posR
    have hk := k4.len
    rw [List.length_append, Nat.add_sub_cancel, List.drop_take, List.drop_left]
    congr 1; omega
   rw [he] at hcut
   refine rS ?_
   refine rQ (fun Z hZ => (eE rfl (eE rfl (eE rfl (gY (Yv.load 0 T rfl rfl rfl rfl) ?_)))))
   iterate 4 refine eE rfl ?_
   refine gY (Yv.load 0 T rfl rfl rfl rfl) (fE (Ev.sliceLH (p := posR xs t) (q := posR xs s4) T rfl rfl rfl rfl rfl hpq.1 (by omega)) (gY (Yv.bytesSl T hcut rfl rfl rfl rfl) (eE rfl (eE rfl (zN hZ ?_)))))
   skip
   refine Run.ret2 (by rw [hCf]; exact func67) results67 rfl rfl (hR _ _ _ ?_)
   rw [hN, h4]
   exact ⟨rfl, rfl, rfl⟩
end Go.V
namespace Go.V
open Go.Proofs.Tryz
open Go.RowKit
set_option maxRecDepth 10000
attribute [local irreducible] Run Ops QD
theorem sfx_getD {xs s : Bs} {c : UInt8} (h : Sfx (c :: s) xs) : posR xs (c :: s) < xs.length /\ xs.getD (posR xs (c :: s)) 0 = c /\ posR xs s = posR xs (c :: s) + 1 := by
 obtain ⟨u, rfl⟩ := h
 have e : posR (u ++ c :: s) (c :: s) = u.length := by unfold posR; rw [List.length_append, Nat.add_sub_cancel]
 refine ⟨by rw [e]; simp, ?_, ?_⟩
 ·rw [e, List.getD_eq_getElem?_getD, List.getElem?_append_right (Nat.le_refl _)]; simp
 ·rw [e]; unfold posR; simp only [List.length_append, List.length_cons]; omega
theorem unit_short : ∀ (k x : Nat) (s : Bs), s.length < k -> unitR k x s = none
 | 0, x, s, h => by omega
 | k + 1, x, [], h => rfl
 | k + 1, x, c :: s, h => by
  simp only [unitR]
  split
  ·rfl
  ·exact unit_short k _ s (by simpa using h)
theorem shl4 (y : Nat) : ((y : Nat) : Int) * 2 ^ (4 : Int).toNat = ((y * 16 : Nat) : Int) := by
 show ((y : Nat) : Int) * 16 = _
 omega
set_option maxHeartbeats 4000000 in
theorem reader_unit (t : Bs) (I : Imm) (xs : Bs) (v : Value) (db off c r d : Nat) (hR0 : Rd I v xs db off c) (ht : Sfx t xs) (hl : xs.length <= 1099511627776) :
  Spec prog 71 [.pointer (some ⟨r, 0, none⟩)] I [(r, rdr v (posR xs t) d)] fun x J M => J = I /\ match unitR 4 0 t with
   | some (y, t') => x = .tuple #[.int .i32 (y : Int), .bool true] /\ M = [(r, rdr v (posR xs t') d)] /\ y < 65536
   | none => ∃ q, posR xs t <= q /\ q <= xs.length /\ x = .tuple #[.int .i32 0, .bool false] /\ M = [(r, rdr v q d)] := by
 obtain rfl := hR0.eq
 have hcap := hR0.cap
 have htl := ht.len
 refine Spec.enter 78 [(0, _)] func71 rfl ntmps71 (by simp) rfl ?_
 intro C hCf hR hCI
 refine rS ?_
 refine rO (fun Z hZ => (eE rfl (eE rfl (zN hZ ?_))))
 repeat refine rS ?_
 by_cases hlt : t.length < 4
 ·skip
  refine rQ (fun Z hZ => (eE rfl (eE rfl (eE rfl (gY (Yv.load 0 T rfl rfl rfl rfl) (fE (Ev.addK (r := ((posR xs t + 4 : Nat) : Int)) rfl rfl (by unfold posR; rw [wI (by omega) (by omega)]; omega)) (eE rfl (eE rfl (eE rfl (gY (Yv.load 0 T rfl rfl rfl rfl) (eE rfl (kT (Ev.gtr rfl rfl) (by unfold posR; omega) (zN hZ ?_)))))))))))))
  repeat (first | refine rS ?_ | refine rT rfl ?_)
  refine rO (fun Z hZ => (eE rfl (eE rfl (zN hZ ?_))))
  skip
  refine Run.ret2 (by rw [hCf]; exact func71) results71 rfl rfl (hR _ _ _ ?_)
  rw [unit_short 4 0 t hlt]
  exact ⟨rfl, _, Nat.le_refl _, by unfold posR; omega, rfl, rfl⟩
 refine rQ (fun Z hZ => (eE rfl (eE rfl (eE rfl (gY (Yv.load 0 T rfl rfl rfl rfl) (fE (Ev.addK (r := ((posR xs t + 4 : Nat) : Int)) rfl rfl (by unfold posR; rw [wI (by omega) (by omega)]; omega)) (eE rfl (eE rfl (eE rfl (gY (Yv.load 0 T rfl rfl rfl rfl) (eE rfl (kF (Ev.gtr rfl rfl) (by unfold posR; omega) (zN hZ ?_)))))))))))))
 repeat (first | refine rS ?_ | refine rK ?_ | refine rF rfl ?_)
 refine rO (fun Z hZ => (eE rfl (zN hZ ((rB (Run.keep [0, 2, 16] [_, _, _] rfl ?_))))))
 refine Run.rounds (fun m env L J => ∃ i y s, m = 4 - i /\ i <= 4 /\ Sfx s t /\ unitR (4 - i) y s = unitR 4 0 t /\ y < 16 ^ i /\ s.length + i = t.length /\ env = [(0, .pointer (some ⟨r, 0, none⟩)), (2, .int .i32 (y : Int)), (16, .int .i64 (i : Int))] /\
  L = [(r, rdr (.slice (some ⟨db, off, none⟩) xs.length c) (posR xs s) d)] /\ J = I) 4 ⟨0, 0, t, rfl, by omega, Sfx.refl _, rfl, by decide, rfl, rfl, rfl, rfl⟩ ?_
 rintro m env L J ⟨i, y, s, rfl, hi, hs, hu, hy, hsl, rfl, rfl, rfl⟩ ih
 by_cases h4 : i = 4
 ·subst h4
  refine rS ?_
  refine rO (fun Z hZ => (fE (Ev.lss rfl rfl) (zN hZ ?_)))
  repeat (first | refine rS ?_ | refine Run.exit rfl ?_ | refine rF rfl ?_)
  refine rO (fun Z hZ => (eE rfl (eE rfl (eE rfl (zN hZ ?_)))))
  skip
  refine Run.ret2 (by rw [hCf]; exact func71) results71 rfl rfl (hR _ _ _ ?_)
  rw [<- hu]
  exact ⟨rfl, rfl, rfl, hy⟩
 have hy2 : y < 4096 := Nat.lt_of_lt_of_le hy (Nat.pow_le_pow_right (by decide) (show i <= 3 by omega))
 have hsx := hs.trans ht
 obtain ⟨e, s, rfl⟩ : ∃ e s', s = e :: s' := by
  cases s with
  | nil => simp at hsl; omega
  | cons e s => exact ⟨e, s, rfl⟩
 obtain ⟨g1, g2, g3⟩ := sfx_getD hsx
 have hA := hR0.at' _ g1
 rw [g2] at hA
 have he := e.toNat_lt
 refine rS ?_
 refine rO (fun Z hZ => (kT (Ev.lss rfl rfl) (by omega) (zN hZ ?_)))
 repeat (first | refine rS ?_ | refine rK ?_ | refine rB ?_ | refine rT rfl ?_)
 have hpt : posR xs t <= posR xs (e :: s) := by have := hs.len; unfold posR; omega
 generalize hp : posR xs (e :: s) = p at *
 refine rQ (fun Z hZ => (eE rfl (eE rfl (eE rfl (gY (Yv.load 0 T rfl rfl rfl rfl) (eE rfl (eE rfl (eE rfl (gY (Yv.load 0 T rfl rfl rfl rfl) (fE (Ev.indexS T rfl rfl rfl rfl om om) (gY (Yv.loadI T hA rfl rfl) (eE rfl (zN hZ ?_)))))))))))))
 repeat (first | refine rS ?_ | refine rB ?_)
 by_cases k1 : e.toNat < 48
 ·skip
  refine rO (fun Z hZ => (eE rfl (kF (Ev.geq rfl rfl) (by omega) (eE rfl (oF (oF (eE rfl (eE rfl (zN hZ ?_)))))))))
  repeat (first | refine rS ?_ | refine rF rfl ?_)
  refine rO (fun Z hZ => (eE rfl (kF (Ev.geq rfl rfl) (by omega) (eE rfl (oF (oF (eE rfl (eE rfl (zN hZ ?_)))))))))
  repeat (first | refine rS ?_ | refine rF rfl ?_)
  refine rO (fun Z hZ => (eE rfl (kF (Ev.geq rfl rfl) (by omega) (eE rfl (oF (oF (eE rfl (eE rfl (zN hZ ?_)))))))))
  repeat (first | refine rS ?_ | refine rF rfl ?_)
  refine rO (fun Z hZ => (eE rfl (eE rfl (zN hZ ?_))))
  skip
  refine Run.ret2 (by rw [hCf]; exact func71) results71 rfl rfl (hR _ _ _ ?_)
  have hn : unitR 4 0 t = none := by
   rw [<- hu, show 4 - i = 3 - i + 1 by omega]
   simp only [unitR]
   rw [show hexV e = none from by unfold hexV; repeat (rw [if_neg (by omega)])]
  rw [hn]
  exact ⟨rfl, _, hpt, by omega, rfl, rfl⟩
 by_cases k2 : e.toNat <= 57
 ·skip
  refine rO (fun Z hZ => (eE rfl (kT (Ev.geq rfl rfl) (by omega) (eE rfl (eE rfl (kT (Ev.leq rfl rfl) (by omega) (eE rfl (eE rfl (zN hZ ((rT rfl (rO (fun Z hZ => (eE rfl (fE (Ev.shlK (r := ((y * 16 : Nat) : Int)) rfl rfl dc dc (by rw [shl4, wrapI32 (by omega) (by omega)])) (eE rfl (fE (Ev.subK (r := ((e.toNat - 48 : Nat) : Int)) rfl rfl (by rw [wrap8]; omega)) (fE (Ev.conv (r := ((e.toNat - 48 : Nat) : Int)) T rfl rfl rfl (wrapI32 (by omega) (by omega))) (fE (Ev.orK (a := y * 16) (b := e.toNat - 48) (c := y * 16 + (e.toNat - 48)) rfl rfl (by show _ < 4294967296; omega) (by show _ < 4294967296; omega) (orSh (a := y) 4 (by omega)) (wrapI32 (by omega) (by omega))) (eE rfl (zN hZ ((rI ?_)))))))))))))))))))))))
  refine rP 7 (fun Z hZ => (eE rfl (eE rfl (eE rfl (gY (Yv.load 0 T rfl rfl rfl rfl) (fE (Ev.addK (r := (posR xs s : Int)) rfl rfl (by rw [wI (by omega) (by omega), g3]; omega)) (eE rfl (eE rfl (zN hZ ((Ops.store 0 rfl rfl rfl rfl rfl (T.sizeOk rfl) rfl (lb rfl) rfl rfl (Ops.nil (rI (rO (fun Z hZ => (fE (Ev.addK (r := ((i + 1 : Nat) : Int)) rfl rfl (by rw [wI (by omega) (by omega)]; omega)) (eE rfl (zN hZ ?_))))))))))))))))))
  skip
  refine Run.keep [0, 2, 16] [_, _, _] rfl ?_
  refine ih (4 - (i + 1)) _ _ _ (by omega) ⟨i + 1, y * 16 + (e.toNat - 48), s, rfl, by omega, (Sfx.cons e s).trans hs, ?_, by rw [Nat.pow_succ]; omega, by simp only [List.length_cons] at hsl; omega, rfl, rfl, rfl⟩
  rw [<- hu, show 4 - i = 4 - (i + 1) + 1 by omega]
  simp only [unitR]
  rw [show hexV e = some (e.toNat - 48) from by unfold hexV; repeat (first | rw [if_pos (by omega)])]
 by_cases k3 : e.toNat < 65
 ·skip
  refine rO (fun Z hZ => (eE rfl (kT (Ev.geq rfl rfl) (by omega) (eE rfl (eE rfl (kF (Ev.leq rfl rfl) (by omega) (eE rfl (eE rfl (zN hZ ?_)))))))))
  repeat (first | refine rS ?_ | refine rF rfl ?_)
  refine rO (fun Z hZ => (eE rfl (kF (Ev.geq rfl rfl) (by omega) (eE rfl (oF (oF (eE rfl (eE rfl (zN hZ ?_)))))))))
  repeat (first | refine rS ?_ | refine rF rfl ?_)
  refine rO (fun Z hZ => (eE rfl (kF (Ev.geq rfl rfl) (by omega) (eE rfl (oF (oF (eE rfl (eE rfl (zN hZ ?_)))))))))
  repeat (first | refine rS ?_ | refine rF rfl ?_)
  refine rO (fun Z hZ => (eE rfl (eE rfl (zN hZ ?_))))
  skip
  refine Run.ret2 (by rw [hCf]; exact func71) results71 rfl rfl (hR _ _ _ ?_)
  have hn : unitR 4 0 t = none := by
   rw [<- hu, show 4 - i = 3 - i + 1 by omega]
   simp only [unitR]
   rw [show hexV e = none from by unfold hexV; repeat (rw [if_neg (by omega)])]
  rw [hn]
  exact ⟨rfl, _, hpt, by omega, rfl, rfl⟩
 by_cases k4 : e.toNat <= 70
 ·skip
  refine rO (fun Z hZ => (eE rfl (kT (Ev.geq rfl rfl) (by omega) (eE rfl (eE rfl (kF (Ev.leq rfl rfl) (by omega) (eE rfl (eE rfl (zN hZ ?_)))))))))
  repeat (first | refine rS ?_ | refine rF rfl ?_)
  refine rO (fun Z hZ => (eE rfl (kF (Ev.geq rfl rfl) (by omega) (eE rfl (oF (oF (eE rfl (eE rfl (zN hZ ?_)))))))))
  repeat (first | refine rS ?_ | refine rF rfl ?_)
  refine rO (fun Z hZ => (eE rfl (kT (Ev.geq rfl rfl) (by omega) (eE rfl (eE rfl (kT (Ev.leq rfl rfl) (by omega) (eE rfl (eE rfl (zN hZ ((rT rfl (rO (fun Z hZ => (eE rfl (fE (Ev.shlK (r := ((y * 16 : Nat) : Int)) rfl rfl dc dc (by rw [shl4, wrapI32 (by omega) (by omega)])) (eE rfl (fE (Ev.subK (r := ((e.toNat - 65 : Nat) : Int)) rfl rfl (by rw [wrap8]; omega)) (fE (Ev.addK (r := ((e.toNat - 55 : Nat) : Int)) rfl rfl (by rw [wrap8]; omega)) (fE (Ev.conv (r := ((e.toNat - 55 : Nat) : Int)) T rfl rfl rfl (wrapI32 (by omega) (by omega))) (fE (Ev.orK (a := y * 16) (b := e.toNat - 55) (c := y * 16 + (e.toNat - 55)) rfl rfl (by show _ < 4294967296; omega) (by show _ < 4294967296; omega) (orSh (a := y) 4 (by omega)) (wrapI32 (by omega) (by omega))) (eE rfl (zN hZ ((rI ?_))))))))))))))))))))))))
  refine rP 7 (fun Z hZ => (eE rfl (eE rfl (eE rfl (gY (Yv.load 0 T rfl rfl rfl rfl) (fE (Ev.addK (r := (posR xs s : Int)) rfl rfl (by rw [wI (by omega) (by omega), g3]; omega)) (eE rfl (eE rfl (zN hZ ((Ops.store 0 rfl rfl rfl rfl rfl (T.sizeOk rfl) rfl (lb rfl) rfl rfl (Ops.nil (rI (rO (fun Z hZ => (fE (Ev.addK (r := ((i + 1 : Nat) : Int)) rfl rfl (by rw [wI (by omega) (by omega)]; omega)) (eE rfl (zN hZ ?_))))))))))))))))))
  skip
  refine Run.keep [0, 2, 16] [_, _, _] rfl ?_
  refine ih (4 - (i + 1)) _ _ _ (by omega) ⟨i + 1, y * 16 + (e.toNat - 55), s, rfl, by omega, (Sfx.cons e s).trans hs, ?_, by rw [Nat.pow_succ]; omega, by simp only [List.length_cons] at hsl; omega, rfl, rfl, rfl⟩
  rw [<- hu, show 4 - i = 4 - (i + 1) + 1 by omega]
  simp only [unitR]
  rw [show hexV e = some (e.toNat - 55) from by unfold hexV; repeat (first | rw [if_pos (by omega)] | rw [if_neg (by omega)])]
 by_cases k5 : e.toNat < 97
 ·skip
  refine rO (fun Z hZ => (eE rfl (kT (Ev.geq rfl rfl) (by omega) (eE rfl (eE rfl (kF (Ev.leq rfl rfl) (by omega) (eE rfl (eE rfl (zN hZ ?_)))))))))
  repeat (first | refine rS ?_ | refine rF rfl ?_)
  refine rO (fun Z hZ => (eE rfl (kF (Ev.geq rfl rfl) (by omega) (eE rfl (oF (oF (eE rfl (eE rfl (zN hZ ?_)))))))))
  repeat (first | refine rS ?_ | refine rF rfl ?_)
  refine rO (fun Z hZ => (eE rfl (kT (Ev.geq rfl rfl) (by omega) (eE rfl (eE rfl (kF (Ev.leq rfl rfl) (by omega) (eE rfl (eE rfl (zN hZ ?_)))))))))
  repeat (first | refine rS ?_ | refine rF rfl ?_)
  refine rO (fun Z hZ => (eE rfl (eE rfl (zN hZ ?_))))
  skip
  refine Run.ret2 (by rw [hCf]; exact func71) results71 rfl rfl (hR _ _ _ ?_)
  have hn : unitR 4 0 t = none := by
   rw [<- hu, show 4 - i = 3 - i + 1 by omega]
   simp only [unitR]
   rw [show hexV e = none from by unfold hexV; repeat (rw [if_neg (by omega)])]
  rw [hn]
  exact ⟨rfl, _, hpt, by omega, rfl, rfl⟩
 by_cases k6 : e.toNat <= 102
 ·skip
  refine rO (fun Z hZ => (eE rfl (kT (Ev.geq rfl rfl) (by omega) (eE rfl (eE rfl (kF (Ev.leq rfl rfl) (by omega) (eE rfl (eE rfl (zN hZ ?_)))))))))
  repeat (first | refine rS ?_ | refine rF rfl ?_)
  refine rO (fun Z hZ => (eE rfl (kT (Ev.geq rfl rfl) (by omega) (eE rfl (eE rfl (kT (Ev.leq rfl rfl) (by omega) (eE rfl (eE rfl (zN hZ ((rT rfl (rO (fun Z hZ => (eE rfl (fE (Ev.shlK (r := ((y * 16 : Nat) : Int)) rfl rfl dc dc (by rw [shl4, wrapI32 (by omega) (by omega)])) (eE rfl (fE (Ev.subK (r := ((e.toNat - 97 : Nat) : Int)) rfl rfl (by rw [wrap8]; omega)) (fE (Ev.addK (r := ((e.toNat - 87 : Nat) : Int)) rfl rfl (by rw [wrap8]; omega)) (fE (Ev.conv (r := ((e.toNat - 87 : Nat) : Int)) T rfl rfl rfl (wrapI32 (by omega) (by omega))) (fE (Ev.orK (a := y * 16) (b := e.toNat - 87) (c := y * 16 + (e.toNat - 87)) rfl rfl (by show _ < 4294967296; omega) (by show _ < 4294967296; omega) (orSh (a := y) 4 (by omega)) (wrapI32 (by omega) (by omega))) (eE rfl (zN hZ ((rI ?_))))))))))))))))))))))))
  refine rP 7 (fun Z hZ => (eE rfl (eE rfl (eE rfl (gY (Yv.load 0 T rfl rfl rfl rfl) (fE (Ev.addK (r := (posR xs s : Int)) rfl rfl (by rw [wI (by omega) (by omega), g3]; omega)) (eE rfl (eE rfl (zN hZ ((Ops.store 0 rfl rfl rfl rfl rfl (T.sizeOk rfl) rfl (lb rfl) rfl rfl (Ops.nil (rI (rO (fun Z hZ => (fE (Ev.addK (r := ((i + 1 : Nat) : Int)) rfl rfl (by rw [wI (by omega) (by omega)]; omega)) (eE rfl (zN hZ ?_))))))))))))))))))
  skip
  refine Run.keep [0, 2, 16] [_, _, _] rfl ?_
  refine ih (4 - (i + 1)) _ _ _ (by omega) ⟨i + 1, y * 16 + (e.toNat - 87), s, rfl, by omega, (Sfx.cons e s).trans hs, ?_, by rw [Nat.pow_succ]; omega, by simp only [List.length_cons] at hsl; omega, rfl, rfl, rfl⟩
  rw [<- hu, show 4 - i = 4 - (i + 1) + 1 by omega]
  simp only [unitR]
  rw [show hexV e = some (e.toNat - 87) from by unfold hexV; repeat (first | rw [if_pos (by omega)] | rw [if_neg (by omega)])]
 ·skip
  refine rO (fun Z hZ => (eE rfl (kT (Ev.geq rfl rfl) (by omega) (eE rfl (eE rfl (kF (Ev.leq rfl rfl) (by omega) (eE rfl (eE rfl (zN hZ ?_)))))))))
  repeat (first | refine rS ?_ | refine rF rfl ?_)
  refine rO (fun Z hZ => (eE rfl (kT (Ev.geq rfl rfl) (by omega) (eE rfl (eE rfl (kF (Ev.leq rfl rfl) (by omega) (eE rfl (eE rfl (zN hZ ?_)))))))))
  repeat (first | refine rS ?_ | refine rF rfl ?_)
  refine rO (fun Z hZ => (eE rfl (kT (Ev.geq rfl rfl) (by omega) (eE rfl (eE rfl (kF (Ev.leq rfl rfl) (by omega) (eE rfl (eE rfl (zN hZ ?_)))))))))
  repeat (first | refine rS ?_ | refine rF rfl ?_)
  refine rO (fun Z hZ => (eE rfl (eE rfl (zN hZ ?_))))
  skip
  refine Run.ret2 (by rw [hCf]; exact func71) results71 rfl rfl (hR _ _ _ ?_)
  have hn : unitR 4 0 t = none := by
   rw [<- hu, show 4 - i = 3 - i + 1 by omega]
   simp only [unitR]
   rw [show hexV e = none from by unfold hexV; repeat (rw [if_neg (by omega)])]
  rw [hn]
  exact ⟨rfl, _, hpt, by omega, rfl, rfl⟩
end Go.V
