import Derived.Test.YteppnkblebknnaaDoorSM12
import Derived.Test.YteppnkblebknnaaDoorSM13
import Derived.Test.YteppnkblebknnaaDoorSM7
/-
  The package authn's small texts: trimmed, decoded, split.
-/
namespace Go.V
open Go.RowKit
set_option linter.unusedVariables false
set_option linter.unusedSimpArgs false
set_option maxRecDepth 10000
attribute [local irreducible] Run Ops QD
theorem getD_mem {s : Bs} {p : Nat} (h : p < s.length) : s.getD p 0 ∈ s := by
  rw [List.getD_eq_getElem?_getD, List.getElem?_eq_getElem h]; exact List.getElem_mem h
theorem b64_noeq : ∀ s : Bs, s.length % 3 = 0 → ∀ c ∈ b64 s, c ≠ 61
  | [], _, c, h => by simp [b64] at h
  | [a], h, _, _ => by simp at h
  | [a, b], h, _, _ => by simp at h
  | a :: b :: d :: t, h, c, hc => by
    simp only [b64, List.mem_cons] at hc
    simp only [List.length_cons] at h
    rcases hc with rfl | rfl | rfl | rfl | hc
    · exact (b64c_asc _).2.2.1
    · exact (b64c_asc _).2.2.1
    · exact (b64c_asc _).2.2.1
    · exact (b64c_asc _).2.2.1
    · exact b64_noeq t (by omega) c hc
theorem b64_last : ∀ s : Bs, s.length % 3 ≠ 0 → (b64 s).drop ((b64 s).length - 1) = [61]
  | [], h => by simp at h
  | [a], _ => rfl
  | [a, b], _ => rfl
  | a :: b :: d :: t, h => by
    simp only [List.length_cons] at h
    have ih := b64_last t (by omega)
    have hl := b64_len t
    have ht : t.length ≠ 0 := by omega
    simp only [b64, List.length_cons]
    rw [show (b64 t).length + 1 + 1 + 1 + 1 - 1 = (b64 t).length - 1 + 4 by omega]
    simpa using ih
theorem b64_nolast (s : Bs) (h : s.length % 3 = 0) : (b64 s).drop ((b64 s).length - 1) ≠ [61] := fun he =>
  b64_noeq s h 61 (List.mem_of_mem_drop (by rw [he]; exact List.mem_singleton.2 rfl)) rfl
set_option maxHeartbeats 1000000 in
theorem auth_Trim (I : Imm) (s : Bs) (hp : ∀ c ∈ s, 43 ≤ c.toNat ∧ c.toNat < 123) (hs : s.length ≤ 1099511627776) : Pure Proofs.Tryd.prog 36 [str s] I fun w J => w = str s := by
  refine Spec.enter 62 [(0, _)] Proofs.Tryd.func36 rfl Proofs.Tryd.ntmps36 (by simp) rfl ?_
  intro C hCf hR hCI
  repeat (first | refine Run.seq ?_)
  refine Run.regionO (D := [some 2]) [true] rfl rfl rfl (fun Z hZ => ?_)
  refine QD.ev T (by decide) rfl rfl ?_
  refine QD.nil (hZ _ ?_)
  clear hZ Z
  repeat (first | refine Run.seq ?_)
  refine Run.regionO (D := [some 3]) [true] rfl rfl rfl (fun Z hZ => ?_)
  refine QD.ev T (by decide) rfl rfl ?_
  refine QD.nil (hZ _ ?_)
  clear hZ Z
  repeat (first | refine Run.seq ?_)
  refine Run.regionP (D := [some 6, some 7]) [true] 1 rfl rfl rfl (by simp only [List.drop_succ_cons, List.drop_zero]; rfl) (fun Z hZ => ?_)
  refine QD.ev T (by decide) rfl rfl ?_
  refine QD.nil (hZ _ ?_)
  clear hZ Z
  refine Ops.rangeStr T rfl (by decide) rfl rfl (fun b => ?_)
  refine Ops.nil ?_
  repeat (first | refine Run.block ?_)
  refine Run.keep [0, 3, 7] [_, _, _] rfl ?_
  refine Run.rounds (fun m env L J => ∃ p : Nat, m = s.length - p ∧ p ≤ s.length ∧ env = [(0, str s), (3, .int .i64 p), (7, .pointer (some ⟨b, 0, none⟩))] ∧ L = [(b, .stringIter (ba s) p)]) s.length ⟨0, by omega, by omega, rfl, rfl⟩ ?_
  rintro m env L J ⟨p, rfl, hple, rfl, rfl⟩ ih
  repeat (first | refine Run.seq ?_)
  by_cases hlt : p < s.length
  · have hc := hp _ (getD_mem hlt)
    have hr := runeAt_ascii s p (by omega)
    generalize s.getD p 0 = c at hc hr
    obtain ⟨ch, hch⟩ : ∃ ch : Nat, ch = c.toNat := ⟨_, rfl⟩
    rw [← hch] at hr hc
    refine Run.region ?_
    refine Ops.nextStr 0 rfl (by decide) rfl rfl hlt ?_
    rw [hr]
    refine Ops.pure T rfl (by decide) rfl ?_
    refine Ops.nil ?_
    repeat (first | refine Run.seq ?_ | refine Run.skip ?_ | refine Run.block ?_ | refine Run.cond_t rfl ?_)
    refine Run.regionO (D := [some 10, some 11, some 4, some 5]) [true, true, true, true] rfl rfl rfl (fun Z hZ => ?_)
    refine QD.ev T (by decide) rfl rfl ?_
    refine QD.ev T (by decide) rfl rfl ?_
    refine QD.ev T (by decide) rfl rfl ?_
    refine QD.ev T (by decide) rfl rfl ?_
    refine QD.nil (hZ _ ?_)
    clear hZ Z
    repeat (first | refine Run.seq ?_ | refine Run.block ?_)
    refine Run.regionO (D := [some 18, some 19, some 20, some 21, some 22, some 23, some 17]) [true, true, true, true, true, true, true] rfl rfl rfl (fun Z hZ => ?_)
    refine QD.ev T (by decide) rfl rfl ?_
    refine QD.e ((Ev.geq rfl rfl).as (show _ = Value.bool true from congrArg Value.bool (decide_eq_true (by omega)))) (by decide) rfl ?_
    refine QD.ev T (by decide) rfl rfl ?_
    first | refine QD.ev T (by decide) rfl rfl ?_ | refine QD.off (by decide) rfl ?_
    refine QD.e ((Ev.leq rfl rfl).as (show _ = Value.bool false from congrArg Value.bool (decide_eq_false (by omega)))) (by decide) rfl ?_
    refine QD.ev T (by decide) rfl rfl ?_
    refine QD.ev T (by decide) rfl rfl ?_
    refine QD.nil (hZ _ ?_)
    clear hZ Z
    repeat (first | refine Run.seq ?_ | refine Run.cond_f rfl ?_)
    refine Run.regionO (D := [some 24, some 25, some 17]) [true, true, true] rfl rfl rfl (fun Z hZ => ?_)
    refine QD.ev T (by decide) rfl rfl ?_
    refine QD.e ((Ev.eqlI rfl rfl).as (show _ = Value.bool false from congrArg Value.bool (decide_eq_false (by omega)))) (by decide) rfl ?_
    refine QD.ev T (by decide) rfl rfl ?_
    refine QD.nil (hZ _ ?_)
    clear hZ Z
    repeat (first | refine Run.seq ?_ | refine Run.cond_f rfl ?_)
    refine Run.regionO (D := [some 26, some 27, some 17]) [true, true, true] rfl rfl rfl (fun Z hZ => ?_)
    refine QD.ev T (by decide) rfl rfl ?_
    refine QD.e ((Ev.eqlI rfl rfl).as (show _ = Value.bool false from congrArg Value.bool (decide_eq_false (by omega)))) (by decide) rfl ?_
    refine QD.ev T (by decide) rfl rfl ?_
    refine QD.nil (hZ _ ?_)
    clear hZ Z
    repeat (first | refine Run.seq ?_ | refine Run.cond_f rfl ?_)
    refine Run.regionO (D := [some 28, some 29, some 17]) [true, true, true] rfl rfl rfl (fun Z hZ => ?_)
    refine QD.ev T (by decide) rfl rfl ?_
    refine QD.e ((Ev.eqlI rfl rfl).as (show _ = Value.bool false from congrArg Value.bool (decide_eq_false (by omega)))) (by decide) rfl ?_
    refine QD.ev T (by decide) rfl rfl ?_
    refine QD.nil (hZ _ ?_)
    clear hZ Z
    repeat (first | refine Run.seq ?_ | refine Run.cond_f rfl ?_)
    refine Run.regionO (D := [some 30, some 31, some 17]) [true, true, true] rfl rfl rfl (fun Z hZ => ?_)
    refine QD.ev T (by decide) rfl rfl ?_
    refine QD.e ((Ev.eqlI rfl rfl).as (show _ = Value.bool false from congrArg Value.bool (decide_eq_false (by omega)))) (by decide) rfl ?_
    refine QD.ev T (by decide) rfl rfl ?_
    refine QD.nil (hZ _ ?_)
    clear hZ Z
    repeat (first | refine Run.seq ?_ | refine Run.cond_f rfl ?_)
    refine Run.regionO (D := [some 32, some 33, some 34, some 35, some 36, some 37, some 17]) [true, true, true, true, true, true, true] rfl rfl rfl (fun Z hZ => ?_)
    refine QD.ev T (by decide) rfl rfl ?_
    refine QD.e ((Ev.geq rfl rfl).as (show _ = Value.bool false from congrArg Value.bool (decide_eq_false (by omega)))) (by decide) rfl ?_
    refine QD.ev T (by decide) rfl rfl ?_
    first | refine QD.ev T (by decide) rfl rfl ?_ | refine QD.off (by decide) rfl ?_
    first | refine QD.e (Ev.leq rfl rfl) (by decide) rfl ?_ | refine QD.off (by decide) rfl ?_
    refine QD.ev T (by decide) rfl rfl ?_
    refine QD.ev T (by decide) rfl rfl ?_
    refine QD.nil (hZ _ ?_)
    clear hZ Z
    repeat (first | refine Run.seq ?_ | refine Run.cond_f rfl ?_)
    refine Run.regionO (D := [some 38, some 39, some 17]) [true, true, true] rfl rfl rfl (fun Z hZ => ?_)
    refine QD.ev T (by decide) rfl rfl ?_
    refine QD.e ((Ev.eqlI rfl rfl).as (show _ = Value.bool false from congrArg Value.bool (decide_eq_false (by omega)))) (by decide) rfl ?_
    refine QD.ev T (by decide) rfl rfl ?_
    refine QD.nil (hZ _ ?_)
    clear hZ Z
    repeat (first | refine Run.seq ?_ | refine Run.cond_f rfl ?_)
    refine Run.regionO (D := [some 40, some 41, some 17]) [true, true, true] rfl rfl rfl (fun Z hZ => ?_)
    refine QD.ev T (by decide) rfl rfl ?_
    refine QD.e ((Ev.eqlI rfl rfl).as (show _ = Value.bool false from congrArg Value.bool (decide_eq_false (by omega)))) (by decide) rfl ?_
    refine QD.ev T (by decide) rfl rfl ?_
    refine QD.nil (hZ _ ?_)
    clear hZ Z
    repeat (first | refine Run.seq ?_ | refine Run.cond_f rfl ?_)
    refine Run.regionO (D := [some 42, some 43, some 17]) [true, true, true] rfl rfl rfl (fun Z hZ => ?_)
    refine QD.ev T (by decide) rfl rfl ?_
    refine QD.e ((Ev.eqlI rfl rfl).as (show _ = Value.bool false from congrArg Value.bool (decide_eq_false (by omega)))) (by decide) rfl ?_
    refine QD.ev T (by decide) rfl rfl ?_
    refine QD.nil (hZ _ ?_)
    clear hZ Z
    repeat (first | refine Run.seq ?_ | refine Run.cond_f rfl ?_)
    refine Run.regionO (D := [some 44, some 45, some 17]) [true, true, true] rfl rfl rfl (fun Z hZ => ?_)
    refine QD.ev T (by decide) rfl rfl ?_
    refine QD.e ((Ev.eqlI rfl rfl).as (show _ = Value.bool false from congrArg Value.bool (decide_eq_false (by omega)))) (by decide) rfl ?_
    refine QD.ev T (by decide) rfl rfl ?_
    refine QD.nil (hZ _ ?_)
    clear hZ Z
    repeat (first | refine Run.cond_f rfl ?_)
    refine Run.regionO (D := [some 46, some 47, some 17]) [true, true, true] rfl rfl rfl (fun Z hZ => ?_)
    refine QD.ev T (by decide) rfl rfl ?_
    refine QD.e ((Ev.eqlI rfl rfl).as (show _ = Value.bool false from congrArg Value.bool (decide_eq_false (by omega)))) (by decide) rfl ?_
    refine QD.ev T (by decide) rfl rfl ?_
    refine QD.nil (hZ _ ?_)
    clear hZ Z
    repeat (first | refine Run.seq ?_ | refine Run.cond_f rfl ?_)
    refine Run.regionO (D := [some 49, some 50, some 51, some 52, some 53, some 54, some 55, some 56, some 48]) [true, true, true, true, true, true, true, true, true] rfl rfl rfl (fun Z hZ => ?_)
    refine QD.ev T (by decide) rfl rfl ?_
    refine QD.e ((Ev.eqlI rfl rfl).as (show _ = Value.bool false from congrArg Value.bool (decide_eq_false (by omega)))) (by decide) rfl ?_
    refine QD.ev T (by decide) rfl rfl ?_
    first | refine QD.ev T (by decide) rfl rfl ?_ | refine QD.off (by decide) rfl ?_
    first | refine QD.ev T (by decide) rfl rfl ?_ | refine QD.off (by decide) rfl ?_
    first | refine QD.e (Ev.indexT T rfl rfl rfl (by first | omega | (simp only [List.length_cons, List.length_nil] ; omega) | (simp; omega)) (by first | omega | (simp only [List.length_cons, List.length_nil] ; omega) | (simp; omega))) (by decide) rfl ?_ | refine QD.off (by decide) rfl ?_
    first | refine QD.e (Ev.neqI rfl rfl) (by decide) rfl ?_ | refine QD.off (by decide) rfl ?_
    refine QD.ev T (by decide) rfl rfl ?_
    refine QD.ev T (by decide) rfl rfl ?_
    refine QD.nil (hZ _ ?_)
    clear hZ Z
    repeat (first | refine Run.cond_f rfl ?_)
    refine Run.regionP (D := [some 12, some 13, some 14, some 15, some 16, some 3]) [true, true] 2 rfl rfl rfl (by simp only [List.drop_succ_cons, List.drop_zero]; rfl) (fun Z hZ => ?_)
    refine QD.ev T (by decide) rfl rfl ?_
    refine QD.ev T (by decide) rfl rfl ?_
    refine QD.nil (hZ _ ?_)
    clear hZ Z
    refine Ops.convRune T rfl (by decide) rfl rfl rfl ?_
    rw [encR_ascii _ (by omega) (by omega)]
    refine Ops.ev (Ev.lenS T rfl rfl) rfl (by decide) ?_
    refine Ops.add rfl (by decide) rfl rfl (wI (by simp; omega) (by simp; omega)) ?_
    refine Ops.pure T rfl (by decide) rfl ?_
    refine Ops.nil ?_
    repeat (first | refine Run.inBlock ?_)
    refine Run.keep [0, 3, 7] [_, _, _] rfl ?_
    exact ih (s.length - (p + 1)) _ _ _ (by omega) ⟨p + 1, rfl, by omega, rfl, rfl⟩
  · have hpe : p = s.length := by omega
    subst hpe
    refine Run.region ?_
    refine Ops.nextStrEnd 0 rfl (by decide) rfl rfl hlt ?_
    refine Ops.pure T rfl (by decide) rfl ?_
    refine Ops.nil ?_
    repeat (first | refine Run.seq ?_ | refine Run.exit rfl ?_ | refine Run.cond_f rfl ?_)
    refine Run.regionO (D := [some 59, some 60, some 61, some 2]) [true, true, true, true] rfl rfl rfl (fun Z hZ => ?_)
    refine QD.ev T (by decide) rfl rfl ?_
    refine QD.ev T (by decide) rfl rfl ?_
    refine QD.e ((Ev.cutSHi T rfl rfl rfl (by omega) (by omega)).as (show _ = str s from congrArg str (by rw [Int.toNat_natCast, List.take_length]))) (by decide) rfl ?_
    refine QD.ev T (by decide) rfl rfl ?_
    refine QD.nil (hZ _ ?_)
    clear hZ Z
    skip
    refine Run.fin (Run.ret1 (by rw [hCf]; exact Proofs.Tryd.func36) Proofs.Tryd.results36 rfl (hR _ _ _ ?_))
    exact ⟨rfl, rfl⟩
set_option maxHeartbeats 1000000 in
theorem lite_HasSuffix (I : Imm) (s u : Bs) (h : u.length ≤ s.length) (hs : s.length ≤ 1099511627776) : Pure Proofs.Tryd.prog 47 [str s, str u] I fun w J => w = .bool (decide (s.drop (s.length - u.length) = u)) := by
  refine Spec.enter 21 [(0, _), (1, _)] Proofs.Tryd.func47 rfl Proofs.Tryd.ntmps47 (by simp) rfl ?_
  intro C hCf hR hCI
  repeat (first | refine Run.seq ?_)
  refine Run.regionO (D := [some 4]) [true] rfl rfl rfl (fun Z hZ => ?_)
  refine QD.ev T (by decide) rfl rfl ?_
  refine QD.nil (hZ _ ?_)
  clear hZ Z
  repeat (first | refine Run.seq ?_)
  refine Run.regionO (D := [some 5, some 6, some 7, some 8, some 9, some 10, some 11, some 12, some 13, some 14, some 15, some 16, some 17, some 18, some 19, some 20, some 4]) [true, true, true, true, true, true, true, true, true, true, true, true, true, true, true, true, true] rfl rfl rfl (fun Z hZ => ?_)
  refine QD.ev T (by decide) rfl rfl ?_
  refine QD.e (Ev.lenS T rfl rfl) (by decide) rfl ?_
  refine QD.ev T (by decide) rfl rfl ?_
  refine QD.e (Ev.lenS T rfl rfl) (by decide) rfl ?_
  refine QD.e ((Ev.geq rfl rfl).as (show _ = Value.bool true from congrArg Value.bool (decide_eq_true (by omega)))) (by decide) rfl ?_
  refine QD.ev T (by decide) rfl rfl ?_
  first | refine QD.ev T (by decide) rfl rfl ?_ | refine QD.off (by decide) rfl ?_
  first | refine QD.ev T (by decide) rfl rfl ?_ | refine QD.off (by decide) rfl ?_
  first | refine QD.e (Ev.lenS T rfl rfl) (by decide) rfl ?_ | refine QD.off (by decide) rfl ?_
  first | refine QD.ev T (by decide) rfl rfl ?_ | refine QD.off (by decide) rfl ?_
  first | refine QD.e (Ev.lenS T rfl rfl) (by decide) rfl ?_ | refine QD.off (by decide) rfl ?_
  refine QD.e (Ev.subK (r := ((s.length - u.length : Nat) : Int)) rfl rfl (by rw [wI (by omega) (by omega)]; omega)) (by decide) rfl ?_
  refine QD.e (Ev.cutSLo (j := ((s.length - u.length : Nat) : Int)) T rfl rfl rfl (by omega) (by omega)) (by decide) rfl ?_
  first | refine QD.ev T (by decide) rfl rfl ?_ | refine QD.off (by decide) rfl ?_
  first | refine QD.e (Ev.eqlS rfl rfl) (by decide) rfl ?_ | refine QD.off (by decide) rfl ?_
  refine QD.ev T (by decide) rfl rfl ?_
  refine QD.ev T (by decide) rfl rfl ?_
  refine QD.nil (hZ _ ?_)
  clear hZ Z
  skip
  refine Run.fin (Run.ret1 (by rw [hCf]; exact Proofs.Tryd.func47) Proofs.Tryd.results47 rfl (hR _ _ _ ?_))
  exact ⟨rfl, by rw [Int.toNat_natCast]⟩
theorem str_HasSuffix (I : Imm) (s u : Bs) (h : u.length ≤ s.length) (hs : s.length ≤ 1099511627776) : Pure Proofs.Tryd.prog 35 [str s, str u] I fun w J => w = .bool (decide (s.drop (s.length - u.length) = u)) := by
  refine Spec.enter 8 [(0, _), (1, _)] Proofs.Tryd.func35 rfl Proofs.Tryd.ntmps35 (by simp) rfl ?_
  intro C hCf hR hCI
  repeat (first | refine Run.seq ?_)
  refine Run.regionO (D := [some 4]) [true] rfl rfl rfl (fun Z hZ => ?_)
  refine QD.ev T (by decide) rfl rfl ?_
  refine QD.nil (hZ _ ?_)
  clear hZ Z
  repeat (first | refine Run.seq ?_)
  refine Run.regionP (D := [some 5, some 6, some 7, some 4]) [true, true] 2 rfl rfl rfl (by simp only [List.drop_succ_cons, List.drop_zero]; rfl) (fun Z hZ => ?_)
  refine QD.ev T (by decide) rfl rfl ?_
  refine QD.ev T (by decide) rfl rfl ?_
  refine QD.nil (hZ _ ?_)
  clear hZ Z
  refine Ops.call ((lite_HasSuffix I s u h hs)) rfl (by decide) Proofs.Tryd.call47 rfl ?_
  rintro w J l rfl
  refine Ops.pure T rfl (by decide) rfl ?_
  refine Ops.nil ?_
  skip
  refine Run.fin (Run.ret1 (by rw [hCf]; exact Proofs.Tryd.func35) Proofs.Tryd.results35 rfl (hR _ _ _ ?_))
  exact ⟨rfl, rfl⟩
set_option maxHeartbeats 1000000 in
theorem auth_DecodeP (I : Imm) (bs : Bs) (hne : bs ≠ []) (hl : bs.length ≤ 1099511627776) : Pure Proofs.Tryd.prog 37 [str (b64 bs), .bool true] I fun w J => ∃ v, w = .tuple #[v, .nilIface] ∧ Sl tU8 J v bs := by
  refine Spec.enter 51 [(0, _), (1, _)] Proofs.Tryd.func37 rfl Proofs.Tryd.ntmps37 (by simp) rfl ?_
  intro C hCf hR hCI
  repeat (first | refine Run.seq ?_)
  refine Run.regionO (D := [some 4, some 5]) [true, true] rfl rfl rfl (fun Z hZ => ?_)
  refine QD.ev T (by decide) rfl rfl ?_
  refine QD.ev T (by decide) rfl rfl ?_
  refine QD.nil (hZ _ ?_)
  clear hZ Z
  repeat (first | refine Run.seq ?_)
  refine Run.regionO (D := [some 10, some 11]) [true, true] rfl rfl rfl (fun Z hZ => ?_)
  refine QD.ev T (by decide) rfl rfl ?_
  refine QD.ev T (by decide) rfl rfl ?_
  refine QD.nil (hZ _ ?_)
  clear hZ Z
  repeat (first | refine Run.seq ?_ | refine Run.skip ?_ | refine Run.cond_f rfl ?_)
  refine Run.regionP (D := [some 43, some 44, some 42, some 45, some 46, some 8, some 9]) [true] 1 rfl rfl rfl (by simp only [List.drop_succ_cons, List.drop_zero]; rfl) (fun Z hZ => ?_)
  refine QD.ev T (by decide) rfl rfl ?_
  refine QD.nil (hZ _ ?_)
  clear hZ Z
  refine Ops.call ((zz_Unbase64 I bs hne hl)) rfl (by decide) Proofs.Tryd.call48 rfl ?_
  rintro w J l ⟨v, rfl, hv⟩
  obtain ⟨A, c, rfl⟩ := hv.isSl
  refine Ops.pure T rfl (by decide) rfl ?_
  refine Ops.pure T rfl (by decide) rfl ?_
  refine Ops.pure T rfl (by decide) rfl ?_
  refine Ops.pure T rfl (by decide) rfl ?_
  refine Ops.pure T rfl (by decide) rfl ?_
  refine Ops.nil ?_
  repeat (first | refine Run.seq ?_)
  refine Run.regionO (D := [some 47, some 48]) [true, true] rfl rfl rfl (fun Z hZ => ?_)
  refine QD.ev T (by decide) rfl rfl ?_
  refine QD.ev T (by decide) rfl rfl ?_
  refine QD.nil (hZ _ ?_)
  clear hZ Z
  repeat (first | refine Run.seq ?_ | refine Run.skip ?_ | refine Run.cond_f rfl ?_)
  refine Run.regionO (D := [some 50, some 4, some 5]) [true, true, true] rfl rfl rfl (fun Z hZ => ?_)
  refine QD.ev T (by decide) rfl rfl ?_
  refine QD.ev T (by decide) rfl rfl ?_
  refine QD.ev T (by decide) rfl rfl ?_
  refine QD.nil (hZ _ ?_)
  clear hZ Z
  skip
  refine Run.fin (Run.ret2 (by rw [hCf]; exact Proofs.Tryd.func37) Proofs.Tryd.results37 rfl rfl (hR _ _ _ ?_))
  exact ⟨rfl, _, rfl, hv⟩
set_option maxHeartbeats 1000000 in
theorem auth_DecodeR (I : Imm) (bs : Bs) (hne : bs ≠ []) (h3 : bs.length % 3 = 0) (hl : bs.length ≤ 1099511627776) : Pure Proofs.Tryd.prog 37 [str (b64 bs), .bool false] I fun w J => ∃ v, w = .tuple #[v, .nilIface] ∧ Sl tU8 J v bs := by
  have hz := zz_Unbase64 I bs hne hl
  have hno := b64_noeq bs h3
  have hasc := b64_asc bs
  have hlen := b64_len bs
  have h4 : (b64 bs).length % 4 = 0 := by rw [hlen]; omega
  have hl2 : (b64 bs).length ≤ 4398046511104 := by omega
  generalize b64 bs = s at *
  refine Spec.enter 51 [(0, _), (1, _)] Proofs.Tryd.func37 rfl Proofs.Tryd.ntmps37 (by simp) rfl ?_
  intro C hCf hR hCI
  repeat (first | refine Run.seq ?_)
  refine Run.regionO (D := [some 4, some 5]) [true, true] rfl rfl rfl (fun Z hZ => ?_)
  refine QD.ev T (by decide) rfl rfl ?_
  refine QD.ev T (by decide) rfl rfl ?_
  refine QD.nil (hZ _ ?_)
  clear hZ Z
  repeat (first | refine Run.seq ?_)
  refine Run.regionO (D := [some 10, some 11]) [true, true] rfl rfl rfl (fun Z hZ => ?_)
  refine QD.ev T (by decide) rfl rfl ?_
  refine QD.ev T (by decide) rfl rfl ?_
  refine QD.nil (hZ _ ?_)
  clear hZ Z
  repeat (first | refine Run.seq ?_ | refine Run.cond_t rfl ?_)
  refine Run.regionO (D := [some 6]) [true] rfl rfl rfl (fun Z hZ => ?_)
  refine QD.ev T (by decide) rfl rfl ?_
  refine QD.nil (hZ _ ?_)
  clear hZ Z
  repeat (first | refine Run.seq ?_)
  refine Run.regionO (D := [some 12, some 13, some 14]) [true, true, true] rfl rfl rfl (fun Z hZ => ?_)
  refine QD.ev T (by decide) rfl rfl ?_
  refine QD.e (Ev.lenS T rfl rfl) (by decide) rfl ?_
  refine QD.ev T (by decide) rfl rfl ?_
  refine QD.nil (hZ _ ?_)
  clear hZ Z
  repeat (first | refine Run.block ?_)
  refine Run.keep [0, 4, 5, 6, 13, 14] [_, _, _, _, _, _] rfl ?_
  refine Run.rounds (fun m env L J => ∃ i : Nat, m = s.length - i ∧ i ≤ s.length ∧ env = [(0, str s), (4, .slice none 0 0), (5, .nilIface), (6, .int .i64 i), (13, .int .i64 s.length), (14, .int .i64 i)] ∧ L = [] ∧ I = J) s.length ⟨0, by omega, by omega, rfl, rfl, rfl⟩ ?_
  rintro m env L J ⟨i, rfl, hi, rfl, rfl, rfl⟩ ih
  repeat (first | refine Run.seq ?_)
  by_cases hlt : i < s.length
  · have hc := hasc _ (getD_mem hlt)
    have hn := hno _ (getD_mem hlt)
    have hn' : (s.getD i 0).toNat ≠ 61 := fun h => hn (UInt8.toNat_inj.1 h)
    obtain ⟨ch, hch⟩ : ∃ ch : Nat, ch = (s.getD i 0).toNat := ⟨_, rfl⟩
    rw [← hch] at hc hn'
    refine Run.regionO (D := [some 15]) [true] rfl rfl rfl (fun Z hZ => ?_)
    refine QD.e ((Ev.lss rfl rfl).as (show _ = Value.bool true from congrArg Value.bool (decide_eq_true (by omega)))) (by decide) rfl ?_
    refine QD.nil (hZ _ ?_)
    clear hZ Z
    repeat (first | refine Run.seq ?_ | refine Run.skip ?_ | refine Run.block ?_ | refine Run.cond_t rfl ?_)
    refine Run.regionO (D := [some 16, some 7]) [true, true] rfl rfl rfl (fun Z hZ => ?_)
    refine QD.ev T (by decide) rfl rfl ?_
    refine QD.ev T (by decide) rfl rfl ?_
    refine QD.nil (hZ _ ?_)
    clear hZ Z
    repeat (first | refine Run.seq ?_)
    refine Run.regionO (D := [some 17, some 18, some 19, some 20]) [true, true, true, true] rfl rfl rfl (fun Z hZ => ?_)
    refine QD.ev T (by decide) rfl rfl ?_
    refine QD.ev T (by decide) rfl rfl ?_
    refine QD.e ((Ev.indexT (s := s) T rfl rfl rfl (by omega) (by omega)).as (show _ = Value.int .u8 ((ch : Nat) : Int) from by show Value.int .u8 (((s.getD _ 0).toNat : Nat) : Int) = _; rw [Int.toNat_natCast, ← hch])) (by decide) rfl ?_
    refine QD.e ((Ev.eqlI rfl rfl).as (show _ = Value.bool false from congrArg Value.bool (decide_eq_false (by omega)))) (by decide) rfl ?_
    refine QD.nil (hZ _ ?_)
    clear hZ Z
    repeat (first | refine Run.seq ?_ | refine Run.skip ?_ | refine Run.cond_f rfl ?_)
    refine Run.regionO (D := [some 22, some 23, some 24, some 25, some 26, some 27, some 28, some 29, some 30, some 31]) [true, true, true, true, true, true, true, true, true, true] rfl rfl rfl (fun Z hZ => ?_)
    refine QD.ev T (by decide) rfl rfl ?_
    refine QD.ev T (by decide) rfl rfl ?_
    refine QD.e ((Ev.indexT (s := s) T rfl rfl rfl (by omega) (by omega)).as (show _ = Value.int .u8 ((ch : Nat) : Int) from by show Value.int .u8 (((s.getD _ 0).toNat : Nat) : Int) = _; rw [Int.toNat_natCast, ← hch])) (by decide) rfl ?_
    refine QD.e ((Ev.neqI rfl rfl).as (show _ = Value.bool true from congrArg Value.bool (by simp; omega))) (by decide) rfl ?_
    refine QD.ev T (by decide) rfl rfl ?_
    first | refine QD.ev T (by decide) rfl rfl ?_ | refine QD.off (by decide) rfl ?_
    first | refine QD.ev T (by decide) rfl rfl ?_ | refine QD.off (by decide) rfl ?_
    refine QD.e ((Ev.indexT (s := s) T rfl rfl rfl (by omega) (by omega)).as (show _ = Value.int .u8 ((ch : Nat) : Int) from by show Value.int .u8 (((s.getD _ 0).toNat : Nat) : Int) = _; rw [Int.toNat_natCast, ← hch])) (by decide) rfl ?_
    refine QD.e ((Ev.neqI rfl rfl).as (show _ = Value.bool true from congrArg Value.bool (by simp; omega))) (by decide) rfl ?_
    refine QD.ev T (by decide) rfl rfl ?_
    refine QD.nil (hZ _ ?_)
    clear hZ Z
    repeat (first | refine Run.cond_t rfl ?_)
    refine Run.regionO (D := [some 32, some 33, some 6]) [true, true, true] rfl rfl rfl (fun Z hZ => ?_)
    refine QD.ev T (by decide) rfl rfl ?_
    refine QD.e (Ev.addK (r := ((i + 1 : Nat) : Int)) rfl rfl (by rw [wI (by omega) (by omega)]; omega)) (by decide) rfl ?_
    refine QD.ev T (by decide) rfl rfl ?_
    refine QD.nil (hZ _ ?_)
    clear hZ Z
    repeat (first | refine Run.inBlock ?_)
    refine Run.regionO (D := [some 34, some 14]) [true, true] rfl rfl rfl (fun Z hZ => ?_)
    refine QD.e (Ev.addK (r := ((i + 1 : Nat) : Int)) rfl rfl (by rw [wI (by omega) (by omega)]; omega)) (by decide) rfl ?_
    refine QD.ev T (by decide) rfl rfl ?_
    refine QD.nil (hZ _ ?_)
    clear hZ Z
    skip
    refine Run.keep [0, 4, 5, 6, 13, 14] [_, _, _, _, _, _] rfl ?_
    exact ih (s.length - (i + 1)) _ _ _ (by omega) ⟨i + 1, rfl, by omega, rfl, rfl, rfl⟩
  · have hie : i = s.length := by omega
    subst hie
    refine Run.regionO (D := [some 15]) [true] rfl rfl rfl (fun Z hZ => ?_)
    refine QD.e ((Ev.lss rfl rfl).as (show _ = Value.bool false from congrArg Value.bool (decide_eq_false (by omega)))) (by decide) rfl ?_
    refine QD.nil (hZ _ ?_)
    clear hZ Z
    repeat (first | refine Run.seq ?_ | refine Run.block ?_ | refine Run.exit rfl ?_ | refine Run.cond_f rfl ?_)
    refine Run.loop ?_
    repeat (first | refine Run.seq ?_)
    refine Run.regionO (D := [some 35, some 36, some 37]) [true, true, true] rfl rfl rfl (fun Z hZ => ?_)
    refine QD.ev T (by decide) rfl rfl ?_
    refine QD.e ((Ev.remI (r := 0) rfl rfl (by decide) (by rw [Int.tmod_eq_emod_of_nonneg (by omega)]; omega))) (by decide) rfl ?_
    refine QD.e (Ev.gtr rfl rfl) (by decide) rfl ?_
    refine QD.nil (hZ _ ?_)
    clear hZ Z
    repeat (first | refine Run.seq ?_ | refine Run.exit rfl ?_ | refine Run.cond_f rfl ?_)
    refine Run.regionP (D := [some 43, some 44, some 42, some 45, some 46, some 8, some 9]) [true] 1 rfl rfl rfl (by simp only [List.drop_succ_cons, List.drop_zero]; rfl) (fun Z hZ => ?_)
    refine QD.ev T (by decide) rfl rfl ?_
    refine QD.nil (hZ _ ?_)
    clear hZ Z
    refine Ops.call ((hz)) rfl (by decide) Proofs.Tryd.call48 rfl ?_
    rintro w J l ⟨v, rfl, hv⟩
    obtain ⟨A, c, rfl⟩ := hv.isSl
    refine Ops.pure T rfl (by decide) rfl ?_
    refine Ops.pure T rfl (by decide) rfl ?_
    refine Ops.pure T rfl (by decide) rfl ?_
    refine Ops.pure T rfl (by decide) rfl ?_
    refine Ops.pure T rfl (by decide) rfl ?_
    refine Ops.nil ?_
    repeat (first | refine Run.seq ?_)
    refine Run.regionO (D := [some 47, some 48]) [true, true] rfl rfl rfl (fun Z hZ => ?_)
    refine QD.ev T (by decide) rfl rfl ?_
    refine QD.ev T (by decide) rfl rfl ?_
    refine QD.nil (hZ _ ?_)
    clear hZ Z
    repeat (first | refine Run.seq ?_ | refine Run.skip ?_ | refine Run.cond_f rfl ?_)
    refine Run.regionO (D := [some 50, some 4, some 5]) [true, true, true] rfl rfl rfl (fun Z hZ => ?_)
    refine QD.ev T (by decide) rfl rfl ?_
    refine QD.ev T (by decide) rfl rfl ?_
    refine QD.ev T (by decide) rfl rfl ?_
    refine QD.nil (hZ _ ?_)
    clear hZ Z
    skip
    refine Run.fin (Run.ret2 (by rw [hCf]; exact Proofs.Tryd.func37) Proofs.Tryd.results37 rfl rfl (hR _ _ _ ?_))
    exact ⟨rfl, _, rfl, hv⟩
end Go.V
/-
  Name and password out of base 64; a configuration read.
-/
namespace Go.V
open Go.RowKit
set_option linter.unusedVariables false
set_option linter.unusedSimpArgs false
set_option maxRecDepth 10000
attribute [local irreducible] Run Ops QD
/-- name and password joined -/
def jn (u p : Bs) : Bs := u ++ 58 :: p
theorem jn_ne (u p : Bs) : jn u p ≠ [] := by unfold jn; simp
theorem jn_len (u p : Bs) : (jn u p).length = u.length + p.length + 1 := by unfold jn; simp; omega
theorem getD_u8 {s : Bs} {i : Nat} (h : i < s.length) : s.getD i 0 = s[i] := by rw [List.getD_eq_getElem?_getD, List.getElem?_eq_getElem h]; rfl
set_option maxHeartbeats 1000000 in
theorem auth_Split2 (I : Imm) (u p : Bs) (hu : (58 : UInt8) ∉ u) (hl : (jn u p).length ≤ 1099511627776) : Pure Proofs.Tryd.prog 38 [str (jn u p)] I fun w J => Sl tStr J w [u, p] := by
  have hlen := jn_len u p
  have hat : (jn u p).getD u.length 0 = 58 := by unfold jn; rw [List.getD_eq_getElem?_getD, List.getElem?_append_right (Nat.le_refl _)]; simp
  have hbef : ∀ i, i < u.length → (jn u p).getD i 0 ≠ 58 := fun i hi h => hu (by
    unfold jn at h
    rw [List.getD_eq_getElem?_getD, List.getElem?_append_left hi, List.getElem?_eq_getElem hi] at h
    rw [← (show u[i] = 58 from h)]; exact List.getElem_mem hi)
  have ht : (jn u p).take u.length = u := by unfold jn; simp
  have hdr : (jn u p).drop (u.length + 1) = p := by unfold jn; rw [List.drop_append]; simp
  generalize jn u p = s at *
  refine Spec.enter 24 [(0, _)] Proofs.Tryd.func38 rfl Proofs.Tryd.ntmps38 (by simp) rfl ?_
  intro C hCf hR hCI
  repeat (first | refine Run.seq ?_)
  refine Run.regionO (D := [some 2]) [true] rfl rfl rfl (fun Z hZ => ?_)
  refine QD.ev T (by decide) rfl rfl ?_
  refine QD.nil (hZ _ ?_)
  clear hZ Z
  repeat (first | refine Run.seq ?_)
  refine Run.regionO (D := [some 4, some 5, some 6]) [true, true, true] rfl rfl rfl (fun Z hZ => ?_)
  refine QD.ev T (by decide) rfl rfl ?_
  refine QD.e (Ev.lenS T rfl rfl) (by decide) rfl ?_
  refine QD.ev T (by decide) rfl rfl ?_
  refine QD.nil (hZ _ ?_)
  clear hZ Z
  repeat (first | refine Run.block ?_)
  refine Run.keep [0, 5, 6] [_, _, _] rfl ?_
  refine Run.rounds (fun m env L J => ∃ i : Nat, m = u.length - i ∧ i ≤ u.length ∧ env = [(0, str s), (5, .int .i64 s.length), (6, .int .i64 i)] ∧ L = [] ∧ I = J) u.length ⟨0, by omega, by omega, rfl, rfl, rfl⟩ ?_
  rintro m env L J ⟨i, rfl, hi, rfl, rfl, rfl⟩ ih
  repeat (first | refine Run.seq ?_)
  refine Run.regionO (D := [some 7]) [true] rfl rfl rfl (fun Z hZ => ?_)
  refine QD.e ((Ev.lss rfl rfl).as (show _ = Value.bool true from congrArg Value.bool (decide_eq_true (by omega)))) (by decide) rfl ?_
  refine QD.nil (hZ _ ?_)
  clear hZ Z
  repeat (first | refine Run.seq ?_ | refine Run.skip ?_ | refine Run.block ?_ | refine Run.cond_t rfl ?_)
  refine Run.regionO (D := [some 8, some 3]) [true, true] rfl rfl rfl (fun Z hZ => ?_)
  refine QD.ev T (by decide) rfl rfl ?_
  refine QD.ev T (by decide) rfl rfl ?_
  refine QD.nil (hZ _ ?_)
  clear hZ Z
  repeat (first | refine Run.seq ?_)
  by_cases hlt : i < u.length
  · have hn' : (s.getD i 0).toNat ≠ 58 := fun h => hbef i hlt (UInt8.toNat_inj.1 h)
    obtain ⟨ch, hch⟩ : ∃ ch : Nat, ch = (s.getD i 0).toNat := ⟨_, rfl⟩
    rw [← hch] at hn'
    refine Run.regionO (D := [some 9, some 10, some 11, some 12]) [true, true, true, true] rfl rfl rfl (fun Z hZ => ?_)
    refine QD.ev T (by decide) rfl rfl ?_
    refine QD.ev T (by decide) rfl rfl ?_
    refine QD.e ((Ev.indexT (s := s) T rfl rfl rfl (by omega) (by omega)).as (show _ = Value.int .u8 ((ch : Nat) : Int) from by show Value.int .u8 (((s.getD _ 0).toNat : Nat) : Int) = _; rw [Int.toNat_natCast, ← hch])) (by decide) rfl ?_
    refine QD.e ((Ev.eqlI rfl rfl).as (show _ = Value.bool false from congrArg Value.bool (decide_eq_false (by omega)))) (by decide) rfl ?_
    refine QD.nil (hZ _ ?_)
    clear hZ Z
    repeat (first | refine Run.skip ?_ | refine Run.inBlock ?_ | refine Run.cond_f rfl ?_)
    refine Run.regionO (D := [some 21, some 6]) [true, true] rfl rfl rfl (fun Z hZ => ?_)
    refine QD.e (Ev.addK (r := ((i + 1 : Nat) : Int)) rfl rfl (by rw [wI (by omega) (by omega)]; omega)) (by decide) rfl ?_
    refine QD.ev T (by decide) rfl rfl ?_
    refine QD.nil (hZ _ ?_)
    clear hZ Z
    skip
    refine Run.keep [0, 5, 6] [_, _, _] rfl ?_
    exact ih (u.length - (i + 1)) _ _ _ (by omega) ⟨i + 1, rfl, by omega, rfl, rfl, rfl⟩
  · have hie : i = u.length := by omega
    subst hie
    refine Run.regionO (D := [some 9, some 10, some 11, some 12]) [true, true, true, true] rfl rfl rfl (fun Z hZ => ?_)
    refine QD.ev T (by decide) rfl rfl ?_
    refine QD.ev T (by decide) rfl rfl ?_
    refine QD.e ((Ev.indexT (s := s) T rfl rfl rfl (by omega) (by omega)).as (show _ = Value.int .u8 58 from by show Value.int .u8 (((s.getD _ 0).toNat : Nat) : Int) = _; rw [Int.toNat_natCast, hat]; rfl)) (by decide) rfl ?_
    refine QD.e ((Ev.eqlI rfl rfl).as (show _ = Value.bool true from rfl)) (by decide) rfl ?_
    refine QD.nil (hZ _ ?_)
    clear hZ Z
    repeat (first | refine Run.seq ?_ | refine Run.cond_t rfl ?_)
    refine Run.regionAny (fun _ => True) (bl 9 0) (by kernel_rfl) (by kernel_rfl) ?_
    refine RAny.tk 0 (bl 9 1) rfl (by kernel_rfl) (by decide) (fun _ _ => trivial) (Yld.eval T rfl rfl) ?_
    refine RAny.tk 1 (bl 9 3) rfl (by kernel_rfl) (by decide) (fun _ _ => trivial) (Yld.eval T rfl rfl) ?_
    refine RAny.tk 2 (bl 9 7) rfl (by kernel_rfl) (by decide) (fun _ _ => trivial) (Yld.ev ((Ev.cutSHi T rfl rfl rfl (by omega) (by omega)).as (show _ = str u from congrArg str (by rw [Int.toNat_natCast, ht]))) rfl) ?_
    refine RAny.tk 3 (bl 9 15) rfl (by kernel_rfl) (by decide) (fun _ _ => trivial) (Yld.eval T rfl rfl) ?_
    refine RAny.tk 4 (bl 9 31) rfl (by kernel_rfl) (by decide) (fun _ _ => trivial) (Yld.eval T rfl rfl) ?_
    refine RAny.tk 5 (bl 9 63) rfl (by kernel_rfl) (by decide) (fun _ _ => trivial) (Yld.ev (Ev.addK (r := ((u.length + 1 : Nat) : Int)) rfl rfl (by rw [wI (by omega) (by omega)]; omega)) rfl) ?_
    refine RAny.tk 6 (bl 9 127) rfl (by kernel_rfl) (by decide) (fun _ _ => trivial) (Yld.ev ((Ev.cutSLo (j := ((u.length + 1 : Nat) : Int)) T rfl rfl rfl (by omega) (by omega)).as (show _ = str p from congrArg str (by rw [Int.toNat_natCast, hdr]))) rfl) ?_
    refine RAny.on 7 (bl 9 255) rfl (by kernel_rfl) rfl (by decide) (Eff.lit T rfl rfl rfl (by decide) (by decide) rfl rfl rfl rfl rfl fun bq => ⟨fun _ _ => trivial, ?_⟩)
    refine RAny.tk 8 (bl 9 511) rfl (by kernel_rfl) (by decide) (fun _ _ => trivial) (Yld.eval T rfl rfl) ?_
    refine RAny.done _ (by kernel_rfl) ?_
    refine Run.freeze fun J hle hJ => ?_
    skip
    refine Run.fin (Run.ret1 (by rw [hCf]; exact Proofs.Tryd.func38) Proofs.Tryd.results38 rfl (hR _ _ _ ?_))
    exact ⟨rfl, Sl.ofBlock hJ (Cells.strs [u, p]) rfl (Nat.le_refl _)⟩
theorem auth_Encode (I : Imm) (u p : Bs) (hl : (jn u p).length ≤ 1099511627776) : Pure Proofs.Tryd.prog 28 [str u, str p] I fun w J => w = str (b64 (jn u p)) := by
  have hlen := jn_len u p
  refine Spec.enter 11 [(0, _), (1, _)] Proofs.Tryd.func28 rfl Proofs.Tryd.ntmps28 (by simp) rfl ?_
  intro C hCf hR hCI
  repeat (first | refine Run.seq ?_)
  refine Run.regionO (D := [some 4]) [true] rfl rfl rfl (fun Z hZ => ?_)
  refine QD.ev T (by decide) rfl rfl ?_
  refine QD.nil (hZ _ ?_)
  clear hZ Z
  repeat (first | refine Run.seq ?_)
  refine Run.regionP (D := [some 5, some 6, some 7, some 8, some 9, some 10, some 4]) [true, true, true, true] 4 rfl rfl rfl (by simp only [List.drop_succ_cons, List.drop_zero]; rfl) (fun Z hZ => ?_)
  refine QD.ev T (by decide) rfl rfl ?_
  refine QD.e (Ev.catS rfl rfl (by simp; omega)) (by decide) rfl ?_
  refine QD.ev T (by decide) rfl rfl ?_
  refine QD.e ((Ev.catS rfl rfl (by simp; omega)).as (show _ = str (jn u p) from congrArg str (by unfold jn; simp))) (by decide) rfl ?_
  refine QD.nil (hZ _ ?_)
  clear hZ Z
  refine Ops.convBytes T rfl (by decide) rfl rfl rfl rfl fun v4 J4 l4 hv4 => ?_
  refine Ops.call ((zz_Base64 J4 v4 (jn u p) hv4 hl)) rfl (by decide) Proofs.Tryd.call39 rfl ?_
  rintro w J l rfl
  refine Ops.pure T rfl (by decide) rfl ?_
  refine Ops.nil ?_
  skip
  refine Run.fin (Run.ret1 (by rw [hCf]; exact Proofs.Tryd.func28) Proofs.Tryd.results28 rfl (hR _ _ _ ?_))
  exact ⟨rfl, rfl⟩
set_option maxHeartbeats 1000000 in
theorem auth_Decode (I : Imm) (u p : Bs) (hu : (58 : UInt8) ∉ u) (hl : (jn u p).length ≤ 137438953472) : Pure Proofs.Tryd.prog 26 [str (b64 (jn u p))] I fun w J => w = .tuple #[str u, str p, .nilIface] := by
  have hl : (jn u p).length ≤ 1099511627776 := by omega
  have hne := jn_ne u p
  have hbl := b64_len (jn u p)
  have hpos : 0 < (jn u p).length := List.length_pos_iff.2 hne
  have htr := auth_Trim I (b64 (jn u p)) (fun c hc => ⟨(b64_asc _ c hc).1, (b64_asc _ c hc).2.1⟩) (by omega)
  refine Spec.enter 35 [(0, _)] Proofs.Tryd.func26 rfl Proofs.Tryd.ntmps26 (by simp) rfl ?_
  intro C hCf hR hCI
  repeat (first | refine Run.seq ?_)
  refine Run.regionO (D := [some 2, some 3, some 4]) [true, true, true] rfl rfl rfl (fun Z hZ => ?_)
  refine QD.ev T (by decide) rfl rfl ?_
  refine QD.ev T (by decide) rfl rfl ?_
  refine QD.ev T (by decide) rfl rfl ?_
  refine QD.nil (hZ _ ?_)
  clear hZ Z
  repeat (first | refine Run.seq ?_)
  refine Run.regionO (D := [some 5]) [true] rfl rfl rfl (fun Z hZ => ?_)
  refine QD.ev T (by decide) rfl rfl ?_
  refine QD.nil (hZ _ ?_)
  clear hZ Z
  repeat (first | refine Run.seq ?_)
  refine Run.regionP (D := [some 7, some 8, some 9]) [true] 1 rfl rfl rfl (by simp only [List.drop_succ_cons, List.drop_zero]; rfl) (fun Z hZ => ?_)
  refine QD.ev T (by decide) rfl rfl ?_
  refine QD.nil (hZ _ ?_)
  clear hZ Z
  refine Ops.call ((htr)) rfl (by decide) Proofs.Tryd.call36 rfl ?_
  rintro w J l rfl
  refine Ops.call ((str_HasSuffix J (b64 (jn u p)) [61] (by simp; omega) (by omega))) rfl (by decide) Proofs.Tryd.call35 rfl ?_
  rintro w2 J2 l2 rfl
  refine Ops.nil ?_
  skip
  by_cases h3 : (jn u p).length % 3 = 0
  · rw [decide_eq_false (show ¬ (b64 (jn u p)).drop ((b64 (jn u p)).length - [(61 : UInt8)].length) = [61] from b64_nolast _ h3)]
    repeat (first | refine Run.cond_f rfl ?_)
    refine Run.regionP (D := [some 16, some 17, some 15, some 18, some 19, some 5, some 4]) [true] 1 rfl rfl rfl (by simp only [List.drop_succ_cons, List.drop_zero]; rfl) (fun Z hZ => ?_)
    refine QD.ev T (by decide) rfl rfl ?_
    refine QD.nil (hZ _ ?_)
    clear hZ Z
    refine Ops.call ((auth_DecodeR J2 _ hne h3 hl)) rfl (by decide) Proofs.Tryd.call37 rfl ?_
    rintro w3 J3 l3 ⟨v, rfl, hv⟩
    refine Ops.pure T rfl (by decide) rfl ?_
    refine Ops.pure T rfl (by decide) rfl ?_
    refine Ops.pure T rfl (by decide) rfl ?_
    refine Ops.pure T rfl (by decide) rfl ?_
    refine Ops.pure T rfl (by decide) rfl ?_
    refine Ops.nil ?_
    repeat (first | refine Run.seq ?_)
    refine Run.regionO (D := [some 20, some 21]) [true, true] rfl rfl rfl (fun Z hZ => ?_)
    refine QD.ev T (by decide) rfl rfl ?_
    refine QD.e (Ev.neqNil T rfl rfl rfl rfl rfl) (by decide) rfl ?_
    refine QD.nil (hZ _ ?_)
    clear hZ Z
    repeat (first | refine Run.seq ?_ | refine Run.skip ?_ | refine Run.cond_f rfl ?_)
    refine Run.regionP (D := [some 22, some 23, some 24, some 6]) [true, true] 2 rfl rfl rfl (by simp only [List.drop_succ_cons, List.drop_zero]; rfl) (fun Z hZ => ?_)
    refine QD.ev T (by decide) rfl rfl ?_
    refine QD.yv (by decide) rfl (Yv.bytesSl T hv rfl rfl rfl rfl) ?_
    refine QD.nil (hZ _ ?_)
    clear hZ Z
    refine Ops.call ((auth_Split2 _ u p hu hl)) rfl (by decide) Proofs.Tryd.call38 rfl ?_
    rintro w2 J2 l2 hS
    refine Ops.pure T rfl (by decide) rfl ?_
    refine Ops.nil ?_
    repeat (first | refine Run.seq ?_)
    obtain ⟨A2, c2, rfl⟩ := hS.isSl
    refine Run.regionO (D := [some 25, some 26, some 27]) [true, true, true] rfl rfl rfl (fun Z hZ => ?_)
    refine QD.ev T (by decide) rfl rfl ?_
    refine QD.ev T (by decide) rfl rfl ?_
    refine QD.e (Ev.neqI rfl rfl) (by decide) rfl ?_
    refine QD.nil (hZ _ ?_)
    clear hZ Z
    repeat (first | refine Run.seq ?_ | refine Run.skip ?_ | refine Run.cond_f rfl ?_)
    refine Run.region ?_
    refine Ops.pure T rfl (by decide) rfl ?_
    refine Ops.indexSl (j := 0) hS rfl (by decide) rfl rfl (T.undOk rfl) (T.sizeOk rfl) (by decide) (by simp) fun bb0 off0 q0 cs0 hq0 hr0 hA0 => ?_
    cases hq0
    obtain rfl : cs0 = [str u] := hr0
    refine Ops.loadI rfl (by decide) rfl hA0 (T.aggOk rfl) ?_
    refine Ops.pure T rfl (by decide) rfl ?_
    refine Ops.nil ?_
    repeat (first | refine Run.seq ?_)
    refine Run.region ?_
    refine Ops.pure T rfl (by decide) rfl ?_
    refine Ops.indexSl (j := 1) hS rfl (by decide) rfl rfl (T.undOk rfl) (T.sizeOk rfl) (by decide) (by simp) fun bb1 off1 q1 cs1 hq1 hr1 hA1 => ?_
    cases hq1
    obtain rfl : cs1 = [str p] := hr1
    refine Ops.loadI rfl (by decide) rfl hA1 (T.aggOk rfl) ?_
    refine Ops.pure T rfl (by decide) rfl ?_
    refine Ops.nil ?_
    skip
    refine Run.fin (Run.ret3 (by rw [hCf]; exact Proofs.Tryd.func26) Proofs.Tryd.results26 rfl rfl rfl (hR _ _ _ ?_))
    exact ⟨rfl, rfl⟩
  · rw [decide_eq_true (show (b64 (jn u p)).drop ((b64 (jn u p)).length - [(61 : UInt8)].length) = [61] from b64_last _ h3)]
    repeat (first | refine Run.cond_t rfl ?_)
    refine Run.regionP (D := [some 11, some 12, some 10, some 13, some 14, some 5, some 4]) [true] 1 rfl rfl rfl (by simp only [List.drop_succ_cons, List.drop_zero]; rfl) (fun Z hZ => ?_)
    refine QD.ev T (by decide) rfl rfl ?_
    refine QD.nil (hZ _ ?_)
    clear hZ Z
    refine Ops.call ((auth_DecodeP J2 _ hne hl)) rfl (by decide) Proofs.Tryd.call37 rfl ?_
    rintro w3 J3 l3 ⟨v, rfl, hv⟩
    refine Ops.pure T rfl (by decide) rfl ?_
    refine Ops.pure T rfl (by decide) rfl ?_
    refine Ops.pure T rfl (by decide) rfl ?_
    refine Ops.pure T rfl (by decide) rfl ?_
    refine Ops.pure T rfl (by decide) rfl ?_
    refine Ops.nil ?_
    repeat (first | refine Run.seq ?_)
    refine Run.regionO (D := [some 20, some 21]) [true, true] rfl rfl rfl (fun Z hZ => ?_)
    refine QD.ev T (by decide) rfl rfl ?_
    refine QD.e (Ev.neqNil T rfl rfl rfl rfl rfl) (by decide) rfl ?_
    refine QD.nil (hZ _ ?_)
    clear hZ Z
    repeat (first | refine Run.seq ?_ | refine Run.skip ?_ | refine Run.cond_f rfl ?_)
    refine Run.regionP (D := [some 22, some 23, some 24, some 6]) [true, true] 2 rfl rfl rfl (by simp only [List.drop_succ_cons, List.drop_zero]; rfl) (fun Z hZ => ?_)
    refine QD.ev T (by decide) rfl rfl ?_
    refine QD.yv (by decide) rfl (Yv.bytesSl T hv rfl rfl rfl rfl) ?_
    refine QD.nil (hZ _ ?_)
    clear hZ Z
    refine Ops.call ((auth_Split2 _ u p hu hl)) rfl (by decide) Proofs.Tryd.call38 rfl ?_
    rintro w2 J2 l2 hS
    refine Ops.pure T rfl (by decide) rfl ?_
    refine Ops.nil ?_
    repeat (first | refine Run.seq ?_)
    obtain ⟨A2, c2, rfl⟩ := hS.isSl
    refine Run.regionO (D := [some 25, some 26, some 27]) [true, true, true] rfl rfl rfl (fun Z hZ => ?_)
    refine QD.ev T (by decide) rfl rfl ?_
    refine QD.ev T (by decide) rfl rfl ?_
    refine QD.e (Ev.neqI rfl rfl) (by decide) rfl ?_
    refine QD.nil (hZ _ ?_)
    clear hZ Z
    repeat (first | refine Run.seq ?_ | refine Run.skip ?_ | refine Run.cond_f rfl ?_)
    refine Run.region ?_
    refine Ops.pure T rfl (by decide) rfl ?_
    refine Ops.indexSl (j := 0) hS rfl (by decide) rfl rfl (T.undOk rfl) (T.sizeOk rfl) (by decide) (by simp) fun bb0 off0 q0 cs0 hq0 hr0 hA0 => ?_
    cases hq0
    obtain rfl : cs0 = [str u] := hr0
    refine Ops.loadI rfl (by decide) rfl hA0 (T.aggOk rfl) ?_
    refine Ops.pure T rfl (by decide) rfl ?_
    refine Ops.nil ?_
    repeat (first | refine Run.seq ?_)
    refine Run.region ?_
    refine Ops.pure T rfl (by decide) rfl ?_
    refine Ops.indexSl (j := 1) hS rfl (by decide) rfl rfl (T.undOk rfl) (T.sizeOk rfl) (by decide) (by simp) fun bb1 off1 q1 cs1 hq1 hr1 hA1 => ?_
    cases hq1
    obtain rfl : cs1 = [str p] := hr1
    refine Ops.loadI rfl (by decide) rfl hA1 (T.aggOk rfl) ?_
    refine Ops.pure T rfl (by decide) rfl ?_
    refine Ops.nil ?_
    skip
    refine Run.fin (Run.ret3 (by rw [hCf]; exact Proofs.Tryd.func26) Proofs.Tryd.results26 rfl rfl rfl (hR _ _ _ ?_))
    exact ⟨rfl, rfl⟩
end Go.V
/-
  What one says to a registry, read from JSON: UnmarshalJSON, impl.AuthOf.
-/
namespace Go.V
open Go.RowKit
set_option linter.unusedVariables false
set_option linter.unusedSimpArgs false
set_option maxRecDepth 10000
attribute [local irreducible] Run Ops QD
/-- what is made of what was read -/
inductive AuFin : Au → Au → Prop
  | joined (a : Au) (u p : Bs) (ha : a.auth = b64 (jn u p)) (hu : (58 : UInt8) ∉ u) (hl : (jn u p).length ≤ 137438953472) : AuFin a { a with user := u, pass := p }
  | apart (a : Au) (ha : a.auth = []) (hu : a.user ≠ []) (hp : a.pass ≠ []) (hl : (jn a.user a.pass).length ≤ 137438953472) : AuFin a { a with auth := b64 (jn a.user a.pass) }
  | none (a : Au) (ha : a.auth = []) (h : a.user = [] ∨ a.pass = []) : AuFin a a
theorem b64_ne {s : Bs} (h : s ≠ []) : b64 s ≠ [] := fun he => by
  have := b64_len s
  have hp : 0 < s.length := List.length_pos_iff.2 h
  rw [he, List.length_nil] at this; omega
set_option maxHeartbeats 2000000 in
theorem auth_UnmarshalJSON (I : Imm) (hU : UT I) (s : Bs) (w : Value) (hS : Sl tU8 I w s) (hne : s ≠ []) (hs : s.length ≤ 137438953472) (x : Nat) (v : JV) (t : Bs) (hv : rdV 10000 s = some (v, t)) (ht : skipB t = [])
    (hk : v.kind = 123) (ms : List (Bs × JV)) (hkeys : v.keys = ms.map Prod.fst) (hkids : v.kids = ms.map Prod.snd) (hms : ms.length ≤ 1000000) (hok : ∀ m ∈ ms, AuOk m) (a' : Au) (hf : AuFin (Au.zero.takes ms) a') :
    Spec Proofs.Tryd.prog 19 [.pointer (some ⟨x, 0, none⟩), w] I [(x, blk Au.zero.cs 50)] fun y J M => y = .nilIface ∧ M = [(x, blk a'.cs 50)] := by
  obtain ⟨db, off, c, hR0⟩ := Rd.of hS hne
  have hUn := fun b5 => auth_Unmarshal I hU s w db off c b5 hR0 hs Au.zero v t hv ht hk ms hkeys hkids hms hok
  generalize Au.zero.takes ms = a at *
  obtain rfl := hR0.eq
  refine Spec.enter 60 [(0, _), (1, _)] Proofs.Tryd.func19 rfl Proofs.Tryd.ntmps19 (by simp) rfl ?_
  intro C hCf hR hCI
  repeat (first | refine Run.seq ?_)
  refine Run.regionO (D := [some 4]) [true] rfl rfl rfl (fun Z hZ => ?_)
  refine QD.ev T (by decide) rfl rfl ?_
  refine QD.nil (hZ _ ?_)
  clear hZ Z
  repeat (first | refine Run.seq ?_)
  refine Run.region ?_
  refine Ops.alloc rfl (by decide) (T.zeroOk rfl) rfl (fun b5 => ?_)
  refine Ops.nil ?_
  repeat (first | refine Run.seq ?_)
  refine Run.regionP (D := [some 8, some 9, some 10, some 6]) [true, true] 2 rfl rfl rfl (by simp only [List.drop_succ_cons, List.drop_zero]; rfl) (fun Z hZ => ?_)
  refine QD.ev T (by decide) rfl rfl ?_
  refine QD.ev T (by decide) rfl rfl ?_
  refine QD.nil (hZ _ ?_)
  clear hZ Z
  refine Ops.callP (N := [(x, _)]) (hUn b5) (List.Perm.swap _ _ _) rfl (by decide) Proofs.Tryd.call25 rfl ?_
  rintro y J1 M1 l1 ⟨rfl, rfl⟩
  refine Ops.pure T rfl (by decide) rfl ?_
  refine Ops.nil ?_
  repeat (first | refine Run.seq ?_)
  refine Run.regionO (D := [some 11, some 12]) [true, true] rfl rfl rfl (fun Z hZ => ?_)
  refine QD.ev T (by decide) rfl rfl ?_
  refine QD.e (Ev.neqNil T rfl rfl rfl rfl rfl) (by decide) rfl ?_
  refine QD.nil (hZ _ ?_)
  clear hZ Z
  repeat (first | refine Run.seq ?_ | refine Run.skip ?_ | refine Run.cond_f rfl ?_)
  repeat (first | refine Run.seq ?_ | refine Run.region ?_ | refine Ops.nil ?_ | refine Ops.neq rfl (by decide) rfl rfl ?_ | refine Ops.pure T rfl (by decide) rfl ?_ | refine Ops.lenS T rfl (by decide) rfl rfl ?_ | refine Ops.load 1 rfl (by decide) rfl rfl (T.aggOk rfl) rfl ?_ | refine Ops.loadN 1 rfl (by decide) rfl rfl (T.aggOk rfl) (T.sizeOk rfl) rfl rfl ?_ | refine Ops.store 0 rfl rfl rfl rfl rfl (T.sizeOk rfl) rfl (Nat.le_of_ble_eq_true rfl) rfl rfl ?_)
  cases hf with
  | joined u p ha hu hl =>
    have hne := b64_ne (jn_ne u p)
    have hbl := b64_len (jn u p)
    have hD := fun J => auth_Decode J u p hu hl
    obtain ⟨au, ap, aa, ai, ar⟩ := a
    simp only at ha
    subst ha
    generalize b64 (jn u p) = bb at *
    have h0 : ((bb.length : Nat) : Int) ≠ 0 := by have := List.length_pos_iff.2 hne; omega
    rw [show (!decide ((bb.length : Int) = 0)) = true from by rw [decide_eq_false h0]; rfl]
    repeat (first | refine Run.seq ?_ | refine Run.region ?_ | refine Ops.nil ?_ | refine Run.cond_t rfl ?_ | refine Ops.pure T rfl (by decide) rfl ?_ | refine Ops.load 1 rfl (by decide) rfl rfl (T.aggOk rfl) rfl ?_)
    refine Ops.call ((hD J1)) rfl (by decide) Proofs.Tryd.call26 rfl ?_
    rintro w2 J2 l2 rfl
    repeat (first | refine Run.seq ?_ | refine Run.region ?_ | refine Ops.nil ?_ | refine Run.skip ?_ | refine Run.cond_f rfl ?_ | refine Ops.neqNil T rfl (by decide) rfl rfl rfl rfl rfl ?_ | refine Ops.pure T rfl (by decide) rfl ?_ | refine Ops.store 0 rfl rfl rfl rfl rfl (T.sizeOk rfl) rfl (Nat.le_of_ble_eq_true rfl) rfl rfl ?_)
    refine Run.dropL (L' := [(x, _)]) (List.Sublist.cons_cons _ (List.nil_sublist _)) ?_
    refine Run.ret1 (by rw [hCf]; exact Proofs.Tryd.func19) Proofs.Tryd.results19 rfl (hR _ _ _ ?_)
    exact ⟨rfl, rfl⟩
  | apart ha hu hp hl =>
    obtain ⟨au, ap, aa, ai, ar⟩ := a
    simp only at ha hu hp hl
    subst ha
    have hE := fun J => auth_Encode J au ap (by omega)
    repeat (first | refine Run.seq ?_ | refine Run.region ?_ | refine Run.cond_f rfl ?_ | refine Ops.neq rfl (by decide) rfl rfl ?_ | refine Ops.pure T rfl (by decide) rfl ?_ | refine Ops.lenS T rfl (by decide) rfl rfl ?_ | refine Ops.load 0 rfl (by decide) rfl rfl (T.aggOk rfl) rfl ?_)
    have h0 : ((au.length : Nat) : Int) ≠ 0 := by have := List.length_pos_iff.2 hu; omega
    have h1 : ((ap.length : Nat) : Int) ≠ 0 := by have := List.length_pos_iff.2 hp; omega
    rw [show (!decide ((au.length : Int) = 0)) = true from by rw [decide_eq_false h0]; rfl]
    repeat (first | refine Ops.nil ?_ | refine Ops.neq rfl (by decide) rfl rfl ?_ | refine Ops.pure T rfl (by decide) rfl ?_ | refine Ops.lenS T rfl (by decide) rfl rfl ?_ | refine Ops.load 0 rfl (by decide) rfl rfl (T.aggOk rfl) rfl ?_)
    rw [show (!decide ((ap.length : Int) = 0)) = true from by rw [decide_eq_false h1]; rfl]
    repeat (first | refine Run.region ?_ | refine Run.cond_t rfl ?_ | refine Ops.pure T rfl (by decide) rfl ?_ | refine Ops.load 1 rfl (by decide) rfl rfl (T.aggOk rfl) rfl ?_)
    refine Ops.call ((hE J1)) rfl (by decide) Proofs.Tryd.call28 rfl ?_
    rintro w2 J2 l2 rfl
    repeat (first | refine Run.seq ?_ | refine Run.region ?_ | refine Ops.nil ?_ | refine Ops.pure T rfl (by decide) rfl ?_ | refine Ops.store 0 rfl rfl rfl rfl rfl (T.sizeOk rfl) rfl (Nat.le_of_ble_eq_true rfl) rfl rfl ?_)
    refine Run.dropL (L' := [(x, _)]) (List.Sublist.cons_cons _ (List.nil_sublist _)) ?_
    refine Run.ret1 (by rw [hCf]; exact Proofs.Tryd.func19) Proofs.Tryd.results19 rfl (hR _ _ _ ?_)
    exact ⟨rfl, rfl⟩
  | none ha h =>
    obtain ⟨au, ap, aa, ai, ar⟩ := a'
    simp only at ha h
    subst ha
    repeat (first | refine Run.seq ?_ | refine Run.region ?_ | refine Run.cond_f rfl ?_ | refine Ops.neq rfl (by decide) rfl rfl ?_ | refine Ops.pure T rfl (by decide) rfl ?_ | refine Ops.lenS T rfl (by decide) rfl rfl ?_ | refine Ops.load 0 rfl (by decide) rfl rfl (T.aggOk rfl) rfl ?_)
    by_cases h0 : au = []
    · subst h0
      repeat (first | refine Run.seq ?_ | refine Run.region ?_ | refine Ops.nil ?_ | refine Run.skip ?_ | refine Run.cond_f rfl ?_ | refine Ops.not rfl (by decide) ?_ | refine Ops.pure T rfl (by decide) rfl ?_)
      refine Run.dropL (L' := [(x, _)]) (List.Sublist.cons_cons _ (List.nil_sublist _)) ?_
      refine Run.ret1 (by rw [hCf]; exact Proofs.Tryd.func19) Proofs.Tryd.results19 rfl (hR _ _ _ ?_)
      exact ⟨rfl, rfl⟩
    · obtain rfl : ap = [] := h.resolve_left h0
      have h1 : ((au.length : Nat) : Int) ≠ 0 := by have := List.length_pos_iff.2 h0; omega
      rw [show (!decide ((au.length : Int) = 0)) = true from by rw [decide_eq_false h1]; rfl]
      repeat (first | refine Run.seq ?_ | refine Run.region ?_ | refine Ops.nil ?_ | refine Run.skip ?_ | refine Run.cond_f rfl ?_ | refine Ops.neq rfl (by decide) rfl rfl ?_ | refine Ops.pure T rfl (by decide) rfl ?_ | refine Ops.lenS T rfl (by decide) rfl rfl ?_ | refine Ops.load 0 rfl (by decide) rfl rfl (T.aggOk rfl) rfl ?_)
      refine Run.dropL (L' := [(x, _)]) (List.Sublist.cons_cons _ (List.nil_sublist _)) ?_
      refine Run.ret1 (by rw [hCf]; exact Proofs.Tryd.func19) Proofs.Tryd.results19 rfl (hR _ _ _ ?_)
      exact ⟨rfl, rfl⟩
theorem impl_AuthOf (I : Imm) (hU : UT I) (s : Bs) (hne : s ≠ []) (hs : s.length ≤ 137438953472) (v : JV) (t : Bs) (hv : rdV 10000 s = some (v, t)) (ht : skipB t = [])
    (hk : v.kind = 123) (ms : List (Bs × JV)) (hkeys : v.keys = ms.map Prod.fst) (hkids : v.kids = ms.map Prod.snd) (hms : ms.length ≤ 1000000) (hok : ∀ m ∈ ms, AuOk m) (a' : Au) (hf : AuFin (Au.zero.takes ms) a') :
    Pure Proofs.Tryd.prog 9 [str s] I fun w J => w = .tuple #[.agg a'.cs.toArray, .bool true] := by
  refine Spec.enter 13 [(0, _)] Proofs.Tryd.func9 rfl Proofs.Tryd.ntmps9 (by simp) rfl ?_
  intro C hCf hR hCI
  repeat (first | refine Run.seq ?_)
  refine Run.region ?_
  refine Ops.alloc rfl (by decide) (T.zeroOk rfl) rfl (fun b0 => ?_)
  refine Ops.pure T rfl (by decide) rfl ?_
  refine Ops.nil ?_
  repeat (first | refine Run.seq ?_)
  refine Run.region ?_
  refine Ops.alloc rfl (by decide) (T.zeroOk rfl) rfl (fun b1 => ?_)
  refine Ops.nil ?_
  repeat (first | refine Run.seq ?_)
  refine Run.regionP (D := [some 6, some 7, some 8, some 5]) [true] 1 rfl rfl rfl (by simp only [List.drop_succ_cons, List.drop_zero]; rfl) (fun Z hZ => ?_)
  refine QD.ev T (by decide) rfl rfl ?_
  refine QD.nil (hZ _ ?_)
  clear hZ Z
  refine Ops.convBytes T rfl (by decide) rfl rfl rfl rfl fun v4 J4 l4 hv4 => ?_
  refine Ops.callP (N := [(b0, _)]) (auth_UnmarshalJSON J4 (hU.mono l4) s v4 hv4 hne hs b1 v t hv ht hk ms hkeys hkids hms hok a' hf) (List.Perm.swap _ _ _) rfl (by decide) Proofs.Tryd.call19 rfl ?_
  rintro y J1 M1 l1 ⟨rfl, rfl⟩
  refine Ops.pure T rfl (by decide) rfl ?_
  refine Ops.nil ?_
  repeat (first | refine Run.seq ?_)
  refine Run.regionO (D := [some 9, some 10]) [true, true] rfl rfl rfl (fun Z hZ => ?_)
  refine QD.ev T (by decide) rfl rfl ?_
  refine QD.e (Ev.neqNil T rfl rfl rfl rfl rfl) (by decide) rfl ?_
  refine QD.nil (hZ _ ?_)
  clear hZ Z
  repeat (first | refine Run.seq ?_ | refine Run.skip ?_ | refine Run.cond_f rfl ?_)
  repeat (first | refine Run.region ?_ | refine Ops.nil ?_ | refine Ops.pure T rfl (by decide) rfl ?_ | refine Ops.loadN 1 rfl (by decide) rfl rfl (T.aggOk rfl) (T.sizeOk rfl) rfl rfl ?_ | refine Ops.store 0 rfl rfl rfl rfl rfl (T.sizeOk rfl) rfl (Nat.le_of_ble_eq_true rfl) rfl rfl ?_)
  refine Run.retCT T 0 (by rw [hCf]; exact Proofs.Tryd.func9) Proofs.Tryd.results9 rfl rfl rfl rfl rfl rfl rfl (hR _ _ _ ?_)
  exact ⟨rfl, rfl⟩
end Go.V
/-
  What one says to a registry, written as JSON: ZzPut, Marshal, MarshalJSON, impl.AuthText.
-/
namespace Go.V
open Go.RowKit
set_option linter.unusedVariables false
set_option linter.unusedSimpArgs false
set_option maxRecDepth 10000
attribute [local irreducible] Run Ops QD
def ascR (s : Bs) : List Nat := s.map UInt8.toNat
theorem encs_asc : ∀ {s : Bs}, (∀ c ∈ s, c.toNat < 128) → encs (ascR s) = s
  | [], _ => rfl
  | c :: s, h => by
    have hc := h c (by simp)
    have ih := encs_asc (s := s) fun x hx => h x (by simp [hx])
    unfold ascR at *
    rw [List.map_cons, encs_cons, encR_ascii _ (by omega) (by omega), ih]
    simp
theorem good_asc {s : Bs} (h : ∀ c ∈ s, c.toNat < 128) : ∀ r ∈ ascR s, goodR r := by
  intro r hr
  obtain ⟨c, hc, rfl⟩ := List.mem_map.1 hr
  have := h c hc
  exact .inl (by omega)
theorem ascR_len (s : Bs) : (ascR s).length = s.length := by simp [ascR]
/-- what one says, by runes -/
structure Ru where
  u : List Nat
  p : List Nat
  a : List Nat
  i : List Nat
  r : List Nat
def Ru.au (x : Ru) : Au := ⟨encs x.u, encs x.p, encs x.a, encs x.i, encs x.r⟩
structure Ru.Good (x : Ru) : Prop where
  u : ∀ r ∈ x.u, goodR r
  p : ∀ r ∈ x.p, goodR r
  a : ∀ r ∈ x.a, goodR r
  i : ∀ r ∈ x.i, goodR r
  r : ∀ r ∈ x.r, goodR r
def Ru.len (x : Ru) : Nat := x.u.length + x.p.length + x.a.length + x.i.length + x.r.length
def uK : Bs := [117, 115, 101, 114, 110, 97, 109, 101]
def pK : Bs := [112, 97, 115, 115, 119, 111, 114, 100]
def aK : Bs := [97, 117, 116, 104]
def iK : Bs := [105, 100, 101, 110, 116, 105, 116, 121, 116, 111, 107, 101, 110]
def rK : Bs := [114, 101, 103, 105, 115, 116, 114, 121, 116, 111, 107, 101, 110]
def Ru.mems (x : Ru) : List Bs := omem (ascR uK) x.u ++ omem (ascR pK) x.p ++ omem (ascR aK) x.a ++ omem (ascR iK) x.i ++ omem (ascR rK) x.r
def Ru.text (x : Ru) : Bs := 123 :: joinC x.mems ++ [125]
theorem join_omem (ts : List Bs) (k v : List Nat) (hk : ∀ r ∈ k, goodR r) (hv : ∀ r ∈ v, goodR r) : (joinC (ts ++ omem k v)).length ≤ (joinC ts).length + 6 * k.length + 6 * v.length + 6 := by
  unfold omem
  split
  · simp; omega
  · have h1 := quo_len hk
    have h2 := quo_len hv
    rw [joinC_snoc]
    split
    · simp only [List.length_append, List.length_cons]; omega
    · simp only [List.length_append, List.length_cons]; omega
theorem auth_Opt (I : Imm) (hU : UT I) (w : Nat) (pre : Bs) (ts : List Bs) (kb : Bs) (v : List Nat) (hk : ∀ c ∈ kb, c.toNat < 128) (hv : ∀ r ∈ v, goodR r) (N : Own) (hW : WrO w pre ts N) (hs : (pre ++ joinC ts).length + 6 * kb.length + 6 * v.length + 16 ≤ 1099511627776) :
    Spec Proofs.Tryd.prog 76 [.pointer (some ⟨w, 0, none⟩), str kb, str (encs v)] I N fun _ J N' => WrO w pre (ts ++ omem (ascR kb) v) N' := by
  have := Writer_OptStr I hU w pre ts (ascR kb) v (good_asc hk) hv N hW (by rw [ascR_len]; exact hs)
  rw [encs_asc hk] at this
  exact this
set_option maxHeartbeats 1000000 in
theorem auth_Put1 (I : Imm) (hU : UT I) (b2 b3 w : Nat) (x : Ru) (hx : x.Good) (hB3 : At I b3 0 [.pointer (some ⟨w, 0, none⟩)]) (hB2 : At I b2 0 x.au.cs) (pre : Bs) (N : Own) (hW : WrO w pre [] N) (hs : pre.length + 6 * x.len + 1000 ≤ 1099511627776) :
    Spec Proofs.Tryd.prog 75 [.pointer (some ⟨b3, 0, none⟩), .pointer (some ⟨b2, 0, none⟩)] I N fun v J N' => WrO w pre x.mems N' := by
  have k0 : uK.length = 8 := rfl
  have k1 : pK.length = 8 := rfl
  have k2 : aK.length = 4 := rfl
  have k3 : iK.length = 13 := rfl
  have k4 : rK.length = 13 := rfl
  have hj : (joinC ([] : List Bs)).length = 0 := rfl
  unfold Ru.len at hs
  refine Spec.enter 22 [(0, _), (1, _)] Proofs.Tryd.func75 rfl Proofs.Tryd.ntmps75 (by simp) rfl ?_
  intro C hCf hR hCI
  repeat (first | refine Run.seq ?_)
  refine Run.regionP (D := [some 2, some 3, some 4, some 5]) [true, true, true] 3 rfl rfl rfl (by simp only [List.drop_succ_cons, List.drop_zero]; rfl) (fun Z hZ => ?_)
  refine QD.yv (by decide) rfl (Yv.loadI T (hB3.mono (Le.refl _)) rfl rfl) ?_
  refine QD.ev T (by decide) rfl rfl ?_
  refine QD.yv (by decide) rfl (Yv.loadI T ((hB2.cellAt 0 rfl).mono (Le.refl _)) rfl rfl) ?_
  refine QD.nil (hZ _ ?_)
  clear hZ Z
  have hj0 := join_omem (([] : List Bs)) (ascR uK) x.u (good_asc (s := uK) (by decide)) hx.u
  refine Ops.callP (N := []) ((auth_Opt _ (hU.mono (Le.refl _)) w pre (([] : List Bs)) uK x.u (by decide) hx.u _ hW (by rw [List.length_append]; simp only [ascR_len] at *; omega))) (.refl _) rfl (by decide) Proofs.Tryd.call76 rfl ?_
  rintro u0 J0 N0 l0 hW0
  refine Ops.nil ?_
  repeat (first | refine Run.seq ?_)
  refine Run.regionP (D := [some 6, some 7, some 8, some 9]) [true, true, true] 3 rfl rfl rfl (by simp only [List.drop_succ_cons, List.drop_zero]; rfl) (fun Z hZ => ?_)
  refine QD.yv (by decide) rfl (Yv.loadI T (hB3.mono l0) rfl rfl) ?_
  refine QD.ev T (by decide) rfl rfl ?_
  refine QD.yv (by decide) rfl (Yv.loadI T ((hB2.cellAt 1 rfl).mono l0) rfl rfl) ?_
  refine QD.nil (hZ _ ?_)
  clear hZ Z
  have hj1 := join_omem ([] ++ omem (ascR uK) x.u) (ascR pK) x.p (good_asc (s := pK) (by decide)) hx.p
  refine Ops.callP (N := []) ((auth_Opt _ (hU.mono l0) w pre ([] ++ omem (ascR uK) x.u) pK x.p (by decide) hx.p _ hW0 (by rw [List.length_append]; simp only [ascR_len] at *; omega))) (.refl _) rfl (by decide) Proofs.Tryd.call76 rfl ?_
  rintro u1 J1 N1 l1 hW1
  refine Ops.nil ?_
  repeat (first | refine Run.seq ?_)
  refine Run.regionP (D := [some 10, some 11, some 12, some 13]) [true, true, true] 3 rfl rfl rfl (by simp only [List.drop_succ_cons, List.drop_zero]; rfl) (fun Z hZ => ?_)
  refine QD.yv (by decide) rfl (Yv.loadI T (hB3.mono (l0.trans l1)) rfl rfl) ?_
  refine QD.ev T (by decide) rfl rfl ?_
  refine QD.yv (by decide) rfl (Yv.loadI T ((hB2.cellAt 2 rfl).mono (l0.trans l1)) rfl rfl) ?_
  refine QD.nil (hZ _ ?_)
  clear hZ Z
  have hj2 := join_omem ([] ++ omem (ascR uK) x.u ++ omem (ascR pK) x.p) (ascR aK) x.a (good_asc (s := aK) (by decide)) hx.a
  refine Ops.callP (N := []) ((auth_Opt _ (hU.mono (l0.trans l1)) w pre ([] ++ omem (ascR uK) x.u ++ omem (ascR pK) x.p) aK x.a (by decide) hx.a _ hW1 (by rw [List.length_append]; simp only [ascR_len] at *; omega))) (.refl _) rfl (by decide) Proofs.Tryd.call76 rfl ?_
  rintro u2 J2 N2 l2 hW2
  refine Ops.nil ?_
  repeat (first | refine Run.seq ?_)
  refine Run.regionP (D := [some 14, some 15, some 16, some 17]) [true, true, true] 3 rfl rfl rfl (by simp only [List.drop_succ_cons, List.drop_zero]; rfl) (fun Z hZ => ?_)
  refine QD.yv (by decide) rfl (Yv.loadI T (hB3.mono ((l0.trans l1).trans l2)) rfl rfl) ?_
  refine QD.ev T (by decide) rfl rfl ?_
  refine QD.yv (by decide) rfl (Yv.loadI T ((hB2.cellAt 3 rfl).mono ((l0.trans l1).trans l2)) rfl rfl) ?_
  refine QD.nil (hZ _ ?_)
  clear hZ Z
  have hj3 := join_omem ([] ++ omem (ascR uK) x.u ++ omem (ascR pK) x.p ++ omem (ascR aK) x.a) (ascR iK) x.i (good_asc (s := iK) (by decide)) hx.i
  refine Ops.callP (N := []) ((auth_Opt _ (hU.mono ((l0.trans l1).trans l2)) w pre ([] ++ omem (ascR uK) x.u ++ omem (ascR pK) x.p ++ omem (ascR aK) x.a) iK x.i (by decide) hx.i _ hW2 (by rw [List.length_append]; simp only [ascR_len] at *; omega))) (.refl _) rfl (by decide) Proofs.Tryd.call76 rfl ?_
  rintro u3 J3 N3 l3 hW3
  refine Ops.nil ?_
  skip
  refine Run.regionP (D := [some 18, some 19, some 20, some 21]) [true, true, true] 3 rfl rfl rfl (by simp only [List.drop_succ_cons, List.drop_zero]; rfl) (fun Z hZ => ?_)
  refine QD.yv (by decide) rfl (Yv.loadI T (hB3.mono (((l0.trans l1).trans l2).trans l3)) rfl rfl) ?_
  refine QD.ev T (by decide) rfl rfl ?_
  refine QD.yv (by decide) rfl (Yv.loadI T ((hB2.cellAt 4 rfl).mono (((l0.trans l1).trans l2).trans l3)) rfl rfl) ?_
  refine QD.nil (hZ _ ?_)
  clear hZ Z
  have hj4 := join_omem ([] ++ omem (ascR uK) x.u ++ omem (ascR pK) x.p ++ omem (ascR aK) x.a ++ omem (ascR iK) x.i) (ascR rK) x.r (good_asc (s := rK) (by decide)) hx.r
  refine Ops.callP (N := []) ((auth_Opt _ (hU.mono (((l0.trans l1).trans l2).trans l3)) w pre ([] ++ omem (ascR uK) x.u ++ omem (ascR pK) x.p ++ omem (ascR aK) x.a ++ omem (ascR iK) x.i) rK x.r (by decide) hx.r _ hW3 (by rw [List.length_append]; simp only [ascR_len] at *; omega))) (.refl _) rfl (by decide) Proofs.Tryd.call76 rfl ?_
  rintro u4 J4 N4 l4 hW4
  refine Ops.nil ?_
  skip
  refine Run.end0 (by rw [hCf]; exact Proofs.Tryd.func75) Proofs.Tryd.results75 (hR _ _ _ ?_)
  exact hW4
theorem Ru.text_len {x : Ru} (hx : x.Good) : (joinC x.mems).length ≤ 6 * x.len + 400 := by
  have h0 := join_omem [] (ascR uK) x.u (good_asc (s := uK) (by decide)) hx.u
  have h1 := join_omem ([] ++ omem (ascR uK) x.u) (ascR pK) x.p (good_asc (s := pK) (by decide)) hx.p
  have h2 := join_omem ([] ++ omem (ascR uK) x.u ++ omem (ascR pK) x.p) (ascR aK) x.a (good_asc (s := aK) (by decide)) hx.a
  have h3 := join_omem ([] ++ omem (ascR uK) x.u ++ omem (ascR pK) x.p ++ omem (ascR aK) x.a) (ascR iK) x.i (good_asc (s := iK) (by decide)) hx.i
  have h4 := join_omem ([] ++ omem (ascR uK) x.u ++ omem (ascR pK) x.p ++ omem (ascR aK) x.a ++ omem (ascR iK) x.i) (ascR rK) x.r (good_asc (s := rK) (by decide)) hx.r
  have k0 : uK.length = 8 := rfl
  have k1 : pK.length = 8 := rfl
  have k2 : aK.length = 4 := rfl
  have k3 : iK.length = 13 := rfl
  have k4 : rK.length = 13 := rfl
  have hj : (joinC ([] : List Bs)).length = 0 := rfl
  simp only [ascR_len] at *
  unfold Ru.len
  have e : (joinC x.mems).length = (joinC ([] ++ omem (ascR uK) x.u ++ omem (ascR pK) x.p ++ omem (ascR aK) x.a ++ omem (ascR iK) x.i ++ omem (ascR rK) x.r)).length := by unfold Ru.mems; rfl
  omega
theorem auth_ZzPut (I : Imm) (hU : UT I) (w : Nat) (x : Ru) (hx : x.Good) (N : Own) (hW : WrSt w false false [] N) (hs : x.len ≤ 34359738368) :
    Spec Proofs.Tryd.prog 73 [.agg x.au.cs.toArray, .pointer (some ⟨w, 0, none⟩)] I N fun v J N' => WrSt w false true x.text N' := by
  have hl := Ru.text_len hx
  refine Spec.enter 7 [(0, _), (1, _)] Proofs.Tryd.func73 rfl Proofs.Tryd.ntmps73 (by simp) rfl ?_
  intro C hCf hR hCI
  repeat (first | refine Run.seq ?_)
  refine Run.region ?_
  refine Ops.box rfl (by decide) rfl rfl (fun b2 => ?_)
  refine Ops.box rfl (by decide) rfl rfl (fun b3 => ?_)
  refine Ops.nil ?_
  refine Run.freezeAt 1 rfl rfl fun J1 l1 hJ1 => ?_
  refine Run.freezeAt 0 rfl rfl fun J2 l2 hJ2 => ?_
  have hB2 : At J2 b2 0 x.au.cs := (At.block hJ1).mono l2
  have hB3 : At J2 b3 0 [.pointer (some ⟨w, 0, none⟩)] := At.block hJ2
  skip
  refine Run.regionP (D := [some 4, some 5, some 6]) [true, true] 2 rfl rfl rfl (by simp only [List.drop_succ_cons, List.drop_zero]; rfl) (fun Z hZ => ?_)
  refine QD.yv (by decide) rfl (Yv.loadI T hB3 rfl rfl) ?_
  refine QD.ev T (by decide) rfl rfl ?_
  refine QD.nil (hZ _ ?_)
  clear hZ Z
  refine Ops.callP (N := []) ((Writer_Object J2 w false false (!x.mems.isEmpty) [] ([] ++ [123] ++ joinC x.mems) 75 [.pointer (some ⟨b3, 0, none⟩), .pointer (some ⟨b2, 0, none⟩)] N hW Proofs.Tryd.call75 (fun J N' hle hW' ↦ auth_Put1 J ((hU.mono (l1.trans l2)).mono hle) b2 b3 w x hx (hB3.mono hle) (hB2.mono hle) ([] ++ [123]) N' (by unfold WrO; simpa [joinC] using hW') (by simp; omega)) (by simp) (by simp; omega))) (.refl _) rfl (by decide) Proofs.Tryd.call74 rfl ?_
  rintro u J3 N3 l3 hW3
  refine Ops.nil ?_
  skip
  refine Run.end0 (by rw [hCf]; exact Proofs.Tryd.func73) Proofs.Tryd.results73 (hR _ _ _ ?_)
  exact hW3
theorem meth_auPut : ∀ u w, (method (Proofs.Tryd.prog.types.size + Made.depth) 72 u "ZzPut").run Proofs.Tryd.prog w = .ok (73, u) w := by intro u w; kernel_rfl
theorem auth_Marshal (I : Imm) (hU : UT I) (x : Ru) (hx : x.Good) (hs : x.len ≤ 34359738368) : Pure Proofs.Tryd.prog 29 [.iface 72 (.agg x.au.cs.toArray)] I fun w J => ∃ v, w = .tuple #[v, .nilIface] ∧ Sl tU8 J v x.text := by
  refine Spec.enter 19 [(0, _)] Proofs.Tryd.func29 rfl Proofs.Tryd.ntmps29 (by simp) rfl ?_
  intro C hCf hR hCI
  repeat (first | refine Run.seq ?_)
  refine Run.regionO (D := [some 2, some 3]) [true, true] rfl rfl rfl (fun Z hZ => ?_)
  refine QD.ev T (by decide) rfl rfl ?_
  refine QD.ev T (by decide) rfl rfl ?_
  refine QD.nil (hZ _ ?_)
  clear hZ Z
  repeat (first | refine Run.seq ?_)
  refine Run.regionP (D := [some 5, some 6, some 4]) [true] 1 rfl rfl rfl (by simp only [List.drop_succ_cons, List.drop_zero]; rfl) (fun Z hZ => ?_)
  refine QD.e (Ev.buildS bd108 rfl rfl) (by decide) rfl ?_
  refine QD.nil (hZ _ ?_)
  clear hZ Z
  refine Ops.box rfl (by decide) rfl rfl (fun w => ?_)
  refine Ops.pure T rfl (by decide) rfl ?_
  refine Ops.nil ?_
  repeat (first | refine Run.seq ?_)
  refine Run.regionP (D := [some 7, some 8, some 9]) [true, true] 2 rfl rfl rfl (by simp only [List.drop_succ_cons, List.drop_zero]; rfl) (fun Z hZ => ?_)
  refine QD.ev T (by decide) rfl rfl ?_
  refine QD.ev T (by decide) rfl rfl ?_
  refine QD.nil (hZ _ ?_)
  clear hZ Z
  refine Ops.invokeM (M := [(w, _)]) (N := []) (auth_ZzPut I hU w x hx [(w, _)] ⟨_, [], rfl, Buf.nil _⟩ hs) (.refl _) rfl (by decide) Proofs.Tryd.call73 rfl (meth_auPut _) rfl fun u J1 M1 l1 hW => ?_
  rw [List.append_nil]
  obtain ⟨v1, N1, rfl, hB⟩ := hW
  obtain ⟨A1, c1, rfl⟩ := hB.isSl
  refine Ops.nil ?_
  repeat (first | refine Run.seq ?_)
  refine Run.regionO (D := [some 10, some 11, some 12, some 13]) [true, true, true, true] rfl rfl rfl (fun Z hZ => ?_)
  refine QD.ev T (by decide) rfl rfl ?_
  refine QD.ev T (by decide) rfl rfl ?_
  refine QD.ev T (by decide) rfl rfl ?_
  first | refine QD.yv (by decide) rfl (Yv.load 0 T rfl rfl rfl rfl) ?_ | refine QD.yv (by decide) rfl (Yv.load 1 T rfl rfl rfl rfl) ?_ | refine QD.yv (by decide) rfl (Yv.load 2 T rfl rfl rfl rfl) ?_
  refine QD.nil (hZ _ ?_)
  clear hZ Z
  repeat (first | refine Run.seq ?_ | refine Run.skip ?_ | refine Run.cond_f rfl ?_)
  refine Run.regionO (D := [some 15, some 16, some 17, some 18, some 2, some 3]) [true, true, true, true, true, true] rfl rfl rfl (fun Z hZ => ?_)
  refine QD.ev T (by decide) rfl rfl ?_
  refine QD.ev T (by decide) rfl rfl ?_
  refine QD.ev T (by decide) rfl rfl ?_
  first | refine QD.yv (by decide) rfl (Yv.load 0 T rfl rfl rfl rfl) ?_ | refine QD.yv (by decide) rfl (Yv.load 1 T rfl rfl rfl rfl) ?_ | refine QD.yv (by decide) rfl (Yv.load 2 T rfl rfl rfl rfl) ?_
  refine QD.ev T (by decide) rfl rfl ?_
  refine QD.ev T (by decide) rfl rfl ?_
  refine QD.nil (hZ _ ?_)
  clear hZ Z
  skip
  refine Run.keepB (M := N1) (N := [(w, _)]) hB (List.perm_append_comm (l₁ := [_]) (l₂ := N1)) fun J2 l2 hv => ?_
  refine Run.fin (Run.ret2 (by rw [hCf]; exact Proofs.Tryd.func29) Proofs.Tryd.results29 rfl rfl (hR _ _ _ ?_))
  exact ⟨rfl, _, rfl, hv⟩
/-- what is written: name and password joined, too -/
def Ru.fin (x : Ru) : Ru := if x.u = [] ∧ x.p = [] then x else { x with a := ascR (b64 (jn (encs x.u) (encs x.p))) }
theorem Ru.fin_good {x : Ru} (hx : x.Good) : x.fin.Good := by
  unfold Ru.fin
  split
  · exact hx
  · exact ⟨hx.u, hx.p, good_asc fun c hc => by have := (b64_asc _ c hc).2.1; omega, hx.i, hx.r⟩
theorem encs_len_le : ∀ rs : List Nat, (encs rs).length ≤ 4 * rs.length
  | [] => by simp [encs]
  | r :: rs => by
    have := encs_len_le rs
    have := encR_pos r
    rw [encs_cons, List.length_append, List.length_cons]; omega
theorem encs_len_ge : ∀ rs : List Nat, rs.length ≤ (encs rs).length
  | [] => by simp [encs]
  | r :: rs => by
    have := encs_len_ge rs
    have := encR_pos r
    rw [encs_cons, List.length_append, List.length_cons]; omega
theorem Ru.fin_len (x : Ru) : x.fin.len ≤ 9 * x.len + 8 := by
  have h1 := encs_len_le x.u
  have h2 := encs_len_le x.p
  unfold Ru.fin
  split
  · omega
  · unfold Ru.len
    simp only [ascR_len, b64_len, jn_len]; omega
set_option maxHeartbeats 1000000 in
theorem auth_MarshalJSON (I : Imm) (hU : UT I) (x : Ru) (hx : x.Good) (hs : x.len ≤ 3758096384) : Pure Proofs.Tryd.prog 21 [.agg x.au.cs.toArray] I fun w J => ∃ v, w = .tuple #[v, .nilIface] ∧ Sl tU8 J v x.fin.text := by
  have h1 := encs_len_le x.u
  have h2 := encs_len_le x.p
  have h3 : x.u.length + x.p.length ≤ x.len := by unfold Ru.len; omega
  refine Spec.enter 25 [(0, _)] Proofs.Tryd.func21 rfl Proofs.Tryd.ntmps21 (by simp) rfl ?_
  intro C hCf hR hCI
  repeat (first | refine Run.seq ?_)
  refine Run.region ?_
  refine Ops.box rfl (by decide) rfl rfl (fun b1 => ?_)
  refine Ops.pure T rfl (by decide) rfl ?_
  refine Ops.pure T rfl (by decide) rfl ?_
  refine Ops.nil ?_
  repeat (first | refine Run.seq ?_)
  refine Run.region ?_
  first | refine Ops.loadN 0 rfl (by decide) rfl rfl (T.aggOk rfl) (T.sizeOk rfl) rfl rfl ?_ | refine Ops.loadN 1 rfl (by decide) rfl rfl (T.aggOk rfl) (T.sizeOk rfl) rfl rfl ?_ | refine Ops.loadN 2 rfl (by decide) rfl rfl (T.aggOk rfl) (T.sizeOk rfl) rfl rfl ?_
  refine Ops.alloc rfl (by decide) (T.zeroOk rfl) rfl (fun b4 => ?_)
  first | refine Ops.store 0 rfl rfl rfl rfl rfl (T.sizeOk rfl) rfl (Nat.le_of_ble_eq_true rfl) rfl rfl ?_ | refine Ops.store 1 rfl rfl rfl rfl rfl (T.sizeOk rfl) rfl (Nat.le_of_ble_eq_true rfl) rfl rfl ?_ | refine Ops.store 2 rfl rfl rfl rfl rfl (T.sizeOk rfl) rfl (Nat.le_of_ble_eq_true rfl) rfl rfl ?_
  refine Ops.nil ?_
  repeat (first | refine Run.seq ?_)
  by_cases hu : x.u = []
  · have eu : encs x.u = [] := by rw [hu]; rfl
    by_cases hp : x.p = []
    · have ep : encs x.p = [] := by rw [hp]; rfl
      have hfin : x.fin = x := by unfold Ru.fin; rw [if_pos ⟨hu, hp⟩]
      refine Run.regionO (D := [some 6, some 7, some 8, some 9, some 10, some 11, some 12, some 13]) [true, true, true, true, true, true, true, true] rfl rfl rfl (fun Z hZ => ?_)
      refine QD.ev T (by decide) rfl rfl ?_
      first | refine QD.yv (by decide) rfl (Yv.load 0 T rfl rfl rfl rfl) ?_ | refine QD.yv (by decide) rfl (Yv.load 1 T rfl rfl rfl rfl) ?_ | refine QD.yv (by decide) rfl (Yv.load 2 T rfl rfl rfl rfl) ?_
      refine QD.e ((Ev.neqS rfl rfl).as (show _ = Value.bool false from congrArg Value.bool (by rw [show x.au.user = [] from eu]; rfl))) (by decide) rfl ?_
      refine QD.ev T (by decide) rfl rfl ?_
      first | refine QD.ev T (by decide) rfl rfl ?_ | refine QD.off (by decide) rfl ?_
      first | refine QD.yv (by decide) rfl (Yv.load 0 T rfl rfl rfl rfl) ?_ | refine QD.yv (by decide) rfl (Yv.load 1 T rfl rfl rfl rfl) ?_ | refine QD.yv (by decide) rfl (Yv.load 2 T rfl rfl rfl rfl) ?_ | refine QD.off (by decide) rfl ?_
      refine QD.e ((Ev.neqS rfl rfl).as (show _ = Value.bool false from congrArg Value.bool (by rw [show x.au.pass = [] from ep]; rfl))) (by decide) rfl ?_
      refine QD.ev T (by decide) rfl rfl ?_
      refine QD.nil (hZ _ ?_)
      clear hZ Z
      repeat (first | refine Run.seq ?_ | refine Run.skip ?_ | refine Run.cond_f rfl ?_)
      rw [hfin] at hR
      refine Run.regionP (D := [some 20, some 21, some 22, some 23, some 24, some 2, some 3]) [true, true] 2 rfl rfl rfl (by simp only [List.drop_succ_cons, List.drop_zero]; rfl) (fun Z hZ => ?_)
      first | refine QD.yv (by decide) rfl (Yv.loadN 0 T rfl rfl rfl rfl rfl rfl) ?_ | refine QD.yv (by decide) rfl (Yv.loadN 1 T rfl rfl rfl rfl rfl rfl) ?_ | refine QD.yv (by decide) rfl (Yv.loadN 2 T rfl rfl rfl rfl rfl rfl) ?_
      refine QD.ev T (by decide) rfl rfl ?_
      refine QD.nil (hZ _ ?_)
      clear hZ Z
      refine Ops.call ((auth_Marshal I hU x hx (by omega))) rfl (by decide) Proofs.Tryd.call29 rfl ?_
      rintro v J9 l9 ⟨v1, rfl, hv⟩
      obtain ⟨A1, c1, rfl⟩ := hv.isSl
      refine Ops.pure T rfl (by decide) rfl ?_
      refine Ops.pure T rfl (by decide) rfl ?_
      refine Ops.pure T rfl (by decide) rfl ?_
      refine Ops.pure T rfl (by decide) rfl ?_
      refine Ops.nil ?_
      skip
      refine Run.fin (Run.ret2 (by rw [hCf]; exact Proofs.Tryd.func21) Proofs.Tryd.results21 rfl rfl (hR _ _ _ ?_))
      exact ⟨rfl, _, rfl, hv⟩
    · have ep : encs x.p ≠ [] := by
        cases h : x.p with
        | nil => exact absurd h hp
        | cons r rs => exact encs_ne r rs
      have hfin : x.fin = { x with a := ascR (b64 (jn (encs x.u) (encs x.p))) } := by unfold Ru.fin; rw [if_neg (fun h => hp h.2)]
      refine Run.regionO (D := [some 6, some 7, some 8, some 9, some 10, some 11, some 12, some 13]) [true, true, true, true, true, true, true, true] rfl rfl rfl (fun Z hZ => ?_)
      refine QD.ev T (by decide) rfl rfl ?_
      first | refine QD.yv (by decide) rfl (Yv.load 0 T rfl rfl rfl rfl) ?_ | refine QD.yv (by decide) rfl (Yv.load 1 T rfl rfl rfl rfl) ?_ | refine QD.yv (by decide) rfl (Yv.load 2 T rfl rfl rfl rfl) ?_
      refine QD.e ((Ev.neqS rfl rfl).as (show _ = Value.bool false from congrArg Value.bool (by rw [show x.au.user = [] from eu]; rfl))) (by decide) rfl ?_
      refine QD.ev T (by decide) rfl rfl ?_
      first | refine QD.ev T (by decide) rfl rfl ?_ | refine QD.off (by decide) rfl ?_
      first | refine QD.yv (by decide) rfl (Yv.load 0 T rfl rfl rfl rfl) ?_ | refine QD.yv (by decide) rfl (Yv.load 1 T rfl rfl rfl rfl) ?_ | refine QD.yv (by decide) rfl (Yv.load 2 T rfl rfl rfl rfl) ?_ | refine QD.off (by decide) rfl ?_
      refine QD.e ((Ev.neqS rfl rfl).as (show _ = Value.bool true from congrArg Value.bool (by rw [decide_eq_false (show ¬ x.au.pass = [] from ep)]; rfl))) (by decide) rfl ?_
      refine QD.ev T (by decide) rfl rfl ?_
      refine QD.nil (hZ _ ?_)
      clear hZ Z
      repeat (first | refine Run.cond_t rfl ?_)
      refine Run.regionP (D := [some 14, some 15, some 16, some 17, some 18, some 19, none]) [true, true, true, true] 4 rfl rfl rfl (by simp only [List.drop_succ_cons, List.drop_zero]; rfl) (fun Z hZ => ?_)
      refine QD.ev T (by decide) rfl rfl ?_
      first | refine QD.yv (by decide) rfl (Yv.load 0 T rfl rfl rfl rfl) ?_ | refine QD.yv (by decide) rfl (Yv.load 1 T rfl rfl rfl rfl) ?_ | refine QD.yv (by decide) rfl (Yv.load 2 T rfl rfl rfl rfl) ?_
      refine QD.ev T (by decide) rfl rfl ?_
      first | refine QD.yv (by decide) rfl (Yv.load 0 T rfl rfl rfl rfl) ?_ | refine QD.yv (by decide) rfl (Yv.load 1 T rfl rfl rfl rfl) ?_ | refine QD.yv (by decide) rfl (Yv.load 2 T rfl rfl rfl rfl) ?_
      refine QD.nil (hZ _ ?_)
      clear hZ Z
      refine Ops.call ((auth_Encode I (encs x.u) (encs x.p) (by rw [jn_len]; omega))) rfl (by decide) Proofs.Tryd.call28 rfl ?_
      rintro v0 J0 l0 rfl
      refine Ops.pure T rfl (by decide) rfl ?_
      first | refine Ops.store 0 rfl rfl rfl rfl rfl (T.sizeOk rfl) rfl (Nat.le_of_ble_eq_true rfl) rfl rfl ?_ | refine Ops.store 1 rfl rfl rfl rfl rfl (T.sizeOk rfl) rfl (Nat.le_of_ble_eq_true rfl) rfl rfl ?_ | refine Ops.store 2 rfl rfl rfl rfl rfl (T.sizeOk rfl) rfl (Nat.le_of_ble_eq_true rfl) rfl rfl ?_
      refine Ops.nil ?_
      repeat (first | refine Run.seq ?_)
      have hM := auth_Marshal J0 (hU.mono l0) x.fin (Ru.fin_good hx) (by have := x.fin_len; omega)
      rw [hfin] at hM hR
      have e : encs (ascR (b64 (jn (encs x.u) (encs x.p)))) = b64 (jn (encs x.u) (encs x.p)) := encs_asc fun c hc => by have := (b64_asc _ c hc).2.1; omega
      unfold Ru.au at hM
      simp only [e] at hM
      refine Run.regionP (D := [some 20, some 21, some 22, some 23, some 24, some 2, some 3]) [true, true] 2 rfl rfl rfl (by simp only [List.drop_succ_cons, List.drop_zero]; rfl) (fun Z hZ => ?_)
      first | refine QD.yv (by decide) rfl (Yv.loadN 0 T rfl rfl rfl rfl rfl rfl) ?_ | refine QD.yv (by decide) rfl (Yv.loadN 1 T rfl rfl rfl rfl rfl rfl) ?_ | refine QD.yv (by decide) rfl (Yv.loadN 2 T rfl rfl rfl rfl rfl rfl) ?_
      refine QD.ev T (by decide) rfl rfl ?_
      refine QD.nil (hZ _ ?_)
      clear hZ Z
      refine Ops.call ((hM)) rfl (by decide) Proofs.Tryd.call29 rfl ?_
      rintro v J9 l9 ⟨v1, rfl, hv⟩
      obtain ⟨A1, c1, rfl⟩ := hv.isSl
      refine Ops.pure T rfl (by decide) rfl ?_
      refine Ops.pure T rfl (by decide) rfl ?_
      refine Ops.pure T rfl (by decide) rfl ?_
      refine Ops.pure T rfl (by decide) rfl ?_
      refine Ops.nil ?_
      skip
      refine Run.fin (Run.ret2 (by rw [hCf]; exact Proofs.Tryd.func21) Proofs.Tryd.results21 rfl rfl (hR _ _ _ ?_))
      exact ⟨rfl, _, rfl, hv⟩
  · have eu : encs x.u ≠ [] := by
      cases h : x.u with
      | nil => exact absurd h hu
      | cons r rs => exact encs_ne r rs
    have hfin : x.fin = { x with a := ascR (b64 (jn (encs x.u) (encs x.p))) } := by unfold Ru.fin; rw [if_neg (fun h => hu h.1)]
    refine Run.regionO (D := [some 6, some 7, some 8, some 9, some 10, some 11, some 12, some 13]) [true, true, true, true, true, true, true, true] rfl rfl rfl (fun Z hZ => ?_)
    refine QD.ev T (by decide) rfl rfl ?_
    first | refine QD.yv (by decide) rfl (Yv.load 0 T rfl rfl rfl rfl) ?_ | refine QD.yv (by decide) rfl (Yv.load 1 T rfl rfl rfl rfl) ?_ | refine QD.yv (by decide) rfl (Yv.load 2 T rfl rfl rfl rfl) ?_
    refine QD.e ((Ev.neqS rfl rfl).as (show _ = Value.bool true from congrArg Value.bool (by rw [decide_eq_false (show ¬ x.au.user = [] from eu)]; rfl))) (by decide) rfl ?_
    refine QD.ev T (by decide) rfl rfl ?_
    first | refine QD.ev T (by decide) rfl rfl ?_ | refine QD.off (by decide) rfl ?_
    first | refine QD.yv (by decide) rfl (Yv.load 0 T rfl rfl rfl rfl) ?_ | refine QD.yv (by decide) rfl (Yv.load 1 T rfl rfl rfl rfl) ?_ | refine QD.yv (by decide) rfl (Yv.load 2 T rfl rfl rfl rfl) ?_ | refine QD.off (by decide) rfl ?_
    first | refine QD.e (Ev.neqS rfl rfl) (by decide) rfl ?_ | refine QD.off (by decide) rfl ?_
    refine QD.ev T (by decide) rfl rfl ?_
    refine QD.nil (hZ _ ?_)
    clear hZ Z
    repeat (first | refine Run.cond_t rfl ?_)
    refine Run.regionP (D := [some 14, some 15, some 16, some 17, some 18, some 19, none]) [true, true, true, true] 4 rfl rfl rfl (by simp only [List.drop_succ_cons, List.drop_zero]; rfl) (fun Z hZ => ?_)
    refine QD.ev T (by decide) rfl rfl ?_
    first | refine QD.yv (by decide) rfl (Yv.load 0 T rfl rfl rfl rfl) ?_ | refine QD.yv (by decide) rfl (Yv.load 1 T rfl rfl rfl rfl) ?_ | refine QD.yv (by decide) rfl (Yv.load 2 T rfl rfl rfl rfl) ?_
    refine QD.ev T (by decide) rfl rfl ?_
    first | refine QD.yv (by decide) rfl (Yv.load 0 T rfl rfl rfl rfl) ?_ | refine QD.yv (by decide) rfl (Yv.load 1 T rfl rfl rfl rfl) ?_ | refine QD.yv (by decide) rfl (Yv.load 2 T rfl rfl rfl rfl) ?_
    refine QD.nil (hZ _ ?_)
    clear hZ Z
    refine Ops.call ((auth_Encode I (encs x.u) (encs x.p) (by rw [jn_len]; omega))) rfl (by decide) Proofs.Tryd.call28 rfl ?_
    rintro v0 J0 l0 rfl
    refine Ops.pure T rfl (by decide) rfl ?_
    first | refine Ops.store 0 rfl rfl rfl rfl rfl (T.sizeOk rfl) rfl (Nat.le_of_ble_eq_true rfl) rfl rfl ?_ | refine Ops.store 1 rfl rfl rfl rfl rfl (T.sizeOk rfl) rfl (Nat.le_of_ble_eq_true rfl) rfl rfl ?_ | refine Ops.store 2 rfl rfl rfl rfl rfl (T.sizeOk rfl) rfl (Nat.le_of_ble_eq_true rfl) rfl rfl ?_
    refine Ops.nil ?_
    repeat (first | refine Run.seq ?_)
    have hM := auth_Marshal J0 (hU.mono l0) x.fin (Ru.fin_good hx) (by have := x.fin_len; omega)
    rw [hfin] at hM hR
    have e : encs (ascR (b64 (jn (encs x.u) (encs x.p)))) = b64 (jn (encs x.u) (encs x.p)) := encs_asc fun c hc => by have := (b64_asc _ c hc).2.1; omega
    unfold Ru.au at hM
    simp only [e] at hM
    refine Run.regionP (D := [some 20, some 21, some 22, some 23, some 24, some 2, some 3]) [true, true] 2 rfl rfl rfl (by simp only [List.drop_succ_cons, List.drop_zero]; rfl) (fun Z hZ => ?_)
    first | refine QD.yv (by decide) rfl (Yv.loadN 0 T rfl rfl rfl rfl rfl rfl) ?_ | refine QD.yv (by decide) rfl (Yv.loadN 1 T rfl rfl rfl rfl rfl rfl) ?_ | refine QD.yv (by decide) rfl (Yv.loadN 2 T rfl rfl rfl rfl rfl rfl) ?_
    refine QD.ev T (by decide) rfl rfl ?_
    refine QD.nil (hZ _ ?_)
    clear hZ Z
    refine Ops.call ((hM)) rfl (by decide) Proofs.Tryd.call29 rfl ?_
    rintro v J9 l9 ⟨v1, rfl, hv⟩
    obtain ⟨A1, c1, rfl⟩ := hv.isSl
    refine Ops.pure T rfl (by decide) rfl ?_
    refine Ops.pure T rfl (by decide) rfl ?_
    refine Ops.pure T rfl (by decide) rfl ?_
    refine Ops.pure T rfl (by decide) rfl ?_
    refine Ops.nil ?_
    skip
    refine Run.fin (Run.ret2 (by rw [hCf]; exact Proofs.Tryd.func21) Proofs.Tryd.results21 rfl rfl (hR _ _ _ ?_))
    exact ⟨rfl, _, rfl, hv⟩
theorem impl_AuthText (I : Imm) (hU : UT I) (x : Ru) (hx : x.Good) (hs : x.len ≤ 3758096384) : Pure Proofs.Tryd.prog 12 [.agg x.au.cs.toArray] I fun w J => w = .tuple #[str x.fin.text, .bool true] := by
  refine Spec.enter 15 [(0, _)] Proofs.Tryd.func12 rfl Proofs.Tryd.ntmps12 (by simp) rfl ?_
  intro C hCf hR hCI
  repeat (first | refine Run.seq ?_)
  refine Run.region ?_
  refine Ops.box rfl (by decide) rfl rfl (fun b1 => ?_)
  refine Ops.pure T rfl (by decide) rfl ?_
  refine Ops.pure T rfl (by decide) rfl ?_
  refine Ops.nil ?_
  repeat (first | refine Run.seq ?_)
  refine Run.regionP (D := [some 7, some 8, some 6, some 9, some 10, some 4, some 5]) [true] 1 rfl rfl rfl (by simp only [List.drop_succ_cons, List.drop_zero]; rfl) (fun Z hZ => ?_)
  first | refine QD.yv (by decide) rfl (Yv.loadN 0 T rfl rfl rfl rfl rfl rfl) ?_ | refine QD.yv (by decide) rfl (Yv.loadN 1 T rfl rfl rfl rfl rfl rfl) ?_ | refine QD.yv (by decide) rfl (Yv.loadN 2 T rfl rfl rfl rfl rfl rfl) ?_
  refine QD.nil (hZ _ ?_)
  clear hZ Z
  refine Ops.call ((auth_MarshalJSON I hU x hx hs)) rfl (by decide) Proofs.Tryd.call21 rfl ?_
  rintro v J1 l1 ⟨v1, rfl, hv⟩
  obtain ⟨A1, c1, rfl⟩ := hv.isSl
  refine Ops.pure T rfl (by decide) rfl ?_
  refine Ops.pure T rfl (by decide) rfl ?_
  refine Ops.pure T rfl (by decide) rfl ?_
  refine Ops.pure T rfl (by decide) rfl ?_
  refine Ops.pure T rfl (by decide) rfl ?_
  refine Ops.nil ?_
  repeat (first | refine Run.seq ?_)
  refine Run.regionAny (fun _ => True) (bl 6 0) (by kernel_rfl) (by kernel_rfl) ?_
  refine RAny.tk 0 (bl 6 1) rfl (by kernel_rfl) (by decide) (fun _ _ => trivial) (Yld.eval T rfl rfl) ?_
  refine RAny.tk 2 (bl 6 5) rfl (by kernel_rfl) (by decide) (fun _ _ => trivial) (Yld.eval T rfl rfl) ?_
  refine RAny.tk 3 (bl 6 13) rfl (by kernel_rfl) (by decide) (fun _ _ => trivial) (Yld.ev (Ev.eqlNil T rfl rfl rfl rfl rfl) rfl) ?_
  refine RAny.on 1 (bl 6 15) rfl (by kernel_rfl) rfl (by decide) (Eff.yv (Yv.bytesSl T hv rfl rfl rfl rfl) ⟨fun _ _ => trivial, ?_⟩)
  refine RAny.tk 4 (bl 6 31) rfl (by kernel_rfl) (by decide) (fun _ _ => trivial) (Yld.eval T rfl rfl) ?_
  refine RAny.tk 5 (bl 6 63) rfl (by kernel_rfl) (by decide) (fun _ _ => trivial) (Yld.eval T rfl rfl) ?_
  refine RAny.done _ (by kernel_rfl) ?_
  skip
  refine Run.fin (Run.ret2 (by rw [hCf]; exact Proofs.Tryd.func12) Proofs.Tryd.results12 rfl rfl (hR _ _ _ ?_))
  exact ⟨rfl, rfl⟩
end Go.V
