import Derived.Test.YteppnkblebknnaaDoorTM14
import Derived.Test.YteppnkblebknnaaDoorTM15
import Derived.Test.YteppnkblebknnaaDoorTM8
import Derived.Test.YteppnkblebknnaaDoorTM5
/-
  The package authn's small texts: trimmed, decoded, split.
-/
namespace Go.V
open Go.RowKit
set_option linter.unusedVariables false
set_option linter.unusedSimpArgs false
set_option maxRecDepth 10000
attribute [local irreducible] Run Ops QD
theorem getD_mem {s : Bs} {p : Nat} (h : p < s.length) : s.getD p 0 ∈ s := by
  rw [List.getD_eq_getElem?_getD, List.getElem?_eq_getElem h]; exact List.getElem_mem h
theorem b64_noeq : ∀ s : Bs, s.length % 3 = 0 → ∀ c ∈ b64 s, c ≠ 61
  | [], _, c, h => by simp [b64] at h
  | [a], h, _, _ => by simp at h
  | [a, b], h, _, _ => by simp at h
  | a :: b :: d :: t, h, c, hc => by
    simp only [b64, List.mem_cons] at hc
    simp only [List.length_cons] at h
    rcases hc with rfl | rfl | rfl | rfl | hc
    · exact (b64c_asc _).2.2.1
    · exact (b64c_asc _).2.2.1
    · exact (b64c_asc _).2.2.1
    · exact (b64c_asc _).2.2.1
    · exact b64_noeq t (by omega) c hc
theorem b64_last : ∀ s : Bs, s.length % 3 ≠ 0 → (b64 s).drop ((b64 s).length - 1) = [61]
  | [], h => by simp at h
  | [a], _ => rfl
  | [a, b], _ => rfl
  | a :: b :: d :: t, h => by
    simp only [List.length_cons] at h
    have ih := b64_last t (by omega)
    have hl := b64_len t
    have ht : t.length ≠ 0 := by omega
    simp only [b64, List.length_cons]
    rw [show (b64 t).length + 1 + 1 + 1 + 1 - 1 = (b64 t).length - 1 + 4 by omega]
    simpa using ih
theorem b64_nolast (s : Bs) (h : s.length % 3 = 0) : (b64 s).drop ((b64 s).length - 1) ≠ [61] := fun he =>
  b64_noeq s h 61 (List.mem_of_mem_drop (by rw [he]; exact List.mem_singleton.2 rfl)) rfl
set_option maxHeartbeats 1000000 in
theorem auth_Trim (I : Imm) (s : Bs) (hp : ∀ c ∈ s, 43 ≤ c.toNat ∧ c.toNat < 123) (hs : s.length ≤ 1099511627776) : Pure Proofs.Tryd.prog 36 [str s] I fun w J => w = str s := by
  refine Spec.enter 62 [(0, _)] Proofs.Tryd.func36 rfl Proofs.Tryd.ntmps36 (by simp) rfl ?_
  intro C hCf hR hCI
  refine Run.seq ?_
  refine Run.regionO (D := [some 2]) [true] rfl rfl rfl (fun Z hZ => ?_)
  refine q1 dc rfl rfl ?_
  refine QD.nil (hZ _ ?_)
  clear hZ Z
  refine Run.seq ?_
  refine Run.regionO (D := [some 3]) [true] rfl rfl rfl (fun Z hZ => ?_)
  refine q1 dc rfl rfl ?_
  refine QD.nil (hZ _ ?_)
  clear hZ Z
  repeat refine Run.seq ?_
  refine Run.regionP (D := [some 6, some 7]) [true] 1 rfl rfl rfl (by simp only [List.drop_succ_cons, List.drop_zero]; rfl) (fun Z hZ => ?_)
  refine q1 dc rfl rfl ?_
  refine QD.nil (hZ _ ?_)
  clear hZ Z
  refine Ops.rangeStr T rfl dc rfl rfl (fun b => ?_)
  refine Ops.nil ?_
  refine Run.block ?_
  refine Run.keep [0, 3, 7] [_, _, _] rfl ?_
  refine Run.rounds (fun m env L J => ∃ p : Nat, m = s.length - p ∧ p ≤ s.length ∧ env = [(0, str s), (3, .int .i64 p), (7, .pointer (some ⟨b, 0, none⟩))] ∧ L = [(b, .stringIter (ba s) p)]) s.length ⟨0, by omega, by omega, rfl, rfl⟩ ?_
  rintro m env L J ⟨p, rfl, hple, rfl, rfl⟩ ih
  refine Run.seq ?_
  by_cases hlt : p < s.length
  · have hc := hp _ (getD_mem hlt)
    have hr := runeAt_ascii s p (by omega)
    generalize s.getD p 0 = c at hc hr
    obtain ⟨ch, hch⟩ : ∃ ch : Nat, ch = c.toNat := ⟨_, rfl⟩
    rw [← hch] at hr hc
    refine Run.region ?_
    refine Ops.nextStr 0 rfl dc rfl rfl hlt ?_
    rw [hr]
    refine Ops.pure T rfl dc rfl ?_
    refine Ops.nil ?_
    repeat (first | refine Run.seq ?_ | refine Run.skip ?_ | refine Run.block ?_ | refine Run.cond_t rfl ?_)
    refine Run.regionO (D := [some 10, some 11, some 4, some 5]) [true, true, true, true] rfl rfl rfl (fun Z hZ => ?_)
    iterate 4 refine q1 dc rfl rfl ?_
    refine QD.nil (hZ _ ?_)
    clear hZ Z
    repeat (first | refine Run.seq ?_ | refine Run.block ?_)
    refine Run.regionO (D := [some 18, some 19, some 20, some 21, some 22, some 23, some 17]) [true, true, true, true, true, true, true] rfl rfl rfl (fun Z hZ => ?_)
    refine q1 dc rfl rfl ?_
    refine qt (Ev.geq rfl rfl) (by omega) dc rfl ?_
    iterate 2 refine q1 dc rfl rfl ?_
    refine qf (Ev.leq rfl rfl) (by omega) dc rfl ?_
    iterate 2 refine q1 dc rfl rfl ?_
    refine QD.nil (hZ _ ?_)
    clear hZ Z
    repeat (first | refine Run.seq ?_ | refine Run.cond_f rfl ?_)
    refine Run.regionO (D := [some 24, some 25, some 17]) [true, true, true] rfl rfl rfl (fun Z hZ => ?_)
    refine q1 dc rfl rfl ?_
    refine qf (Ev.eqlI rfl rfl) (by omega) dc rfl ?_
    refine q1 dc rfl rfl ?_
    refine QD.nil (hZ _ ?_)
    clear hZ Z
    repeat (first | refine Run.seq ?_ | refine Run.cond_f rfl ?_)
    refine Run.regionO (D := [some 26, some 27, some 17]) [true, true, true] rfl rfl rfl (fun Z hZ => ?_)
    refine q1 dc rfl rfl ?_
    refine qf (Ev.eqlI rfl rfl) (by omega) dc rfl ?_
    refine q1 dc rfl rfl ?_
    refine QD.nil (hZ _ ?_)
    clear hZ Z
    repeat (first | refine Run.seq ?_ | refine Run.cond_f rfl ?_)
    refine Run.regionO (D := [some 28, some 29, some 17]) [true, true, true] rfl rfl rfl (fun Z hZ => ?_)
    refine q1 dc rfl rfl ?_
    refine qf (Ev.eqlI rfl rfl) (by omega) dc rfl ?_
    refine q1 dc rfl rfl ?_
    refine QD.nil (hZ _ ?_)
    clear hZ Z
    repeat (first | refine Run.seq ?_ | refine Run.cond_f rfl ?_)
    refine Run.regionO (D := [some 30, some 31, some 17]) [true, true, true] rfl rfl rfl (fun Z hZ => ?_)
    refine q1 dc rfl rfl ?_
    refine qf (Ev.eqlI rfl rfl) (by omega) dc rfl ?_
    refine q1 dc rfl rfl ?_
    refine QD.nil (hZ _ ?_)
    clear hZ Z
    repeat (first | refine Run.seq ?_ | refine Run.cond_f rfl ?_)
    refine Run.regionO (D := [some 32, some 33, some 34, some 35, some 36, some 37, some 17]) [true, true, true, true, true, true, true] rfl rfl rfl (fun Z hZ => ?_)
    refine q1 dc rfl rfl ?_
    refine qf (Ev.geq rfl rfl) (by omega) dc rfl ?_
    refine q1 dc rfl rfl ?_
    iterate 2 refine QD.off dc rfl ?_
    iterate 2 refine q1 dc rfl rfl ?_
    refine QD.nil (hZ _ ?_)
    clear hZ Z
    repeat (first | refine Run.seq ?_ | refine Run.cond_f rfl ?_)
    refine Run.regionO (D := [some 38, some 39, some 17]) [true, true, true] rfl rfl rfl (fun Z hZ => ?_)
    refine q1 dc rfl rfl ?_
    refine qf (Ev.eqlI rfl rfl) (by omega) dc rfl ?_
    refine q1 dc rfl rfl ?_
    refine QD.nil (hZ _ ?_)
    clear hZ Z
    repeat (first | refine Run.seq ?_ | refine Run.cond_f rfl ?_)
    refine Run.regionO (D := [some 40, some 41, some 17]) [true, true, true] rfl rfl rfl (fun Z hZ => ?_)
    refine q1 dc rfl rfl ?_
    refine qf (Ev.eqlI rfl rfl) (by omega) dc rfl ?_
    refine q1 dc rfl rfl ?_
    refine QD.nil (hZ _ ?_)
    clear hZ Z
    repeat (first | refine Run.seq ?_ | refine Run.cond_f rfl ?_)
    refine Run.regionO (D := [some 42, some 43, some 17]) [true, true, true] rfl rfl rfl (fun Z hZ => ?_)
    refine q1 dc rfl rfl ?_
    refine qf (Ev.eqlI rfl rfl) (by omega) dc rfl ?_
    refine q1 dc rfl rfl ?_
    refine QD.nil (hZ _ ?_)
    clear hZ Z
    repeat (first | refine Run.seq ?_ | refine Run.cond_f rfl ?_)
    refine Run.regionO (D := [some 44, some 45, some 17]) [true, true, true] rfl rfl rfl (fun Z hZ => ?_)
    refine q1 dc rfl rfl ?_
    refine qf (Ev.eqlI rfl rfl) (by omega) dc rfl ?_
    refine q1 dc rfl rfl ?_
    refine QD.nil (hZ _ ?_)
    clear hZ Z
    refine Run.cond_f rfl ?_
    refine Run.regionO (D := [some 46, some 47, some 17]) [true, true, true] rfl rfl rfl (fun Z hZ => ?_)
    refine q1 dc rfl rfl ?_
    refine qf (Ev.eqlI rfl rfl) (by omega) dc rfl ?_
    refine q1 dc rfl rfl ?_
    refine QD.nil (hZ _ ?_)
    clear hZ Z
    repeat (first | refine Run.seq ?_ | refine Run.cond_f rfl ?_)
    refine Run.regionO (D := [some 49, some 50, some 51, some 52, some 53, some 54, some 55, some 56, some 48]) [true, true, true, true, true, true, true, true, true] rfl rfl rfl (fun Z hZ => ?_)
    refine q1 dc rfl rfl ?_
    refine qf (Ev.eqlI rfl rfl) (by omega) dc rfl ?_
    refine q1 dc rfl rfl ?_
    iterate 4 refine QD.off dc rfl ?_
    iterate 2 refine q1 dc rfl rfl ?_
    refine QD.nil (hZ _ ?_)
    clear hZ Z
    refine Run.cond_f rfl ?_
    refine Run.regionP (D := [some 12, some 13, some 14, some 15, some 16, some 3]) [true, true] 2 rfl rfl rfl (by simp only [List.drop_succ_cons, List.drop_zero]; rfl) (fun Z hZ => ?_)
    iterate 2 refine q1 dc rfl rfl ?_
    refine QD.nil (hZ _ ?_)
    clear hZ Z
    refine Ops.convRune T rfl dc rfl rfl rfl ?_
    rw [encR_ascii _ (by omega) (by omega)]
    refine Ops.ev (Ev.lenS T rfl rfl) rfl dc ?_
    refine Ops.add rfl dc rfl rfl (wI (by simp; omega) (by simp; omega)) ?_
    refine Ops.pure T rfl dc rfl ?_
    refine Ops.nil ?_
    repeat refine Run.inBlock ?_
    refine Run.keep [0, 3, 7] [_, _, _] rfl ?_
    exact ih (s.length - (p + 1)) _ _ _ (by omega) ⟨p + 1, rfl, by omega, rfl, rfl⟩
  · have hpe : p = s.length := by omega
    subst hpe
    refine Run.region ?_
    refine Ops.nextStrEnd 0 rfl dc rfl rfl hlt ?_
    refine Ops.pure T rfl dc rfl ?_
    refine Ops.nil ?_
    repeat (first | refine Run.seq ?_ | refine Run.exit rfl ?_ | refine Run.cond_f rfl ?_)
    refine Run.regionO (D := [some 59, some 60, some 61, some 2]) [true, true, true, true] rfl rfl rfl (fun Z hZ => ?_)
    iterate 2 refine q1 dc rfl rfl ?_
    refine QD.e ((Ev.cutSHi T rfl rfl rfl (by omega) (by omega)).as (show _ = str s from congrArg str (by rw [Int.toNat_natCast, List.take_length]))) dc rfl ?_
    refine q1 dc rfl rfl ?_
    refine QD.nil (hZ _ ?_)
    clear hZ Z
    skip
    refine Run.fin (Run.ret1 (by rw [hCf]; exact Proofs.Tryd.func36) Proofs.Tryd.results36 rfl (hR _ _ _ ?_))
    exact ⟨rfl, rfl⟩
set_option maxHeartbeats 1000000 in
theorem lite_HasSuffix (I : Imm) (s u : Bs) (h : u.length ≤ s.length) (hs : s.length ≤ 1099511627776) : Pure Proofs.Tryd.prog 47 [str s, str u] I fun w J => w = .bool (decide (s.drop (s.length - u.length) = u)) := by
  refine Spec.enter 21 [(0, _), (1, _)] Proofs.Tryd.func47 rfl Proofs.Tryd.ntmps47 (by simp) rfl ?_
  intro C hCf hR hCI
  refine Run.seq ?_
  refine Run.regionO (D := [some 4]) [true] rfl rfl rfl (fun Z hZ => ?_)
  refine q1 dc rfl rfl ?_
  refine QD.nil (hZ _ ?_)
  clear hZ Z
  refine Run.seq ?_
  refine Run.regionO (D := [some 5, some 6, some 7, some 8, some 9, some 10, some 11, some 12, some 13, some 14, some 15, some 16, some 17, some 18, some 19, some 20, some 4]) [true, true, true, true, true, true, true, true, true, true, true, true, true, true, true, true, true] rfl rfl rfl (fun Z hZ => ?_)
  refine q1 dc rfl rfl ?_
  refine QD.e (Ev.lenS T rfl rfl) dc rfl ?_
  refine q1 dc rfl rfl ?_
  refine QD.e (Ev.lenS T rfl rfl) dc rfl ?_
  refine qt (Ev.geq rfl rfl) (by omega) dc rfl ?_
  iterate 3 refine q1 dc rfl rfl ?_
  refine QD.e (Ev.lenS T rfl rfl) dc rfl ?_
  refine q1 dc rfl rfl ?_
  refine QD.e (Ev.lenS T rfl rfl) dc rfl ?_
  refine QD.e (Ev.subK (r := ((s.length - u.length : Nat) : Int)) rfl rfl (by rw [wI (by omega) (by omega)]; omega)) dc rfl ?_
  refine QD.e (Ev.cutSLo (j := ((s.length - u.length : Nat) : Int)) T rfl rfl rfl (by omega) (by omega)) dc rfl ?_
  refine q1 dc rfl rfl ?_
  refine QD.e (Ev.eqlS rfl rfl) dc rfl ?_
  iterate 2 refine q1 dc rfl rfl ?_
  refine QD.nil (hZ _ ?_)
  clear hZ Z
  skip
  refine Run.fin (Run.ret1 (by rw [hCf]; exact Proofs.Tryd.func47) Proofs.Tryd.results47 rfl (hR _ _ _ ?_))
  exact ⟨rfl, by rw [Int.toNat_natCast]⟩
theorem str_HasSuffix (I : Imm) (s u : Bs) (h : u.length ≤ s.length) (hs : s.length ≤ 1099511627776) : Pure Proofs.Tryd.prog 35 [str s, str u] I fun w J => w = .bool (decide (s.drop (s.length - u.length) = u)) := by
  refine Spec.enter 8 [(0, _), (1, _)] Proofs.Tryd.func35 rfl Proofs.Tryd.ntmps35 (by simp) rfl ?_
  intro C hCf hR hCI
  refine Run.seq ?_
  refine Run.regionO (D := [some 4]) [true] rfl rfl rfl (fun Z hZ => ?_)
  refine q1 dc rfl rfl ?_
  refine QD.nil (hZ _ ?_)
  clear hZ Z
  refine Run.seq ?_
  refine Run.regionP (D := [some 5, some 6, some 7, some 4]) [true, true] 2 rfl rfl rfl (by simp only [List.drop_succ_cons, List.drop_zero]; rfl) (fun Z hZ => ?_)
  iterate 2 refine q1 dc rfl rfl ?_
  refine QD.nil (hZ _ ?_)
  clear hZ Z
  refine Ops.call ((lite_HasSuffix I s u h hs)) rfl dc Proofs.Tryd.call47 rfl ?_
  rintro w J l rfl
  refine Ops.pure T rfl dc rfl ?_
  refine Ops.nil ?_
  skip
  refine Run.fin (Run.ret1 (by rw [hCf]; exact Proofs.Tryd.func35) Proofs.Tryd.results35 rfl (hR _ _ _ ?_))
  exact ⟨rfl, rfl⟩
set_option maxHeartbeats 1000000 in
theorem auth_DecodeP (I : Imm) (bs : Bs) (hne : bs ≠ []) (hl : bs.length ≤ 1099511627776) : Pure Proofs.Tryd.prog 37 [str (b64 bs), .bool true] I fun w J => ∃ v, w = .tuple #[v, .nilIface] ∧ Sl tU8 J v bs := by
  refine Spec.enter 51 [(0, _), (1, _)] Proofs.Tryd.func37 rfl Proofs.Tryd.ntmps37 (by simp) rfl ?_
  intro C hCf hR hCI
  refine Run.seq ?_
  refine Run.regionO (D := [some 4, some 5]) [true, true] rfl rfl rfl (fun Z hZ => ?_)
  iterate 2 refine q1 dc rfl rfl ?_
  refine QD.nil (hZ _ ?_)
  clear hZ Z
  repeat refine Run.seq ?_
  refine Run.regionO (D := [some 10, some 11]) [true, true] rfl rfl rfl (fun Z hZ => ?_)
  iterate 2 refine q1 dc rfl rfl ?_
  refine QD.nil (hZ _ ?_)
  clear hZ Z
  repeat (first | refine Run.seq ?_ | refine Run.skip ?_ | refine Run.cond_f rfl ?_)
  refine Run.regionP (D := [some 43, some 44, some 42, some 45, some 46, some 8, some 9]) [true] 1 rfl rfl rfl (by simp only [List.drop_succ_cons, List.drop_zero]; rfl) (fun Z hZ => ?_)
  refine q1 dc rfl rfl ?_
  refine QD.nil (hZ _ ?_)
  clear hZ Z
  refine Ops.call ((zz_Unbase64 I bs hne hl)) rfl dc Proofs.Tryd.call48 rfl ?_
  rintro w J l ⟨v, rfl, hv⟩
  obtain ⟨A, c, rfl⟩ := hv.isSl
  iterate 5 refine Ops.pure T rfl dc rfl ?_
  refine Ops.nil ?_
  repeat refine Run.seq ?_
  refine Run.regionO (D := [some 47, some 48]) [true, true] rfl rfl rfl (fun Z hZ => ?_)
  iterate 2 refine q1 dc rfl rfl ?_
  refine QD.nil (hZ _ ?_)
  clear hZ Z
  repeat (first | refine Run.seq ?_ | refine Run.skip ?_ | refine Run.cond_f rfl ?_)
  refine Run.regionO (D := [some 50, some 4, some 5]) [true, true, true] rfl rfl rfl (fun Z hZ => ?_)
  iterate 3 refine q1 dc rfl rfl ?_
  refine QD.nil (hZ _ ?_)
  clear hZ Z
  skip
  refine Run.fin (Run.ret2 (by rw [hCf]; exact Proofs.Tryd.func37) Proofs.Tryd.results37 rfl rfl (hR _ _ _ ?_))
  exact ⟨rfl, _, rfl, hv⟩
set_option maxHeartbeats 1000000 in
theorem auth_DecodeR (I : Imm) (bs : Bs) (hne : bs ≠ []) (h3 : bs.length % 3 = 0) (hl : bs.length ≤ 1099511627776) : Pure Proofs.Tryd.prog 37 [str (b64 bs), .bool false] I fun w J => ∃ v, w = .tuple #[v, .nilIface] ∧ Sl tU8 J v bs := by
  have hz := zz_Unbase64 I bs hne hl
  have hno := b64_noeq bs h3
  have hasc := b64_asc bs
  have hlen := b64_len bs
  have h4 : (b64 bs).length % 4 = 0 := by rw [hlen]; omega
  have hl2 : (b64 bs).length ≤ 4398046511104 := by omega
  generalize b64 bs = s at *
  refine Spec.enter 51 [(0, _), (1, _)] Proofs.Tryd.func37 rfl Proofs.Tryd.ntmps37 (by simp) rfl ?_
  intro C hCf hR hCI
  refine Run.seq ?_
  refine Run.regionO (D := [some 4, some 5]) [true, true] rfl rfl rfl (fun Z hZ => ?_)
  iterate 2 refine q1 dc rfl rfl ?_
  refine QD.nil (hZ _ ?_)
  clear hZ Z
  repeat refine Run.seq ?_
  refine Run.regionO (D := [some 10, some 11]) [true, true] rfl rfl rfl (fun Z hZ => ?_)
  iterate 2 refine q1 dc rfl rfl ?_
  refine QD.nil (hZ _ ?_)
  clear hZ Z
  repeat (first | refine Run.seq ?_ | refine Run.cond_t rfl ?_)
  refine Run.regionO (D := [some 6]) [true] rfl rfl rfl (fun Z hZ => ?_)
  refine q1 dc rfl rfl ?_
  refine QD.nil (hZ _ ?_)
  clear hZ Z
  repeat refine Run.seq ?_
  refine Run.regionO (D := [some 12, some 13, some 14]) [true, true, true] rfl rfl rfl (fun Z hZ => ?_)
  refine q1 dc rfl rfl ?_
  refine QD.e (Ev.lenS T rfl rfl) dc rfl ?_
  refine q1 dc rfl rfl ?_
  refine QD.nil (hZ _ ?_)
  clear hZ Z
  refine Run.block ?_
  refine Run.keep [0, 4, 5, 6, 13, 14] [_, _, _, _, _, _] rfl ?_
  refine Run.rounds (fun m env L J => ∃ i : Nat, m = s.length - i ∧ i ≤ s.length ∧ env = [(0, str s), (4, .slice none 0 0), (5, .nilIface), (6, .int .i64 i), (13, .int .i64 s.length), (14, .int .i64 i)] ∧ L = [] ∧ I = J) s.length ⟨0, by omega, by omega, rfl, rfl, rfl⟩ ?_
  rintro m env L J ⟨i, rfl, hi, rfl, rfl, rfl⟩ ih
  refine Run.seq ?_
  by_cases hlt : i < s.length
  · have hc := hasc _ (getD_mem hlt)
    have hn := hno _ (getD_mem hlt)
    have hn' : (s.getD i 0).toNat ≠ 61 := fun h => hn (UInt8.toNat_inj.1 h)
    obtain ⟨ch, hch⟩ : ∃ ch : Nat, ch = (s.getD i 0).toNat := ⟨_, rfl⟩
    rw [← hch] at hc hn'
    refine Run.regionO (D := [some 15]) [true] rfl rfl rfl (fun Z hZ => ?_)
    refine qt (Ev.lss rfl rfl) (by omega) dc rfl ?_
    refine QD.nil (hZ _ ?_)
    clear hZ Z
    repeat (first | refine Run.seq ?_ | refine Run.skip ?_ | refine Run.block ?_ | refine Run.cond_t rfl ?_)
    refine Run.regionO (D := [some 16, some 7]) [true, true] rfl rfl rfl (fun Z hZ => ?_)
    iterate 2 refine q1 dc rfl rfl ?_
    refine QD.nil (hZ _ ?_)
    clear hZ Z
    repeat refine Run.seq ?_
    refine Run.regionO (D := [some 17, some 18, some 19, some 20]) [true, true, true, true] rfl rfl rfl (fun Z hZ => ?_)
    iterate 2 refine q1 dc rfl rfl ?_
    refine QD.e ((Ev.indexT (s := s) T rfl rfl rfl (by omega) (by omega)).as (show _ = Value.int .u8 ((ch : Nat) : Int) from by show Value.int .u8 (((s.getD _ 0).toNat : Nat) : Int) = _; rw [Int.toNat_natCast, ← hch])) dc rfl ?_
    refine qf (Ev.eqlI rfl rfl) (by omega) dc rfl ?_
    refine QD.nil (hZ _ ?_)
    clear hZ Z
    repeat (first | refine Run.seq ?_ | refine Run.skip ?_ | refine Run.cond_f rfl ?_)
    refine Run.regionO (D := [some 22, some 23, some 24, some 25, some 26, some 27, some 28, some 29, some 30, some 31]) [true, true, true, true, true, true, true, true, true, true] rfl rfl rfl (fun Z hZ => ?_)
    iterate 2 refine q1 dc rfl rfl ?_
    refine QD.e ((Ev.indexT (s := s) T rfl rfl rfl (by omega) (by omega)).as (show _ = Value.int .u8 ((ch : Nat) : Int) from by show Value.int .u8 (((s.getD _ 0).toNat : Nat) : Int) = _; rw [Int.toNat_natCast, ← hch])) dc rfl ?_
    refine QD.e ((Ev.neqI rfl rfl).as (show _ = Value.bool true from congrArg Value.bool (by simp; omega))) dc rfl ?_
    iterate 3 refine q1 dc rfl rfl ?_
    refine QD.e ((Ev.indexT (s := s) T rfl rfl rfl (by omega) (by omega)).as (show _ = Value.int .u8 ((ch : Nat) : Int) from by show Value.int .u8 (((s.getD _ 0).toNat : Nat) : Int) = _; rw [Int.toNat_natCast, ← hch])) dc rfl ?_
    refine QD.e ((Ev.neqI rfl rfl).as (show _ = Value.bool true from congrArg Value.bool (by simp; omega))) dc rfl ?_
    refine q1 dc rfl rfl ?_
    refine QD.nil (hZ _ ?_)
    clear hZ Z
    refine Run.cond_t rfl ?_
    refine Run.regionO (D := [some 32, some 33, some 6]) [true, true, true] rfl rfl rfl (fun Z hZ => ?_)
    refine q1 dc rfl rfl ?_
    refine QD.e (Ev.addK (r := ((i + 1 : Nat) : Int)) rfl rfl (by rw [wI (by omega) (by omega)]; omega)) dc rfl ?_
    refine q1 dc rfl rfl ?_
    refine QD.nil (hZ _ ?_)
    clear hZ Z
    refine Run.inBlock ?_
    refine Run.regionO (D := [some 34, some 14]) [true, true] rfl rfl rfl (fun Z hZ => ?_)
    refine QD.e (Ev.addK (r := ((i + 1 : Nat) : Int)) rfl rfl (by rw [wI (by omega) (by omega)]; omega)) dc rfl ?_
    refine q1 dc rfl rfl ?_
    refine QD.nil (hZ _ ?_)
    clear hZ Z
    skip
    refine Run.keep [0, 4, 5, 6, 13, 14] [_, _, _, _, _, _] rfl ?_
    exact ih (s.length - (i + 1)) _ _ _ (by omega) ⟨i + 1, rfl, by omega, rfl, rfl, rfl⟩
  · have hie : i = s.length := by omega
    subst hie
    refine Run.regionO (D := [some 15]) [true] rfl rfl rfl (fun Z hZ => ?_)
    refine qf (Ev.lss rfl rfl) (by omega) dc rfl ?_
    refine QD.nil (hZ _ ?_)
    clear hZ Z
    repeat (first | refine Run.seq ?_ | refine Run.block ?_ | refine Run.exit rfl ?_ | refine Run.cond_f rfl ?_)
    refine Run.loop ?_
    repeat refine Run.seq ?_
    refine Run.regionO (D := [some 35, some 36, some 37]) [true, true, true] rfl rfl rfl (fun Z hZ => ?_)
    refine q1 dc rfl rfl ?_
    refine QD.e ((Ev.remI (r := 0) rfl rfl dc (by rw [Int.tmod_eq_emod_of_nonneg (by omega)]; omega))) dc rfl ?_
    refine QD.e (Ev.gtr rfl rfl) dc rfl ?_
    refine QD.nil (hZ _ ?_)
    clear hZ Z
    repeat (first | refine Run.seq ?_ | refine Run.exit rfl ?_ | refine Run.cond_f rfl ?_)
    refine Run.regionP (D := [some 43, some 44, some 42, some 45, some 46, some 8, some 9]) [true] 1 rfl rfl rfl (by simp only [List.drop_succ_cons, List.drop_zero]; rfl) (fun Z hZ => ?_)
    refine q1 dc rfl rfl ?_
    refine QD.nil (hZ _ ?_)
    clear hZ Z
    refine Ops.call ((hz)) rfl dc Proofs.Tryd.call48 rfl ?_
    rintro w J l ⟨v, rfl, hv⟩
    obtain ⟨A, c, rfl⟩ := hv.isSl
    iterate 5 refine Ops.pure T rfl dc rfl ?_
    refine Ops.nil ?_
    repeat refine Run.seq ?_
    refine Run.regionO (D := [some 47, some 48]) [true, true] rfl rfl rfl (fun Z hZ => ?_)
    iterate 2 refine q1 dc rfl rfl ?_
    refine QD.nil (hZ _ ?_)
    clear hZ Z
    repeat (first | refine Run.seq ?_ | refine Run.skip ?_ | refine Run.cond_f rfl ?_)
    refine Run.regionO (D := [some 50, some 4, some 5]) [true, true, true] rfl rfl rfl (fun Z hZ => ?_)
    iterate 3 refine q1 dc rfl rfl ?_
    refine QD.nil (hZ _ ?_)
    clear hZ Z
    skip
    refine Run.fin (Run.ret2 (by rw [hCf]; exact Proofs.Tryd.func37) Proofs.Tryd.results37 rfl rfl (hR _ _ _ ?_))
    exact ⟨rfl, _, rfl, hv⟩
end Go.V
/-
  Name and password out of base 64; a configuration read.
-/
namespace Go.V
open Go.RowKit
set_option linter.unusedVariables false
set_option linter.unusedSimpArgs false
set_option maxRecDepth 10000
attribute [local irreducible] Run Ops QD
/-- name and password joined -/
def jn (u p : Bs) : Bs := u ++ 58 :: p
theorem jn_ne (u p : Bs) : jn u p ≠ [] := by unfold jn; simp
theorem jn_len (u p : Bs) : (jn u p).length = u.length + p.length + 1 := by unfold jn; simp; omega
theorem getD_u8 {s : Bs} {i : Nat} (h : i < s.length) : s.getD i 0 = s[i] := by rw [List.getD_eq_getElem?_getD, List.getElem?_eq_getElem h]; rfl
set_option maxHeartbeats 1000000 in
theorem auth_Split2 (I : Imm) (u p : Bs) (hu : (58 : UInt8) ∉ u) (hl : (jn u p).length ≤ 1099511627776) : Pure Proofs.Tryd.prog 38 [str (jn u p)] I fun w J => Sl tStr J w [u, p] := by
  have hlen := jn_len u p
  have hat : (jn u p).getD u.length 0 = 58 := by unfold jn; rw [List.getD_eq_getElem?_getD, List.getElem?_append_right (Nat.le_refl _)]; simp
  have hbef : ∀ i, i < u.length → (jn u p).getD i 0 ≠ 58 := fun i hi h => hu (by
    unfold jn at h
    rw [List.getD_eq_getElem?_getD, List.getElem?_append_left hi, List.getElem?_eq_getElem hi] at h
    rw [← (show u[i] = 58 from h)]; exact List.getElem_mem hi)
  have ht : (jn u p).take u.length = u := by unfold jn; simp
  have hdr : (jn u p).drop (u.length + 1) = p := by unfold jn; rw [List.drop_append]; simp
  generalize jn u p = s at *
  refine Spec.enter 24 [(0, _)] Proofs.Tryd.func38 rfl Proofs.Tryd.ntmps38 (by simp) rfl ?_
  intro C hCf hR hCI
  refine Run.seq ?_
  refine Run.regionO (D := [some 2]) [true] rfl rfl rfl (fun Z hZ => ?_)
  refine q1 dc rfl rfl ?_
  refine QD.nil (hZ _ ?_)
  clear hZ Z
  repeat refine Run.seq ?_
  refine Run.regionO (D := [some 4, some 5, some 6]) [true, true, true] rfl rfl rfl (fun Z hZ => ?_)
  refine q1 dc rfl rfl ?_
  refine QD.e (Ev.lenS T rfl rfl) dc rfl ?_
  refine q1 dc rfl rfl ?_
  refine QD.nil (hZ _ ?_)
  clear hZ Z
  refine Run.block ?_
  refine Run.keep [0, 5, 6] [_, _, _] rfl ?_
  refine Run.rounds (fun m env L J => ∃ i : Nat, m = u.length - i ∧ i ≤ u.length ∧ env = [(0, str s), (5, .int .i64 s.length), (6, .int .i64 i)] ∧ L = [] ∧ I = J) u.length ⟨0, by omega, by omega, rfl, rfl, rfl⟩ ?_
  rintro m env L J ⟨i, rfl, hi, rfl, rfl, rfl⟩ ih
  refine Run.seq ?_
  refine Run.regionO (D := [some 7]) [true] rfl rfl rfl (fun Z hZ => ?_)
  refine qt (Ev.lss rfl rfl) (by omega) dc rfl ?_
  refine QD.nil (hZ _ ?_)
  clear hZ Z
  repeat (first | refine Run.seq ?_ | refine Run.skip ?_ | refine Run.block ?_ | refine Run.cond_t rfl ?_)
  refine Run.regionO (D := [some 8, some 3]) [true, true] rfl rfl rfl (fun Z hZ => ?_)
  iterate 2 refine q1 dc rfl rfl ?_
  refine QD.nil (hZ _ ?_)
  clear hZ Z
  refine Run.seq ?_
  by_cases hlt : i < u.length
  · have hn' : (s.getD i 0).toNat ≠ 58 := fun h => hbef i hlt (UInt8.toNat_inj.1 h)
    obtain ⟨ch, hch⟩ : ∃ ch : Nat, ch = (s.getD i 0).toNat := ⟨_, rfl⟩
    rw [← hch] at hn'
    refine Run.regionO (D := [some 9, some 10, some 11, some 12]) [true, true, true, true] rfl rfl rfl (fun Z hZ => ?_)
    iterate 2 refine q1 dc rfl rfl ?_
    refine QD.e ((Ev.indexT (s := s) T rfl rfl rfl (by omega) (by omega)).as (show _ = Value.int .u8 ((ch : Nat) : Int) from by show Value.int .u8 (((s.getD _ 0).toNat : Nat) : Int) = _; rw [Int.toNat_natCast, ← hch])) dc rfl ?_
    refine qf (Ev.eqlI rfl rfl) (by omega) dc rfl ?_
    refine QD.nil (hZ _ ?_)
    clear hZ Z
    repeat (first | refine Run.skip ?_ | refine Run.inBlock ?_ | refine Run.cond_f rfl ?_)
    refine Run.regionO (D := [some 21, some 6]) [true, true] rfl rfl rfl (fun Z hZ => ?_)
    refine QD.e (Ev.addK (r := ((i + 1 : Nat) : Int)) rfl rfl (by rw [wI (by omega) (by omega)]; omega)) dc rfl ?_
    refine q1 dc rfl rfl ?_
    refine QD.nil (hZ _ ?_)
    clear hZ Z
    skip
    refine Run.keep [0, 5, 6] [_, _, _] rfl ?_
    exact ih (u.length - (i + 1)) _ _ _ (by omega) ⟨i + 1, rfl, by omega, rfl, rfl, rfl⟩
  · have hie : i = u.length := by omega
    subst hie
    refine Run.regionO (D := [some 9, some 10, some 11, some 12]) [true, true, true, true] rfl rfl rfl (fun Z hZ => ?_)
    iterate 2 refine q1 dc rfl rfl ?_
    refine QD.e ((Ev.indexT (s := s) T rfl rfl rfl (by omega) (by omega)).as (show _ = Value.int .u8 58 from by show Value.int .u8 (((s.getD _ 0).toNat : Nat) : Int) = _; rw [Int.toNat_natCast, hat]; rfl)) dc rfl ?_
    refine QD.e ((Ev.eqlI rfl rfl).as (show _ = Value.bool true from rfl)) dc rfl ?_
    refine QD.nil (hZ _ ?_)
    clear hZ Z
    repeat (first | refine Run.seq ?_ | refine Run.cond_t rfl ?_)
    refine Run.regionAny (fun _ => True) (bl 9 0) (by kernel_rfl) (by kernel_rfl) ?_
    refine RAny.tk 0 (bl 9 1) rfl (by kernel_rfl) dc (fun _ _ => trivial) (Yld.eval T rfl rfl) ?_
    refine RAny.tk 1 (bl 9 3) rfl (by kernel_rfl) dc (fun _ _ => trivial) (Yld.eval T rfl rfl) ?_
    refine RAny.tk 2 (bl 9 7) rfl (by kernel_rfl) dc (fun _ _ => trivial) (Yld.ev ((Ev.cutSHi T rfl rfl rfl (by omega) (by omega)).as (show _ = str u from congrArg str (by rw [Int.toNat_natCast, ht]))) rfl) ?_
    refine RAny.tk 3 (bl 9 15) rfl (by kernel_rfl) dc (fun _ _ => trivial) (Yld.eval T rfl rfl) ?_
    refine RAny.tk 4 (bl 9 31) rfl (by kernel_rfl) dc (fun _ _ => trivial) (Yld.eval T rfl rfl) ?_
    refine RAny.tk 5 (bl 9 63) rfl (by kernel_rfl) dc (fun _ _ => trivial) (Yld.ev (Ev.addK (r := ((u.length + 1 : Nat) : Int)) rfl rfl (by rw [wI (by omega) (by omega)]; omega)) rfl) ?_
    refine RAny.tk 6 (bl 9 127) rfl (by kernel_rfl) dc (fun _ _ => trivial) (Yld.ev ((Ev.cutSLo (j := ((u.length + 1 : Nat) : Int)) T rfl rfl rfl (by omega) (by omega)).as (show _ = str p from congrArg str (by rw [Int.toNat_natCast, hdr]))) rfl) ?_
    refine RAny.on 7 (bl 9 255) rfl (by kernel_rfl) rfl dc (Eff.lit T rfl rfl rfl dc dc rfl rfl rfl rfl rfl fun bq => ⟨fun _ _ => trivial, ?_⟩)
    refine RAny.tk 8 (bl 9 511) rfl (by kernel_rfl) dc (fun _ _ => trivial) (Yld.eval T rfl rfl) ?_
    refine RAny.done _ (by kernel_rfl) ?_
    refine Run.freeze fun J hle hJ => ?_
    skip
    refine Run.fin (Run.ret1 (by rw [hCf]; exact Proofs.Tryd.func38) Proofs.Tryd.results38 rfl (hR _ _ _ ?_))
    exact ⟨rfl, Sl.ofBlock hJ (Cells.strs [u, p]) rfl (Nat.le_refl _)⟩
theorem auth_Encode (I : Imm) (u p : Bs) (hl : (jn u p).length ≤ 1099511627776) : Pure Proofs.Tryd.prog 28 [str u, str p] I fun w J => w = str (b64 (jn u p)) := by
  have hlen := jn_len u p
  refine Spec.enter 11 [(0, _), (1, _)] Proofs.Tryd.func28 rfl Proofs.Tryd.ntmps28 (by simp) rfl ?_
  intro C hCf hR hCI
  refine Run.seq ?_
  refine Run.regionO (D := [some 4]) [true] rfl rfl rfl (fun Z hZ => ?_)
  refine q1 dc rfl rfl ?_
  refine QD.nil (hZ _ ?_)
  clear hZ Z
  refine Run.seq ?_
  refine Run.regionP (D := [some 5, some 6, some 7, some 8, some 9, some 10, some 4]) [true, true, true, true] 4 rfl rfl rfl (by simp only [List.drop_succ_cons, List.drop_zero]; rfl) (fun Z hZ => ?_)
  refine q1 dc rfl rfl ?_
  refine QD.e (Ev.catS rfl rfl (by simp; omega)) dc rfl ?_
  refine q1 dc rfl rfl ?_
  refine QD.e ((Ev.catS rfl rfl (by simp; omega)).as (show _ = str (jn u p) from congrArg str (by unfold jn; simp))) dc rfl ?_
  refine QD.nil (hZ _ ?_)
  clear hZ Z
  refine Ops.convBytes T rfl dc rfl rfl rfl rfl fun v4 J4 l4 hv4 => ?_
  refine Ops.call ((zz_Base64 J4 v4 (jn u p) hv4 hl)) rfl dc Proofs.Tryd.call39 rfl ?_
  rintro w J l rfl
  refine Ops.pure T rfl dc rfl ?_
  refine Ops.nil ?_
  skip
  refine Run.fin (Run.ret1 (by rw [hCf]; exact Proofs.Tryd.func28) Proofs.Tryd.results28 rfl (hR _ _ _ ?_))
  exact ⟨rfl, rfl⟩
set_option maxHeartbeats 1000000 in
theorem auth_Decode (I : Imm) (u p : Bs) (hu : (58 : UInt8) ∉ u) (hl : (jn u p).length ≤ 137438953472) : Pure Proofs.Tryd.prog 26 [str (b64 (jn u p))] I fun w J => w = .tuple #[str u, str p, .nilIface] := by
  have hl : (jn u p).length ≤ 1099511627776 := by omega
  have hne := jn_ne u p
  have hbl := b64_len (jn u p)
  have hpos : 0 < (jn u p).length := List.length_pos_iff.2 hne
  have htr := auth_Trim I (b64 (jn u p)) (fun c hc => ⟨(b64_asc _ c hc).1, (b64_asc _ c hc).2.1⟩) (by omega)
  refine Spec.enter 35 [(0, _)] Proofs.Tryd.func26 rfl Proofs.Tryd.ntmps26 (by simp) rfl ?_
  intro C hCf hR hCI
  refine Run.seq ?_
  refine Run.regionO (D := [some 2, some 3, some 4]) [true, true, true] rfl rfl rfl (fun Z hZ => ?_)
  iterate 3 refine q1 dc rfl rfl ?_
  refine QD.nil (hZ _ ?_)
  clear hZ Z
  refine Run.seq ?_
  refine Run.regionO (D := [some 5]) [true] rfl rfl rfl (fun Z hZ => ?_)
  refine q1 dc rfl rfl ?_
  refine QD.nil (hZ _ ?_)
  clear hZ Z
  repeat refine Run.seq ?_
  refine Run.regionP (D := [some 7, some 8, some 9]) [true] 1 rfl rfl rfl (by simp only [List.drop_succ_cons, List.drop_zero]; rfl) (fun Z hZ => ?_)
  refine q1 dc rfl rfl ?_
  refine QD.nil (hZ _ ?_)
  clear hZ Z
  refine Ops.call ((htr)) rfl dc Proofs.Tryd.call36 rfl ?_
  rintro w J l rfl
  refine Ops.call ((str_HasSuffix J (b64 (jn u p)) [61] (by simp; omega) (by omega))) rfl dc Proofs.Tryd.call35 rfl ?_
  rintro w2 J2 l2 rfl
  refine Ops.nil ?_
  skip
  by_cases h3 : (jn u p).length % 3 = 0
  · rw [decide_eq_false (show ¬ (b64 (jn u p)).drop ((b64 (jn u p)).length - [(61 : UInt8)].length) = [61] from b64_nolast _ h3)]
    refine Run.cond_f rfl ?_
    refine Run.regionP (D := [some 16, some 17, some 15, some 18, some 19, some 5, some 4]) [true] 1 rfl rfl rfl (by simp only [List.drop_succ_cons, List.drop_zero]; rfl) (fun Z hZ => ?_)
    refine q1 dc rfl rfl ?_
    refine QD.nil (hZ _ ?_)
    clear hZ Z
    refine Ops.call ((auth_DecodeR J2 _ hne h3 hl)) rfl dc Proofs.Tryd.call37 rfl ?_
    rintro w3 J3 l3 ⟨v, rfl, hv⟩
    iterate 5 refine Ops.pure T rfl dc rfl ?_
    refine Ops.nil ?_
    repeat refine Run.seq ?_
    refine Run.regionO (D := [some 20, some 21]) [true, true] rfl rfl rfl (fun Z hZ => ?_)
    refine q1 dc rfl rfl ?_
    refine QD.e (Ev.neqNil T rfl rfl rfl rfl rfl) dc rfl ?_
    refine QD.nil (hZ _ ?_)
    clear hZ Z
    repeat (first | refine Run.seq ?_ | refine Run.skip ?_ | refine Run.cond_f rfl ?_)
    refine Run.regionP (D := [some 22, some 23, some 24, some 6]) [true, true] 2 rfl rfl rfl (by simp only [List.drop_succ_cons, List.drop_zero]; rfl) (fun Z hZ => ?_)
    refine q1 dc rfl rfl ?_
    refine QD.yv dc rfl (Yv.bytesSl T hv rfl rfl rfl rfl) ?_
    refine QD.nil (hZ _ ?_)
    clear hZ Z
    refine Ops.call ((auth_Split2 _ u p hu hl)) rfl dc Proofs.Tryd.call38 rfl ?_
    rintro w2 J2 l2 hS
    refine Ops.pure T rfl dc rfl ?_
    refine Ops.nil ?_
    repeat refine Run.seq ?_
    obtain ⟨A2, c2, rfl⟩ := hS.isSl
    refine Run.regionO (D := [some 25, some 26, some 27]) [true, true, true] rfl rfl rfl (fun Z hZ => ?_)
    iterate 2 refine q1 dc rfl rfl ?_
    refine QD.e (Ev.neqI rfl rfl) dc rfl ?_
    refine QD.nil (hZ _ ?_)
    clear hZ Z
    repeat (first | refine Run.seq ?_ | refine Run.skip ?_ | refine Run.cond_f rfl ?_)
    refine Run.region ?_
    refine Ops.pure T rfl dc rfl ?_
    refine Ops.indexSl (j := 0) hS rfl dc rfl rfl (T.undOk rfl) (T.sizeOk rfl) dc (by simp) fun bb0 off0 q0 cs0 hq0 hr0 hA0 => ?_
    cases hq0
    obtain rfl : cs0 = [str u] := hr0
    refine Ops.loadI rfl dc rfl hA0 (T.aggOk rfl) ?_
    refine Ops.pure T rfl dc rfl ?_
    refine Ops.nil ?_
    refine Run.seq ?_
    refine Run.region ?_
    refine Ops.pure T rfl dc rfl ?_
    refine Ops.indexSl (j := 1) hS rfl dc rfl rfl (T.undOk rfl) (T.sizeOk rfl) dc (by simp) fun bb1 off1 q1 cs1 hq1 hr1 hA1 => ?_
    cases hq1
    obtain rfl : cs1 = [str p] := hr1
    refine Ops.loadI rfl dc rfl hA1 (T.aggOk rfl) ?_
    refine Ops.pure T rfl dc rfl ?_
    refine Ops.nil ?_
    skip
    refine Run.fin (Run.ret3 (by rw [hCf]; exact Proofs.Tryd.func26) Proofs.Tryd.results26 rfl rfl rfl (hR _ _ _ ?_))
    exact ⟨rfl, rfl⟩
  · rw [decide_eq_true (show (b64 (jn u p)).drop ((b64 (jn u p)).length - [(61 : UInt8)].length) = [61] from b64_last _ h3)]
    refine Run.cond_t rfl ?_
    refine Run.regionP (D := [some 11, some 12, some 10, some 13, some 14, some 5, some 4]) [true] 1 rfl rfl rfl (by simp only [List.drop_succ_cons, List.drop_zero]; rfl) (fun Z hZ => ?_)
    refine q1 dc rfl rfl ?_
    refine QD.nil (hZ _ ?_)
    clear hZ Z
    refine Ops.call ((auth_DecodeP J2 _ hne hl)) rfl dc Proofs.Tryd.call37 rfl ?_
    rintro w3 J3 l3 ⟨v, rfl, hv⟩
    iterate 5 refine Ops.pure T rfl dc rfl ?_
    refine Ops.nil ?_
    repeat refine Run.seq ?_
    refine Run.regionO (D := [some 20, some 21]) [true, true] rfl rfl rfl (fun Z hZ => ?_)
    refine q1 dc rfl rfl ?_
    refine QD.e (Ev.neqNil T rfl rfl rfl rfl rfl) dc rfl ?_
    refine QD.nil (hZ _ ?_)
    clear hZ Z
    repeat (first | refine Run.seq ?_ | refine Run.skip ?_ | refine Run.cond_f rfl ?_)
    refine Run.regionP (D := [some 22, some 23, some 24, some 6]) [true, true] 2 rfl rfl rfl (by simp only [List.drop_succ_cons, List.drop_zero]; rfl) (fun Z hZ => ?_)
    refine q1 dc rfl rfl ?_
    refine QD.yv dc rfl (Yv.bytesSl T hv rfl rfl rfl rfl) ?_
    refine QD.nil (hZ _ ?_)
    clear hZ Z
    refine Ops.call ((auth_Split2 _ u p hu hl)) rfl dc Proofs.Tryd.call38 rfl ?_
    rintro w2 J2 l2 hS
    refine Ops.pure T rfl dc rfl ?_
    refine Ops.nil ?_
    repeat refine Run.seq ?_
    obtain ⟨A2, c2, rfl⟩ := hS.isSl
    refine Run.regionO (D := [some 25, some 26, some 27]) [true, true, true] rfl rfl rfl (fun Z hZ => ?_)
    iterate 2 refine q1 dc rfl rfl ?_
    refine QD.e (Ev.neqI rfl rfl) dc rfl ?_
    refine QD.nil (hZ _ ?_)
    clear hZ Z
    repeat (first | refine Run.seq ?_ | refine Run.skip ?_ | refine Run.cond_f rfl ?_)
    refine Run.region ?_
    refine Ops.pure T rfl dc rfl ?_
    refine Ops.indexSl (j := 0) hS rfl dc rfl rfl (T.undOk rfl) (T.sizeOk rfl) dc (by simp) fun bb0 off0 q0 cs0 hq0 hr0 hA0 => ?_
    cases hq0
    obtain rfl : cs0 = [str u] := hr0
    refine Ops.loadI rfl dc rfl hA0 (T.aggOk rfl) ?_
    refine Ops.pure T rfl dc rfl ?_
    refine Ops.nil ?_
    refine Run.seq ?_
    refine Run.region ?_
    refine Ops.pure T rfl dc rfl ?_
    refine Ops.indexSl (j := 1) hS rfl dc rfl rfl (T.undOk rfl) (T.sizeOk rfl) dc (by simp) fun bb1 off1 q1 cs1 hq1 hr1 hA1 => ?_
    cases hq1
    obtain rfl : cs1 = [str p] := hr1
    refine Ops.loadI rfl dc rfl hA1 (T.aggOk rfl) ?_
    refine Ops.pure T rfl dc rfl ?_
    refine Ops.nil ?_
    skip
    refine Run.fin (Run.ret3 (by rw [hCf]; exact Proofs.Tryd.func26) Proofs.Tryd.results26 rfl rfl rfl (hR _ _ _ ?_))
    exact ⟨rfl, rfl⟩
end Go.V
/-
  What one says to a registry, read from JSON: UnmarshalJSON, impl.AuthOf.
-/
namespace Go.V
open Go.RowKit
set_option linter.unusedVariables false
set_option linter.unusedSimpArgs false
set_option maxRecDepth 10000
attribute [local irreducible] Run Ops QD
/-- what is made of what was read -/
inductive AuFin : Au → Au → Prop
  | joined (a : Au) (u p : Bs) (ha : a.auth = b64 (jn u p)) (hu : (58 : UInt8) ∉ u) (hl : (jn u p).length ≤ 137438953472) : AuFin a { a with user := u, pass := p }
  | apart (a : Au) (ha : a.auth = []) (hu : a.user ≠ []) (hp : a.pass ≠ []) (hl : (jn a.user a.pass).length ≤ 137438953472) : AuFin a { a with auth := b64 (jn a.user a.pass) }
  | none (a : Au) (ha : a.auth = []) (h : a.user = [] ∨ a.pass = []) : AuFin a a
theorem b64_ne {s : Bs} (h : s ≠ []) : b64 s ≠ [] := fun he => by
  have := b64_len s
  have hp : 0 < s.length := List.length_pos_iff.2 h
  rw [he, List.length_nil] at this; omega
set_option maxHeartbeats 2000000 in
theorem auth_UnmarshalJSON (I : Imm) (hU : UT I) (s : Bs) (w : Value) (hS : Sl tU8 I w s) (hne : s ≠ []) (hs : s.length ≤ 137438953472) (x : Nat) (v : JV) (t : Bs) (hv : rdV 10000 s = some (v, t)) (ht : skipB t = [])
    (hk : v.kind = 123) (ms : List (Bs × JV)) (hkeys : v.keys = ms.map Prod.fst) (hkids : v.kids = ms.map Prod.snd) (hms : ms.length ≤ 1000000) (hok : ∀ m ∈ ms, AuOk m) (a' : Au) (hf : AuFin (Au.zero.takes ms) a') :
    Spec Proofs.Tryd.prog 19 [.pointer (some ⟨x, 0, none⟩), w] I [(x, blk Au.zero.cs 50)] fun y J M => y = .nilIface ∧ M = [(x, blk a'.cs 50)] := by
  obtain ⟨db, off, c, hR0⟩ := Rd.of hS hne
  have hUn := fun b5 => auth_Unmarshal I hU s w db off c b5 hR0 hs Au.zero v t hv ht hk ms hkeys hkids hms hok
  generalize Au.zero.takes ms = a at *
  obtain rfl := hR0.eq
  refine Spec.enter 60 [(0, _), (1, _)] Proofs.Tryd.func19 rfl Proofs.Tryd.ntmps19 (by simp) rfl ?_
  intro C hCf hR hCI
  refine Run.seq ?_
  refine Run.regionO (D := [some 4]) [true] rfl rfl rfl (fun Z hZ => ?_)
  refine q1 dc rfl rfl ?_
  refine QD.nil (hZ _ ?_)
  clear hZ Z
  refine Run.seq ?_
  refine Run.region ?_
  refine Ops.alloc rfl dc (T.zeroOk rfl) rfl (fun b5 => ?_)
  refine Ops.nil ?_
  refine Run.seq ?_
  refine Run.regionP (D := [some 8, some 9, some 10, some 6]) [true, true] 2 rfl rfl rfl (by simp only [List.drop_succ_cons, List.drop_zero]; rfl) (fun Z hZ => ?_)
  iterate 2 refine q1 dc rfl rfl ?_
  refine QD.nil (hZ _ ?_)
  clear hZ Z
  refine Ops.callP (N := [(x, _)]) (hUn b5) (List.Perm.swap _ _ _) rfl dc Proofs.Tryd.call25 rfl ?_
  rintro y J1 M1 l1 ⟨rfl, rfl⟩
  refine Ops.pure T rfl dc rfl ?_
  refine Ops.nil ?_
  repeat refine Run.seq ?_
  refine Run.regionO (D := [some 11, some 12]) [true, true] rfl rfl rfl (fun Z hZ => ?_)
  refine q1 dc rfl rfl ?_
  refine QD.e (Ev.neqNil T rfl rfl rfl rfl rfl) dc rfl ?_
  refine QD.nil (hZ _ ?_)
  clear hZ Z
  repeat (first | refine Run.seq ?_ | refine Run.skip ?_ | refine Run.cond_f rfl ?_)
  repeat (first | refine Run.seq ?_ | refine Run.region ?_ | refine Ops.nil ?_ | refine Ops.neq rfl (by decide) rfl rfl ?_ | refine Ops.pure T rfl (by decide) rfl ?_ | refine Ops.lenS T rfl (by decide) rfl rfl ?_ | refine Ops.load 1 rfl (by decide) rfl rfl (T.aggOk rfl) rfl ?_ | refine Ops.loadN 1 rfl (by decide) rfl rfl (T.aggOk rfl) (T.sizeOk rfl) rfl rfl ?_ | refine Ops.store 0 rfl rfl rfl rfl rfl (T.sizeOk rfl) rfl (Nat.le_of_ble_eq_true rfl) rfl rfl ?_)
  cases hf with
  | joined u p ha hu hl =>
    have hne := b64_ne (jn_ne u p)
    have hbl := b64_len (jn u p)
    have hD := fun J => auth_Decode J u p hu hl
    obtain ⟨au, ap, aa, ai, ar⟩ := a
    simp only at ha
    subst ha
    generalize b64 (jn u p) = bb at *
    have h0 : ((bb.length : Nat) : Int) ≠ 0 := by have := List.length_pos_iff.2 hne; omega
    rw [show (!decide ((bb.length : Int) = 0)) = true from by rw [decide_eq_false h0]; rfl]
    repeat (first | refine Run.seq ?_ | refine Run.region ?_ | refine Ops.nil ?_ | refine Run.cond_t rfl ?_ | refine Ops.pure T rfl (by decide) rfl ?_ | refine Ops.load 1 rfl (by decide) rfl rfl (T.aggOk rfl) rfl ?_)
    refine Ops.call ((hD J1)) rfl dc Proofs.Tryd.call26 rfl ?_
    rintro w2 J2 l2 rfl
    repeat (first | refine Run.seq ?_ | refine Run.region ?_ | refine Ops.nil ?_ | refine Run.skip ?_ | refine Run.cond_f rfl ?_ | refine Ops.neqNil T rfl (by decide) rfl rfl rfl rfl rfl ?_ | refine Ops.pure T rfl (by decide) rfl ?_ | refine Ops.store 0 rfl rfl rfl rfl rfl (T.sizeOk rfl) rfl (Nat.le_of_ble_eq_true rfl) rfl rfl ?_)
    refine Run.dropL (L' := [(x, _)]) (List.Sublist.cons_cons _ (List.nil_sublist _)) ?_
    refine Run.ret1 (by rw [hCf]; exact Proofs.Tryd.func19) Proofs.Tryd.results19 rfl (hR _ _ _ ?_)
    exact ⟨rfl, rfl⟩
  | apart ha hu hp hl =>
    obtain ⟨au, ap, aa, ai, ar⟩ := a
    simp only at ha hu hp hl
    subst ha
    have hE := fun J => auth_Encode J au ap (by omega)
    repeat (first | refine Run.seq ?_ | refine Run.region ?_ | refine Run.cond_f rfl ?_ | refine Ops.neq rfl (by decide) rfl rfl ?_ | refine Ops.pure T rfl (by decide) rfl ?_ | refine Ops.lenS T rfl (by decide) rfl rfl ?_ | refine Ops.load 0 rfl (by decide) rfl rfl (T.aggOk rfl) rfl ?_)
    have h0 : ((au.length : Nat) : Int) ≠ 0 := by have := List.length_pos_iff.2 hu; omega
    have h1 : ((ap.length : Nat) : Int) ≠ 0 := by have := List.length_pos_iff.2 hp; omega
    rw [show (!decide ((au.length : Int) = 0)) = true from by rw [decide_eq_false h0]; rfl]
    repeat (first | refine Ops.nil ?_ | refine Ops.neq rfl (by decide) rfl rfl ?_ | refine Ops.pure T rfl (by decide) rfl ?_ | refine Ops.lenS T rfl (by decide) rfl rfl ?_ | refine Ops.load 0 rfl (by decide) rfl rfl (T.aggOk rfl) rfl ?_)
    rw [show (!decide ((ap.length : Int) = 0)) = true from by rw [decide_eq_false h1]; rfl]
    repeat (first | refine Run.region ?_ | refine Run.cond_t rfl ?_ | refine Ops.pure T rfl (by decide) rfl ?_ | refine Ops.load 1 rfl (by decide) rfl rfl (T.aggOk rfl) rfl ?_)
    refine Ops.call ((hE J1)) rfl dc Proofs.Tryd.call28 rfl ?_
    rintro w2 J2 l2 rfl
    repeat (first | refine Run.seq ?_ | refine Run.region ?_ | refine Ops.nil ?_ | refine Ops.pure T rfl (by decide) rfl ?_ | refine Ops.store 0 rfl rfl rfl rfl rfl (T.sizeOk rfl) rfl (Nat.le_of_ble_eq_true rfl) rfl rfl ?_)
    refine Run.dropL (L' := [(x, _)]) (List.Sublist.cons_cons _ (List.nil_sublist _)) ?_
    refine Run.ret1 (by rw [hCf]; exact Proofs.Tryd.func19) Proofs.Tryd.results19 rfl (hR _ _ _ ?_)
    exact ⟨rfl, rfl⟩
  | none ha h =>
    obtain ⟨au, ap, aa, ai, ar⟩ := a'
    simp only at ha h
    subst ha
    repeat (first | refine Run.seq ?_ | refine Run.region ?_ | refine Run.cond_f rfl ?_ | refine Ops.neq rfl (by decide) rfl rfl ?_ | refine Ops.pure T rfl (by decide) rfl ?_ | refine Ops.lenS T rfl (by decide) rfl rfl ?_ | refine Ops.load 0 rfl (by decide) rfl rfl (T.aggOk rfl) rfl ?_)
    by_cases h0 : au = []
    · subst h0
      repeat (first | refine Run.seq ?_ | refine Run.region ?_ | refine Ops.nil ?_ | refine Run.skip ?_ | refine Run.cond_f rfl ?_ | refine Ops.not rfl (by decide) ?_ | refine Ops.pure T rfl (by decide) rfl ?_)
      refine Run.dropL (L' := [(x, _)]) (List.Sublist.cons_cons _ (List.nil_sublist _)) ?_
      refine Run.ret1 (by rw [hCf]; exact Proofs.Tryd.func19) Proofs.Tryd.results19 rfl (hR _ _ _ ?_)
      exact ⟨rfl, rfl⟩
    · obtain rfl : ap = [] := h.resolve_left h0
      have h1 : ((au.length : Nat) : Int) ≠ 0 := by have := List.length_pos_iff.2 h0; omega
      rw [show (!decide ((au.length : Int) = 0)) = true from by rw [decide_eq_false h1]; rfl]
      repeat (first | refine Run.seq ?_ | refine Run.region ?_ | refine Ops.nil ?_ | refine Run.skip ?_ | refine Run.cond_f rfl ?_ | refine Ops.neq rfl (by decide) rfl rfl ?_ | refine Ops.pure T rfl (by decide) rfl ?_ | refine Ops.lenS T rfl (by decide) rfl rfl ?_ | refine Ops.load 0 rfl (by decide) rfl rfl (T.aggOk rfl) rfl ?_)
      refine Run.dropL (L' := [(x, _)]) (List.Sublist.cons_cons _ (List.nil_sublist _)) ?_
      refine Run.ret1 (by rw [hCf]; exact Proofs.Tryd.func19) Proofs.Tryd.results19 rfl (hR _ _ _ ?_)
      exact ⟨rfl, rfl⟩
theorem impl_AuthOf (I : Imm) (hU : UT I) (s : Bs) (hne : s ≠ []) (hs : s.length ≤ 137438953472) (v : JV) (t : Bs) (hv : rdV 10000 s = some (v, t)) (ht : skipB t = [])
    (hk : v.kind = 123) (ms : List (Bs × JV)) (hkeys : v.keys = ms.map Prod.fst) (hkids : v.kids = ms.map Prod.snd) (hms : ms.length ≤ 1000000) (hok : ∀ m ∈ ms, AuOk m) (a' : Au) (hf : AuFin (Au.zero.takes ms) a') :
    Pure Proofs.Tryd.prog 9 [str s] I fun w J => w = .tuple #[.agg a'.cs.toArray, .bool true] := by
  refine Spec.enter 13 [(0, _)] Proofs.Tryd.func9 rfl Proofs.Tryd.ntmps9 (by simp) rfl ?_
  intro C hCf hR hCI
  refine Run.seq ?_
  refine Run.region ?_
  refine Ops.alloc rfl dc (T.zeroOk rfl) rfl (fun b0 => ?_)
  refine Ops.pure T rfl dc rfl ?_
  refine Ops.nil ?_
  refine Run.seq ?_
  refine Run.region ?_
  refine Ops.alloc rfl dc (T.zeroOk rfl) rfl (fun b1 => ?_)
  refine Ops.nil ?_
  repeat refine Run.seq ?_
  refine Run.regionP (D := [some 6, some 7, some 8, some 5]) [true] 1 rfl rfl rfl (by simp only [List.drop_succ_cons, List.drop_zero]; rfl) (fun Z hZ => ?_)
  refine q1 dc rfl rfl ?_
  refine QD.nil (hZ _ ?_)
  clear hZ Z
  refine Ops.convBytes T rfl dc rfl rfl rfl rfl fun v4 J4 l4 hv4 => ?_
  refine Ops.callP (N := [(b0, _)]) (auth_UnmarshalJSON J4 (hU.mono l4) s v4 hv4 hne hs b1 v t hv ht hk ms hkeys hkids hms hok a' hf) (List.Perm.swap _ _ _) rfl dc Proofs.Tryd.call19 rfl ?_
  rintro y J1 M1 l1 ⟨rfl, rfl⟩
  refine Ops.pure T rfl dc rfl ?_
  refine Ops.nil ?_
  refine Run.seq ?_
  refine Run.regionO (D := [some 9, some 10]) [true, true] rfl rfl rfl (fun Z hZ => ?_)
  refine q1 dc rfl rfl ?_
  refine QD.e (Ev.neqNil T rfl rfl rfl rfl rfl) dc rfl ?_
  refine QD.nil (hZ _ ?_)
  clear hZ Z
  repeat (first | refine Run.seq ?_ | refine Run.skip ?_ | refine Run.cond_f rfl ?_)
  repeat (first | refine Run.region ?_ | refine Ops.nil ?_ | refine Ops.pure T rfl (by decide) rfl ?_ | refine Ops.loadN 1 rfl (by decide) rfl rfl (T.aggOk rfl) (T.sizeOk rfl) rfl rfl ?_ | refine Ops.store 0 rfl rfl rfl rfl rfl (T.sizeOk rfl) rfl (Nat.le_of_ble_eq_true rfl) rfl rfl ?_)
  refine Run.retCT T 0 (by rw [hCf]; exact Proofs.Tryd.func9) Proofs.Tryd.results9 rfl rfl rfl rfl rfl rfl rfl (hR _ _ _ ?_)
  exact ⟨rfl, rfl⟩
end Go.V
/-
  The document's JSON of a name and a password.
-/
namespace Go.V
open Go.RowKit
set_option linter.unusedVariables false
set_option linter.unusedSimpArgs false
set_option maxRecDepth 10000
attribute [local irreducible] Run Ops QD
def txJ (s : Bs) : Js := .mk 115 s []
theorem txJ_rel (d : Nat) (I : Imm) (s : Bs) : (tJs (d + 1)).rel I [.int .u8 115, str s, .slice none 0 0] (txJ s) := ⟨.slice none 0 0, rfl, sl_nil _ _⟩
/-- a member, if it says anything -/
def opJ (name s : Bs) : List Js := if s = [] then [] else [txJ name, txJ s]
theorem object_text (d : Nat) (I : Imm) (b : Nat) (name s : Bs) (kids : List Js) (vk : Value) (M : Own) (hG : Gr (tJs (d + 1)) I 42 vk kids M) (hkl : kids.length ≤ 1000000) :
    Spec Proofs.Tryd.prog 17 [.pointer (some ⟨b, 0, none⟩), str name, str s] I ((b, obj vk) :: M) fun _ J N => ∃ vk' M', N = (b, obj vk') :: M' ∧ Gr (tJs (d + 1)) J 42 vk' (kids ++ opJ name s) M' := by
  refine Spec.enter 13 [(0, _), (1, _), (2, _)] Proofs.Tryd.func17 rfl Proofs.Tryd.ntmps17 (by simp) rfl ?_
  intro C hCf hR hCI
  refine Run.seq ?_
  by_cases h0 : s = []
  · subst h0
    refine Run.regionO (D := [some 6, some 7]) [true, true] rfl rfl rfl (fun Z hZ => ?_)
    refine q1 dc rfl rfl ?_
    refine QD.e ((Ev.neqS rfl rfl).as (show _ = Value.bool false from rfl)) dc rfl ?_
    refine QD.nil (hZ _ ?_)
    clear hZ Z
    repeat (first | refine Run.skip ?_ | refine Run.cond_f rfl ?_)
    refine Run.end0 (by rw [hCf]; exact Proofs.Tryd.func17) Proofs.Tryd.results17 (hR _ _ _ ?_)
    exact ⟨vk, M, rfl, by simpa [opJ] using hG⟩
  · skip
    refine Run.regionO (D := [some 6, some 7]) [true, true] rfl rfl rfl (fun Z hZ => ?_)
    refine q1 dc rfl rfl ?_
    refine QD.e ((Ev.neqS rfl rfl).as (show _ = Value.bool true from congrArg Value.bool (by rw [decide_eq_false h0]; rfl))) dc rfl ?_
    refine QD.nil (hZ _ ?_)
    clear hZ Z
    refine Run.cond_t rfl ?_
    refine Run.regionP (D := [some 8, some 9, some 10, some 11, some 12]) [true, true, true] 3 rfl rfl rfl (by simp only [List.drop_succ_cons, List.drop_zero]; rfl) (fun Z hZ => ?_)
    iterate 3 refine q1 dc rfl rfl ?_
    refine QD.nil (hZ _ ?_)
    clear hZ Z
    refine Ops.call ((spec_jText I s)) rfl dc Proofs.Tryd.call16 rfl ?_
    rintro y J1 l1 rfl
    refine Ops.callP (N := []) (object_put d J1 b name _ (txJ s) kids vk M (hG.mono l1) (txJ_rel d J1 s) hkl) (.refl _) rfl dc Proofs.Tryd.call15 rfl ?_
    rintro y J2 N2 l2 ⟨vk2, M2, rfl, hG2⟩
    refine Ops.nil ?_
    skip
    refine Run.end0 (by rw [hCf]; exact Proofs.Tryd.func17) Proofs.Tryd.results17 (hR _ _ _ ?_)
    exact ⟨vk2, M2, rfl, by rw [opJ, if_neg h0]; exact hG2⟩
theorem spec_AuthJoined (I : Imm) (u p : Bs) (hl : (jn u p).length ≤ 1099511627776) : Pure Proofs.Tryd.prog 10 [str u, str p] I fun w J => w = str (b64 (jn u p)) := by
  have hlen := jn_len u p
  refine Spec.enter 10 [(0, _), (1, _)] Proofs.Tryd.func10 rfl Proofs.Tryd.ntmps10 (by simp) rfl ?_
  intro C hCf hR hCI
  refine Run.seq ?_
  refine Run.regionO (D := [some 4]) [true] rfl rfl rfl (fun Z hZ => ?_)
  refine q1 dc rfl rfl ?_
  refine QD.nil (hZ _ ?_)
  clear hZ Z
  refine Run.seq ?_
  refine Run.regionP (D := [some 5, some 6, some 7, some 8, some 9, some 4]) [true, true, true, true] 4 rfl rfl rfl (by simp only [List.drop_succ_cons, List.drop_zero]; rfl) (fun Z hZ => ?_)
  refine q1 dc rfl rfl ?_
  refine QD.e (Ev.catS rfl rfl (by simp; omega)) dc rfl ?_
  refine q1 dc rfl rfl ?_
  refine QD.e ((Ev.catS rfl rfl (by simp; omega)).as (show _ = str (jn u p) from congrArg str (by unfold jn; simp))) dc rfl ?_
  refine QD.nil (hZ _ ?_)
  clear hZ Z
  refine Ops.call ((spec_base64 I (jn u p) hl)) rfl dc Proofs.Tryd.call20 rfl ?_
  rintro w J l rfl
  refine Ops.pure T rfl dc rfl ?_
  refine Ops.nil ?_
  skip
  refine Run.fin (Run.ret1 (by rw [hCf]; exact Proofs.Tryd.func10) Proofs.Tryd.results10 rfl (hR _ _ _ ?_))
  exact ⟨rfl, rfl⟩
end Go.V
/-
  Objects written as JSON by the package.
-/
namespace Go.V
open Go.RowKit
set_option linter.unusedVariables false
set_option linter.unusedSimpArgs false
set_option maxRecDepth 10000
attribute [local irreducible] Run Ops QD
def comma (b : Bool) : Bs := if b then [44] else []
/-- a member, if it says anything -/
def omem (k v : List Nat) : List Bs := if v = [] then [] else [quo k ++ 58 :: quo v]
end Go.V
/-
  What one says to a registry, written as JSON: ZzPut, Marshal, MarshalJSON, impl.AuthText.
-/
namespace Go.V
open Go.RowKit
set_option linter.unusedVariables false
set_option linter.unusedSimpArgs false
set_option maxRecDepth 10000
attribute [local irreducible] Run Ops QD
def ascR (s : Bs) : List Nat := s.map UInt8.toNat
theorem encs_asc : ∀ {s : Bs}, (∀ c ∈ s, c.toNat < 128) → encs (ascR s) = s
  | [], _ => rfl
  | c :: s, h => by
    have hc := h c (by simp)
    have ih := encs_asc (s := s) fun x hx => h x (by simp [hx])
    unfold ascR at *
    rw [List.map_cons, encs_cons, encR_ascii _ (by omega) (by omega), ih]
    simp
theorem good_asc {s : Bs} (h : ∀ c ∈ s, c.toNat < 128) : ∀ r ∈ ascR s, goodR r := by
  intro r hr
  obtain ⟨c, hc, rfl⟩ := List.mem_map.1 hr
  have := h c hc
  exact .inl (by omega)
/-- what one says, by runes -/
structure Ru where
  u : List Nat
  p : List Nat
  a : List Nat
  i : List Nat
  r : List Nat
def Ru.au (x : Ru) : Au := ⟨encs x.u, encs x.p, encs x.a, encs x.i, encs x.r⟩
structure Ru.Good (x : Ru) : Prop where
  u : ∀ r ∈ x.u, goodR r
  p : ∀ r ∈ x.p, goodR r
  a : ∀ r ∈ x.a, goodR r
  i : ∀ r ∈ x.i, goodR r
  r : ∀ r ∈ x.r, goodR r
def Ru.len (x : Ru) : Nat := x.u.length + x.p.length + x.a.length + x.i.length + x.r.length
def uK : Bs := [117, 115, 101, 114, 110, 97, 109, 101]
def pK : Bs := [112, 97, 115, 115, 119, 111, 114, 100]
def aK : Bs := [97, 117, 116, 104]
def iK : Bs := [105, 100, 101, 110, 116, 105, 116, 121, 116, 111, 107, 101, 110]
def rK : Bs := [114, 101, 103, 105, 115, 116, 114, 121, 116, 111, 107, 101, 110]
def Ru.mems (x : Ru) : List Bs := omem (ascR uK) x.u ++ omem (ascR pK) x.p ++ omem (ascR aK) x.a ++ omem (ascR iK) x.i ++ omem (ascR rK) x.r
def Ru.text (x : Ru) : Bs := 123 :: joinC x.mems ++ [125]
/-- what is written: name and password joined, too -/
def Ru.fin (x : Ru) : Ru := if x.u = [] ∧ x.p = [] then x else { x with a := ascR (b64 (jn (encs x.u) (encs x.p))) }
theorem encs_len_ge : ∀ rs : List Nat, rs.length ≤ (encs rs).length
  | [] => by simp [encs]
  | r :: rs => by
    have := encs_len_ge rs
    have := encR_pos r
    rw [encs_cons, List.length_append, List.length_cons]; omega
end Go.V
/-
  The document's text of a name and a password: spec.AuthText.
-/
namespace Go.V
open Go.RowKit
set_option linter.unusedVariables false
set_option linter.unusedSimpArgs false
set_option maxRecDepth 10000
attribute [local irreducible] Run Ops QD
def auK (u p : Bs) (joined : Bool) : List Js := if joined then [txJ aK, txJ (b64 (jn u p))] else [txJ uK, txJ u, txJ pK, txJ p]
def auJ (u p i r : Bs) (joined : Bool) : Js := .mk 111 [] (auK u p joined ++ opJ iK i ++ opJ rK r)
theorem opJ_len (k s : Bs) : (opJ k s).length ≤ 2 := by unfold opJ; split <;> simp
set_option maxHeartbeats 1000000 in
theorem spec_AuthText (I : Imm) (u p i r : Bs) (joined : Bool) (v : Value) (ws : Bs) (hS : Sl tU8 I v ws) (hw : ws.length ≤ 2147483647) (hup : (jn u p).length ≤ 1099511627776) (hF : Fine 2 (auJ u p i r joined)) (hl : (wval 2 (auJ u p i r joined) true ws).1.length ≤ 34359738368) :
    Pure Proofs.Tryd.prog 8 [str u, str p, str i, str r, .bool joined, v] I fun w J => w = str (wval 2 (auJ u p i r joined) true ws).1 := by
  refine Spec.enter 44 [(0, _), (1, _), (2, _), (3, _), (4, _), (5, _)] Proofs.Tryd.func8 rfl Proofs.Tryd.ntmps8 (by simp) rfl ?_
  intro C hCf hR hCI
  refine Run.seq ?_
  refine Run.regionO (D := [some 12]) [true] rfl rfl rfl (fun Z hZ => ?_)
  refine q1 dc rfl rfl ?_
  refine QD.nil (hZ _ ?_)
  clear hZ Z
  refine Run.seq ?_
  refine Run.region ?_
  refine Ops.buildL bd42 rfl dc rfl rfl ?_
  refine Ops.buildL bd44 rfl dc rfl rfl ?_
  refine Ops.box rfl dc rfl rfl (fun b => ?_)
  refine Ops.pure T rfl dc rfl ?_
  refine Ops.nil ?_
  repeat refine Run.seq ?_
  refine Run.regionO (D := [some 17]) [true] rfl rfl rfl (fun Z hZ => ?_)
  refine q1 dc rfl rfl ?_
  refine QD.nil (hZ _ ?_)
  clear hZ Z
  have hG := Gr.nil (tJs 1) I 42
  cases joined with
  | true =>
    refine Run.cond_t rfl ?_
    refine Run.regionP (D := [some 18, some 19, some 20, some 21, some 22, some 23]) [true, true, true] 3 rfl rfl rfl (by simp only [List.drop_succ_cons, List.drop_zero]; rfl) (fun Z hZ => ?_)
    iterate 3 refine q1 dc rfl rfl ?_
    refine QD.nil (hZ _ ?_)
    clear hZ Z
    refine Ops.call ((spec_AuthJoined I u p hup)) rfl dc Proofs.Tryd.call10 rfl ?_
    rintro y J1 l1 rfl
    refine Ops.call ((spec_jText J1 _)) rfl dc Proofs.Tryd.call16 rfl ?_
    rintro y J2 l2 rfl
    refine Ops.callP (N := []) (object_put 0 J2 b aK _ (txJ (b64 (jn u p))) [] (.slice none 0 0) [] (hG.mono (l1.trans l2)) (txJ_rel 0 J2 _) dc) (.refl _) rfl dc Proofs.Tryd.call15 rfl ?_
    rintro y J0 N0 l3 ⟨vk0, M0, rfl, hG0⟩
    have hle0 := (l1.trans l2).trans l3
    refine Ops.nil ?_
    refine Run.seq ?_
    refine Run.regionP (D := [some 32, some 33, some 34]) [true, true] 2 rfl rfl rfl (by simp only [List.drop_succ_cons, List.drop_zero]; rfl) (fun Z hZ => ?_)
    iterate 2 refine q1 dc rfl rfl ?_
    refine QD.nil (hZ _ ?_)
    clear hZ Z
    refine Ops.callP (N := []) (object_text 0 J0 b iK i ([] ++ [Js.mk 115 aK [], txJ (b64 (jn u p))]) vk0 M0 hG0 (by simp)) (.refl _) rfl dc Proofs.Tryd.call17 rfl ?_
    rintro y J5 N5 l5 ⟨vk5, M5, rfl, hG5⟩
    refine Ops.nil ?_
    refine Run.seq ?_
    have h5 := opJ_len iK i
    refine Run.regionP (D := [some 35, some 36, some 37]) [true, true] 2 rfl rfl rfl (by simp only [List.drop_succ_cons, List.drop_zero]; rfl) (fun Z hZ => ?_)
    iterate 2 refine q1 dc rfl rfl ?_
    refine QD.nil (hZ _ ?_)
    clear hZ Z
    refine Ops.callP (N := []) (object_text 0 J5 b rK r _ vk5 M5 hG5 (by simp only [List.length_append, List.length_cons, List.length_nil]; omega)) (.refl _) rfl dc Proofs.Tryd.call17 rfl ?_
    rintro y J6 N6 l6 ⟨vk6, M6, rfl, hG6⟩
    refine Ops.nil ?_
    refine Run.seq ?_
    refine Run.keepGr (N := [(b, obj vk6)]) hG6 (List.perm_append_comm (l₁ := [_]) (l₂ := M6)) fun J7 l7 hSl => ?_
    obtain ⟨A7, c7, rfl⟩ := hSl.isSl
    refine Run.regionP (D := [some 38, some 39, some 40, some 41, some 42, some 43, some 12]) [true, true, true, true, true] 5 rfl rfl rfl (by simp only [List.drop_succ_cons, List.drop_zero]; rfl) (fun Z hZ => ?_)
    iterate 3 refine q1 dc rfl rfl ?_
    refine QD.yv dc rfl (Yv.loadN 0 T rfl rfl rfl rfl rfl rfl) ?_
    refine q1 dc rfl rfl ?_
    refine QD.nil (hZ _ ?_)
    clear hZ Z
    refine Ops.call ((spec_Wayward 2 J7 _ (auJ u p i r _) v ws ⟨_, rfl, hSl⟩ hF (hS.mono ((hle0.trans l5).trans (l6.trans l7))) hw hl)) rfl dc Proofs.Tryd.call18 rfl ?_
    rintro y J8 l8 rfl
    refine Ops.pure T rfl dc rfl ?_
    refine Ops.nil ?_
    skip
    refine Run.fin (Run.ret1 (by rw [hCf]; exact Proofs.Tryd.func8) Proofs.Tryd.results8 rfl (hR _ _ _ ?_))
    exact ⟨rfl, rfl⟩
  | false =>
    repeat (first | refine Run.seq ?_ | refine Run.cond_f rfl ?_)
    refine Run.regionP (D := [some 24, some 25, some 26, some 27]) [true, true] 2 rfl rfl rfl (by simp only [List.drop_succ_cons, List.drop_zero]; rfl) (fun Z hZ => ?_)
    iterate 2 refine q1 dc rfl rfl ?_
    refine QD.nil (hZ _ ?_)
    clear hZ Z
    refine Ops.call ((spec_jText I u)) rfl dc Proofs.Tryd.call16 rfl ?_
    rintro y J1 l1 rfl
    refine Ops.callP (N := []) (object_put 0 J1 b uK _ (txJ u) [] (.slice none 0 0) [] (hG.mono l1) (txJ_rel 0 J1 _) dc) (.refl _) rfl dc Proofs.Tryd.call15 rfl ?_
    rintro y J2 N2 l2 ⟨vk2, M2, rfl, hG2⟩
    refine Ops.nil ?_
    skip
    refine Run.regionP (D := [some 28, some 29, some 30, some 31]) [true, true] 2 rfl rfl rfl (by simp only [List.drop_succ_cons, List.drop_zero]; rfl) (fun Z hZ => ?_)
    iterate 2 refine q1 dc rfl rfl ?_
    refine QD.nil (hZ _ ?_)
    clear hZ Z
    refine Ops.call ((spec_jText J2 p)) rfl dc Proofs.Tryd.call16 rfl ?_
    rintro y J3 l3 rfl
    refine Ops.callP (N := []) (object_put 0 J3 b pK _ (txJ p) ([] ++ [Js.mk 115 uK [], txJ u]) vk2 M2 (hG2.mono l3) (txJ_rel 0 J3 _) (by simp)) (.refl _) rfl dc Proofs.Tryd.call15 rfl ?_
    rintro y J0 N0 l4 ⟨vk0, M0, rfl, hG0⟩
    have hle0 := (l1.trans l2).trans (l3.trans l4)
    refine Ops.nil ?_
    refine Run.seq ?_
    refine Run.regionP (D := [some 32, some 33, some 34]) [true, true] 2 rfl rfl rfl (by simp only [List.drop_succ_cons, List.drop_zero]; rfl) (fun Z hZ => ?_)
    iterate 2 refine q1 dc rfl rfl ?_
    refine QD.nil (hZ _ ?_)
    clear hZ Z
    refine Ops.callP (N := []) (object_text 0 J0 b iK i ([] ++ [Js.mk 115 uK [], txJ u] ++ [Js.mk 115 pK [], txJ p]) vk0 M0 hG0 (by simp)) (.refl _) rfl dc Proofs.Tryd.call17 rfl ?_
    rintro y J5 N5 l5 ⟨vk5, M5, rfl, hG5⟩
    refine Ops.nil ?_
    refine Run.seq ?_
    have h5 := opJ_len iK i
    refine Run.regionP (D := [some 35, some 36, some 37]) [true, true] 2 rfl rfl rfl (by simp only [List.drop_succ_cons, List.drop_zero]; rfl) (fun Z hZ => ?_)
    iterate 2 refine q1 dc rfl rfl ?_
    refine QD.nil (hZ _ ?_)
    clear hZ Z
    refine Ops.callP (N := []) (object_text 0 J5 b rK r _ vk5 M5 hG5 (by simp only [List.length_append, List.length_cons, List.length_nil]; omega)) (.refl _) rfl dc Proofs.Tryd.call17 rfl ?_
    rintro y J6 N6 l6 ⟨vk6, M6, rfl, hG6⟩
    refine Ops.nil ?_
    refine Run.seq ?_
    refine Run.keepGr (N := [(b, obj vk6)]) hG6 (List.perm_append_comm (l₁ := [_]) (l₂ := M6)) fun J7 l7 hSl => ?_
    obtain ⟨A7, c7, rfl⟩ := hSl.isSl
    refine Run.regionP (D := [some 38, some 39, some 40, some 41, some 42, some 43, some 12]) [true, true, true, true, true] 5 rfl rfl rfl (by simp only [List.drop_succ_cons, List.drop_zero]; rfl) (fun Z hZ => ?_)
    iterate 3 refine q1 dc rfl rfl ?_
    refine QD.yv dc rfl (Yv.loadN 0 T rfl rfl rfl rfl rfl rfl) ?_
    refine q1 dc rfl rfl ?_
    refine QD.nil (hZ _ ?_)
    clear hZ Z
    refine Ops.call ((spec_Wayward 2 J7 _ (auJ u p i r _) v ws ⟨_, rfl, hSl⟩ hF (hS.mono ((hle0.trans l5).trans (l6.trans l7))) hw hl)) rfl dc Proofs.Tryd.call18 rfl ?_
    rintro y J8 l8 rfl
    refine Ops.pure T rfl dc rfl ?_
    refine Ops.nil ?_
    skip
    refine Run.fin (Run.ret1 (by rw [hCf]; exact Proofs.Tryd.func8) Proofs.Tryd.results8 rfl (hR _ _ _ ?_))
    exact ⟨rfl, rfl⟩
end Go.V
/-
  What the laws of authn ask: plain names, good texts, a small name told.
-/
namespace Go.V
open Go.RowKit
set_option linter.unusedVariables false
set_option linter.unusedSimpArgs false
set_option maxRecDepth 10000
attribute [local irreducible] Run Ops QD
theorem meth_Basic : ∀ u w, (method (Proofs.Tryd.prog.types.size + Made.depth) 64 u "Authorization").run Proofs.Tryd.prog w = .ok (72, u) w := by intro u w; kernel_rfl
/-- an authenticator that says a -/
def Says (I : Imm) (x : Value) (a : Au) : Prop := ∃ t p f, x = .iface t p ∧ (∀ w, (method (Proofs.Tryd.prog.types.size + Made.depth) t p "Authorization").run Proofs.Tryd.prog w = .ok (f, p) w) ∧
  (∀ args w, (callFunc f args).run Proofs.Tryd.prog w = .ok (.enter f args) w) ∧
  Pure Proofs.Tryd.prog f [p] I fun v J => ∃ b off, v = .tuple #[.pointer (some ⟨b, off, none⟩), .nilIface] ∧ At J b off a.cs
theorem Basic_says {I : Imm} {b : Nat} {u p : List UInt8} (hb : At I b 0 [str u, str p]) : Pure Proofs.Tryd.prog 72 [.pointer (some ⟨b, 0, none⟩)] I fun v J => ∃ b off, v = .tuple #[.pointer (some ⟨b, off, none⟩), .nilIface] ∧ At J b off (Au.mk u p [] [] []).cs := by
  refine Spec.enter 14 [(0, _)] Proofs.Tryd.func72 rfl Proofs.Tryd.ntmps72 (by simp) rfl ?_
  intro C hCf hR hCI
  repeat (first | refine Run.seq ?_ | refine Run.region ?_ | refine Ops.nil ?_ | refine Ops.pure T rfl (by decide) rfl ?_)
  refine Run.regionAny (Holds I []) [false, false, false, false, false, false, false, false, false, false, false, false] (by kernel_rfl) rfl ?_
  refine RAny.takeD 0 [true, false, false, false, false, false, false, false, false, false, false, false] rfl (by kernel_rfl) (by kernel_rfl) (by kernel_rfl) rfl dc (fun W h => h.holds (Le.refl _) (fun _ h => by first | exact h | (cases h; done) | (simp at h; subst h; simp))) (Yld.eval T rfl rfl) ?_
  refine RAny.takeD 1 [true, true, false, false, false, false, false, false, false, false, false, false] rfl (by kernel_rfl) (by kernel_rfl) (by kernel_rfl) rfl dc (fun W h => h.holds (Le.refl _) (fun _ h => by first | exact h | (cases h; done) | (simp at h; subst h; simp))) (Yld.eval T rfl rfl) ?_
  refine RAny.takeD 2 [true, true, true, false, false, false, false, false, false, false, false, false] rfl (by kernel_rfl) (by kernel_rfl) (by kernel_rfl) rfl dc (fun W h => h.holds (Le.refl _) (fun _ h => by first | exact h | (cases h; done) | (simp at h; subst h; simp))) (Yld.eval T rfl rfl) ?_
  refine RAny.takeD 3 [true, true, true, true, false, false, false, false, false, false, false, false] rfl (by kernel_rfl) (by kernel_rfl) (by kernel_rfl) rfl dc (fun W h => h.holds (Le.refl _) (fun _ h => by first | exact h | (cases h; done) | (simp at h; subst h; simp))) (Yld.loadI T (hb.cellAt 0 rfl) rfl rfl rfl) ?_
  refine RAny.takeD 4 [true, true, true, true, true, false, false, false, false, false, false, false] rfl (by kernel_rfl) (by kernel_rfl) (by kernel_rfl) rfl dc (fun W h => h.holds (Le.refl _) (fun _ h => by first | exact h | (cases h; done) | (simp at h; subst h; simp))) (Yld.eval T rfl rfl) ?_
  refine RAny.takeD 5 [true, true, true, true, true, true, false, false, false, false, false, false] rfl (by kernel_rfl) (by kernel_rfl) (by kernel_rfl) rfl dc (fun W h => h.holds (Le.refl _) (fun _ h => by first | exact h | (cases h; done) | (simp at h; subst h; simp))) (Yld.eval T rfl rfl) ?_
  refine RAny.takeD 6 [true, true, true, true, true, true, true, false, false, false, false, false] rfl (by kernel_rfl) (by kernel_rfl) (by kernel_rfl) rfl dc (fun W h => h.holds (Le.refl _) (fun _ h => by first | exact h | (cases h; done) | (simp at h; subst h; simp))) (Yld.eval T rfl rfl) ?_
  refine RAny.takeD 7 [true, true, true, true, true, true, true, true, false, false, false, false] rfl (by kernel_rfl) (by kernel_rfl) (by kernel_rfl) rfl dc (fun W h => h.holds (Le.refl _) (fun _ h => by first | exact h | (cases h; done) | (simp at h; subst h; simp))) (Yld.loadI T (hb.cellAt 1 rfl) rfl rfl rfl) ?_
  refine RAny.takeD 8 [true, true, true, true, true, true, true, true, true, false, false, false] rfl (by kernel_rfl) (by kernel_rfl) (by kernel_rfl) rfl dc (fun W h => h.holds (Le.refl _) (fun _ h => by first | exact h | (cases h; done) | (simp at h; subst h; simp))) (Yld.buildL bd50 rfl rfl rfl) ?_
  refine RAny.oneD 9 [true, true, true, true, true, true, true, true, true, true, false, false] rfl (by kernel_rfl) rfl rfl dc (Eff.box rfl rfl fun b2 => ⟨fun W h => h.holds (Le.refl _) (fun _ h => by cases h), ?_⟩)
  refine RAny.takeD 10 [true, true, true, true, true, true, true, true, true, true, true, false] rfl (by kernel_rfl) (by kernel_rfl) (by kernel_rfl) rfl dc (fun W h => h.holds (Le.refl _) (fun _ h => by cases h)) (Yld.eval T rfl rfl) ?_
  refine RAny.takeD 11 [true, true, true, true, true, true, true, true, true, true, true, true] rfl (by kernel_rfl) (by kernel_rfl) (by kernel_rfl) rfl dc (fun W h => h.holds (Le.refl _) (fun _ h => by cases h)) (Yld.eval T rfl rfl) ?_
  refine RAny.done _ (by kernel_rfl) ?_
  refine Run.freeze fun J hle hJ => ?_
  skip
  refine Run.fin (Run.ret2 (by rw [hCf]; exact Proofs.Tryd.func72) Proofs.Tryd.results72 rfl rfl (hR _ _ _ ?_))
  exact ⟨rfl, b2, 0, rfl, At.block hJ⟩
theorem impl_authOf {I : Imm} {x : Value} {a : Au} (h : Says I x a) : Pure Proofs.Tryd.prog 23 [x] I fun v _ => v = .tuple #[.agg a.cs.toArray, .bool true] := by
  obtain ⟨t, p, f, rfl, hm, hc, hp⟩ := h
  refine Spec.enter 21 [(0, _)] Proofs.Tryd.func23 rfl Proofs.Tryd.ntmps23 (by simp) rfl ?_
  intro C hCf hR hCI
  refine Run.seq ?_; refine Run.region ?_
  refine Ops.alloc rfl dc (T.zeroOk rfl) rfl (fun b0 => ?_)
  repeat (first | refine Run.seq ?_ | refine Run.region ?_ | refine Ops.nil ?_ | refine Ops.pure T rfl (by decide) rfl ?_)
  refine Ops.invoke hp rfl dc hc rfl hm rfl ?_
  rintro _ J hle ⟨b, off, rfl, hA⟩
  repeat (first | refine Run.seq ?_ | refine Run.region ?_ | refine Ops.nil ?_ | refine Run.skip ?_ | refine Run.cond_f rfl ?_ | refine Ops.eqlNil T rfl (by decide) rfl rfl rfl rfl rfl ?_ | refine Ops.neqNil T rfl (by decide) rfl rfl rfl rfl rfl ?_ | refine Ops.pure T rfl (by decide) rfl ?_)
  refine Ops.loadIN rfl dc rfl (hA) (T.aggOk rfl) (T.sizeOk rfl) rfl ?_
  repeat (first | refine Ops.nil ?_ | refine Ops.pure T rfl (by decide) rfl ?_ | refine Ops.store 0 rfl rfl rfl rfl rfl (T.sizeOk rfl) rfl (Nat.le_of_ble_eq_true rfl) rfl rfl ?_)
  refine Run.retCT T 0 (by rw [hCf]; exact Proofs.Tryd.func23) Proofs.Tryd.results23 rfl rfl rfl rfl rfl rfl rfl (hR _ _ _ ?_)
  exact ⟨rfl, rfl⟩
theorem impl_AuthBasic (I : Imm) (u p : List UInt8) : Pure Proofs.Tryd.prog 14 [str u, str p] I fun v _ => v = .tuple #[.agg (Au.mk u p [] [] []).cs.toArray, .bool true] := by
  refine Spec.enter 14 [(0, _), (1, _)] Proofs.Tryd.func14 rfl Proofs.Tryd.ntmps14 (by simp) rfl ?_
  intro C hCf hR hCI
  refine Run.seq ?_; refine Run.region ?_
  refine Ops.alloc rfl dc (T.zeroOk rfl) rfl (fun b0 => ?_)
  repeat (first | refine Run.seq ?_ | refine Run.region ?_ | refine Ops.nil ?_ | refine Ops.pure T rfl (by decide) rfl ?_)
  refine Ops.buildL bd66 rfl dc rfl rfl ?_
  refine Ops.box rfl dc rfl rfl (fun b1 => ?_)
  refine Ops.pure T rfl dc rfl ?_
  refine Ops.freezeAt 0 rfl rfl fun J hle hJ => ?_
  refine Ops.call ((impl_authOf ⟨_, _, _, rfl, meth_Basic _, Proofs.Tryd.call72, Basic_says (At.block hJ)⟩)) rfl dc Proofs.Tryd.call23 rfl ?_
  rintro _ J2 hle2 rfl
  repeat (first | refine Ops.nil ?_ | refine Ops.pure T rfl (by decide) rfl ?_ | refine Ops.store 0 rfl rfl rfl rfl rfl (T.sizeOk rfl) rfl (Nat.le_of_ble_eq_true rfl) rfl rfl ?_)
  refine Run.retCT T 0 (by rw [hCf]; exact Proofs.Tryd.func14) Proofs.Tryd.results14 rfl rfl rfl rfl rfl rfl rfl (hR _ _ _ ?_)
  exact ⟨rfl, rfl⟩
theorem laws_authAwake (I : Imm) : Pure Proofs.Tryd.prog 7 [] I fun v _ => v = .bool true := by
  refine Spec.enter 18 [] Proofs.Tryd.func7 rfl Proofs.Tryd.ntmps7 (by simp) rfl ?_
  intro C hCf hR hCI
  repeat (first | refine Run.seq ?_ | refine Run.region ?_ | refine Ops.nil ?_ | refine Ops.pure T rfl (by decide) rfl ?_)
  refine Ops.call ((impl_AuthBasic I _ _)) rfl dc Proofs.Tryd.call14 rfl ?_
  rintro _ J hle rfl
  repeat refine Ops.pure T rfl (by decide) rfl ?_
  refine Ops.alloc rfl dc (T.zeroOk rfl) rfl (fun b0 => ?_)
  repeat (first | refine Run.seq ?_ | refine Run.region ?_ | refine Ops.nil ?_ | refine Ops.eqlStr rfl (by decide) rfl rfl ?_ | refine Ops.pure T rfl (by decide) rfl ?_ | refine Ops.load 0 rfl (by decide) rfl rfl (T.aggOk rfl) rfl ?_ | refine Ops.store 0 rfl rfl rfl rfl rfl (T.sizeOk rfl) rfl (Nat.le_of_ble_eq_true rfl) rfl rfl ?_)
  refine Run.fin (Run.ret1 (by rw [hCf]; exact Proofs.Tryd.func7) Proofs.Tryd.results7 rfl (hR _ _ _ ?_))
  exact ⟨rfl, rfl⟩
def plainA (s : Bs) : Prop := s.length ≤ 60 ∧ ∀ c ∈ s, 32 ≤ c.toNat ∧ c.toNat < 127
set_option maxHeartbeats 1000000 in
theorem laws_authPlain (I : Imm) (u p : Bs) (hu : u.length ≤ 2147483647) (hp : p.length ≤ 2147483647) : Pure Proofs.Tryd.prog 5 [str u, str p] I fun v _ => ∃ r, v = .bool r ∧ (r = true → plainA u ∧ plainA p ∧ (58 : UInt8) ∉ u) := by
  refine Spec.enter 47 [(0, _), (1, _)] Proofs.Tryd.func5 rfl Proofs.Tryd.ntmps5 (by simp) rfl ?_
  intro C hCf hR hCI
  refine Run.seq ?_
  refine Run.regionO (D := [some 4]) [true] rfl rfl rfl (fun Z hZ => ?_)
  refine q1 dc rfl rfl ?_
  refine QD.nil (hZ _ ?_)
  clear hZ Z
  repeat refine Run.seq ?_
  refine Run.regionP (D := [some 9, some 10, some 11, some 12, some 13]) [true, true] 2 rfl rfl rfl (by simp only [List.drop_succ_cons, List.drop_zero]; rfl) (fun Z hZ => ?_)
  iterate 2 refine q1 dc rfl rfl ?_
  refine QD.nil (hZ _ ?_)
  clear hZ Z
  refine Ops.lit T rfl rfl rfl dc rfl dc dc rfl rfl rfl rfl rfl (fun bq => ?_)
  refine Ops.freezeAt 0 rfl rfl fun J1 l1 hJ1 => ?_
  have hS : Sl tStr J1 (.slice (some ⟨bq, 0, none⟩) 2 2) [u, p] := Sl.ofBlock hJ1 (Cells.strs [u, p]) rfl (Nat.le_refl _)
  iterate 2 refine Ops.pure T rfl dc rfl ?_
  refine Ops.nil ?_
  refine Run.block ?_
  refine Run.keep [0, 11, 12, 13] [_, _, _, _] rfl ?_
  have hget : ∀ s ∈ [u, p], s.length ≤ 2147483647 := by
    intro s hs
    simp only [List.mem_cons, List.not_mem_nil, or_false] at hs
    rcases hs with rfl | rfl <;> assumption
  refine Run.rounds (fun m env L J => ∃ i : Nat, m = 2 - i ∧ i ≤ 2 ∧ (∀ s ∈ [u, p].take i, plainA s) ∧ env = [(0, str u), (11, .slice (some ⟨bq, 0, none⟩) 2 2), (12, .int .i64 2), (13, .int .i64 i)] ∧ L = [] ∧ J1 = J) 2 ⟨0, rfl, by omega, by simp, rfl, rfl, rfl⟩ ?_
  rintro m env L J ⟨i, rfl, hi, hdone, rfl, rfl, rfl⟩ ih
  refine Run.seq ?_
  by_cases hlt : i < 2
  · skip
    refine Run.regionO (D := [some 14]) [true] rfl rfl rfl (fun Z hZ => ?_)
    refine qt (Ev.lss rfl rfl) (by omega) dc rfl ?_
    refine QD.nil (hZ _ ?_)
    clear hZ Z
    repeat (first | refine Run.seq ?_ | refine Run.skip ?_ | refine Run.block ?_ | refine Run.cond_t rfl ?_)
    refine Run.region ?_
    refine Ops.indexSl (j := (i : Int)) hS rfl dc rfl rfl (T.undOk rfl) (T.sizeOk rfl) (by omega) (by simp; omega) fun bb off q cs hq hr hA => ?_
    obtain rfl : cs = [str q] := hr
    rw [Int.toNat_natCast] at hq
    have hql := hget q (List.mem_of_getElem? hq)
    refine Ops.loadI rfl dc rfl hA (T.aggOk rfl) ?_
    refine Ops.pure T rfl dc rfl ?_
    refine Ops.nil ?_
    repeat refine Run.seq ?_
    by_cases h60 : q.length ≤ 60
    · skip
      refine Run.regionO (D := [some 17, some 18, some 19]) [true, true, true] rfl rfl rfl (fun Z hZ => ?_)
      refine q1 dc rfl rfl ?_
      refine QD.e (Ev.lenS T rfl rfl) dc rfl ?_
      refine qf (Ev.gtr rfl rfl) (by omega) dc rfl ?_
      refine QD.nil (hZ _ ?_)
      clear hZ Z
      repeat (first | refine Run.seq ?_ | refine Run.skip ?_ | refine Run.cond_f rfl ?_)
      refine Run.regionO (D := [some 20, some 21, some 22]) [true, true, true] rfl rfl rfl (fun Z hZ => ?_)
      refine q1 dc rfl rfl ?_
      refine QD.e (Ev.lenS T rfl rfl) dc rfl ?_
      refine q1 dc rfl rfl ?_
      refine QD.nil (hZ _ ?_)
      clear hZ Z
      refine Run.block ?_
      refine Run.keep [0, 6, 11, 12, 13, 21, 22] [_, _, _, _, _, _, _] rfl ?_
      refine Run.rounds (fun m env L J => ∃ k : Nat, m = q.length - k ∧ k ≤ q.length ∧ (∀ c ∈ q.take k, 32 ≤ c.toNat ∧ c.toNat < 127) ∧ env = [(0, str u), (6, str q), (11, .slice (some ⟨bq, 0, none⟩) 2 2), (12, .int .i64 2), (13, .int .i64 i), (21, .int .i64 q.length), (22, .int .i64 k)] ∧ L = [] ∧ J1 = J) q.length ⟨0, by omega, by omega, by simp, rfl, rfl, rfl⟩ ?_
      rintro m env L J ⟨k, rfl, hk, hkd, rfl, rfl, rfl⟩ ih2
      refine Run.seq ?_
      by_cases hkl : k < q.length
      · obtain ⟨ch, hch⟩ : ∃ ch : Nat, ch = (q.getD k 0).toNat := ⟨_, rfl⟩
        have hg : q.getD k 0 = q[k] := getD_u8 hkl
        refine Run.regionO (D := [some 23]) [true] rfl rfl rfl (fun Z hZ => ?_)
        refine qt (Ev.lss rfl rfl) (by omega) dc rfl ?_
        refine QD.nil (hZ _ ?_)
        clear hZ Z
        repeat (first | refine Run.seq ?_ | refine Run.skip ?_ | refine Run.block ?_ | refine Run.cond_t rfl ?_)
        refine Run.regionO (D := [some 24, some 7]) [true, true] rfl rfl rfl (fun Z hZ => ?_)
        iterate 2 refine q1 dc rfl rfl ?_
        refine QD.nil (hZ _ ?_)
        clear hZ Z
        refine Run.seq ?_
        by_cases h32 : ch < 32
        · skip
          refine Run.regionO (D := [some 25, some 26, some 27, some 28, some 29, some 30, some 31, some 32, some 33, some 34]) [true, true, true, true, true, true, true, true, true, true] rfl rfl rfl (fun Z hZ => ?_)
          iterate 2 refine q1 dc rfl rfl ?_
          refine QD.e ((Ev.indexT (s := q) T rfl rfl rfl (by omega) (by omega)).as (show _ = Value.int .u8 ((ch : Nat) : Int) from by show Value.int .u8 (((q.getD _ 0).toNat : Nat) : Int) = _; rw [Int.toNat_natCast, ← hch])) dc rfl ?_
          refine qt (Ev.lss rfl rfl) (by omega) dc rfl ?_
          refine q1 dc rfl rfl ?_
          iterate 4 refine QD.off dc rfl ?_
          refine q1 dc rfl rfl ?_
          refine QD.nil (hZ _ ?_)
          clear hZ Z
          repeat (first | refine Run.seq ?_ | refine Run.cond_t rfl ?_)
          refine Run.regionO (D := [some 4]) [true] rfl rfl rfl (fun Z hZ => ?_)
          refine q1 dc rfl rfl ?_
          refine QD.nil (hZ _ ?_)
          clear hZ Z
          skip
          refine Run.fin (Run.ret1 (by rw [hCf]; exact Proofs.Tryd.func5) Proofs.Tryd.results5 rfl (hR _ _ _ ?_))
          exact ⟨rfl, _, rfl, fun h => by cases h⟩
        by_cases h127 : 127 ≤ ch
        · skip
          refine Run.regionO (D := [some 25, some 26, some 27, some 28, some 29, some 30, some 31, some 32, some 33, some 34]) [true, true, true, true, true, true, true, true, true, true] rfl rfl rfl (fun Z hZ => ?_)
          iterate 2 refine q1 dc rfl rfl ?_
          refine QD.e ((Ev.indexT (s := q) T rfl rfl rfl (by omega) (by omega)).as (show _ = Value.int .u8 ((ch : Nat) : Int) from by show Value.int .u8 (((q.getD _ 0).toNat : Nat) : Int) = _; rw [Int.toNat_natCast, ← hch])) dc rfl ?_
          refine qf (Ev.lss rfl rfl) (by omega) dc rfl ?_
          iterate 3 refine q1 dc rfl rfl ?_
          refine QD.e ((Ev.indexT (s := q) T rfl rfl rfl (by omega) (by omega)).as (show _ = Value.int .u8 ((ch : Nat) : Int) from by show Value.int .u8 (((q.getD _ 0).toNat : Nat) : Int) = _; rw [Int.toNat_natCast, ← hch])) dc rfl ?_
          refine qt (Ev.geq rfl rfl) (by omega) dc rfl ?_
          refine q1 dc rfl rfl ?_
          refine QD.nil (hZ _ ?_)
          clear hZ Z
          repeat (first | refine Run.seq ?_ | refine Run.cond_t rfl ?_)
          refine Run.regionO (D := [some 4]) [true] rfl rfl rfl (fun Z hZ => ?_)
          refine q1 dc rfl rfl ?_
          refine QD.nil (hZ _ ?_)
          clear hZ Z
          skip
          refine Run.fin (Run.ret1 (by rw [hCf]; exact Proofs.Tryd.func5) Proofs.Tryd.results5 rfl (hR _ _ _ ?_))
          exact ⟨rfl, _, rfl, fun h => by cases h⟩
        · skip
          refine Run.regionO (D := [some 25, some 26, some 27, some 28, some 29, some 30, some 31, some 32, some 33, some 34]) [true, true, true, true, true, true, true, true, true, true] rfl rfl rfl (fun Z hZ => ?_)
          iterate 2 refine q1 dc rfl rfl ?_
          refine QD.e ((Ev.indexT (s := q) T rfl rfl rfl (by omega) (by omega)).as (show _ = Value.int .u8 ((ch : Nat) : Int) from by show Value.int .u8 (((q.getD _ 0).toNat : Nat) : Int) = _; rw [Int.toNat_natCast, ← hch])) dc rfl ?_
          refine qf (Ev.lss rfl rfl) (by omega) dc rfl ?_
          iterate 3 refine q1 dc rfl rfl ?_
          refine QD.e ((Ev.indexT (s := q) T rfl rfl rfl (by omega) (by omega)).as (show _ = Value.int .u8 ((ch : Nat) : Int) from by show Value.int .u8 (((q.getD _ 0).toNat : Nat) : Int) = _; rw [Int.toNat_natCast, ← hch])) dc rfl ?_
          refine qf (Ev.geq rfl rfl) (by omega) dc rfl ?_
          refine q1 dc rfl rfl ?_
          refine QD.nil (hZ _ ?_)
          clear hZ Z
          repeat (first | refine Run.skip ?_ | refine Run.inBlock ?_ | refine Run.cond_f rfl ?_)
          refine Run.regionO (D := [some 35, some 22]) [true, true] rfl rfl rfl (fun Z hZ => ?_)
          refine QD.e (Ev.addK (r := ((k + 1 : Nat) : Int)) rfl rfl (by rw [wI (by omega) (by omega)]; omega)) dc rfl ?_
          refine q1 dc rfl rfl ?_
          refine QD.nil (hZ _ ?_)
          clear hZ Z
          skip
          refine Run.keep [0, 6, 11, 12, 13, 21, 22] [_, _, _, _, _, _, _] rfl ?_
          refine ih2 (q.length - (k + 1)) _ _ _ (by omega) ⟨k + 1, rfl, by omega, ?_, rfl, rfl, rfl⟩
          intro c hc
          rw [List.take_succ_eq_append_getElem hkl] at hc
          rcases List.mem_append.1 hc with hc | hc
          · exact hkd c hc
          · obtain rfl := List.mem_singleton.1 hc
            rw [← hg, ← hch]; omega
      · skip
        refine Run.regionO (D := [some 23]) [true] rfl rfl rfl (fun Z hZ => ?_)
        refine qf (Ev.lss rfl rfl) (by omega) dc rfl ?_
        refine QD.nil (hZ _ ?_)
        clear hZ Z
        repeat (first | refine Run.seq ?_ | refine Run.inBlock ?_ | refine Run.exit rfl ?_ | refine Run.cond_f rfl ?_)
        refine Run.regionO (D := [some 36, some 13]) [true, true] rfl rfl rfl (fun Z hZ => ?_)
        refine QD.e (Ev.addK (r := ((i + 1 : Nat) : Int)) rfl rfl (by rw [wI (by omega) (by omega)]; omega)) dc rfl ?_
        refine q1 dc rfl rfl ?_
        refine QD.nil (hZ _ ?_)
        clear hZ Z
        skip
        refine Run.keep [0, 11, 12, 13] [_, _, _, _] rfl ?_
        refine ih (2 - (i + 1)) _ _ _ (by omega) ⟨i + 1, rfl, by omega, ?_, rfl, rfl, rfl⟩
        intro s hs
        have hil : i < [u, p].length := by simpa using hlt
        rw [List.take_succ_eq_append_getElem hil] at hs
        rcases List.mem_append.1 hs with hs | hs
        · exact hdone s hs
        · obtain rfl := List.mem_singleton.1 hs
          rw [List.getElem?_eq_getElem hil] at hq
          obtain rfl : [u, p][i] = q := Option.some.inj hq
          exact ⟨h60, fun c hc => hkd c (by rw [List.take_of_length_le (by omega)]; exact hc)⟩
    · skip
      refine Run.regionO (D := [some 17, some 18, some 19]) [true, true, true] rfl rfl rfl (fun Z hZ => ?_)
      refine q1 dc rfl rfl ?_
      refine QD.e (Ev.lenS T rfl rfl) dc rfl ?_
      refine qt (Ev.gtr rfl rfl) (by omega) dc rfl ?_
      refine QD.nil (hZ _ ?_)
      clear hZ Z
      repeat (first | refine Run.seq ?_ | refine Run.cond_t rfl ?_)
      refine Run.regionO (D := [some 4]) [true] rfl rfl rfl (fun Z hZ => ?_)
      refine q1 dc rfl rfl ?_
      refine QD.nil (hZ _ ?_)
      clear hZ Z
      skip
      refine Run.fin (Run.ret1 (by rw [hCf]; exact Proofs.Tryd.func5) Proofs.Tryd.results5 rfl (hR _ _ _ ?_))
      exact ⟨rfl, _, rfl, fun h => by cases h⟩
  · obtain rfl : i = 2 := by omega
    have hpl : plainA u ∧ plainA p := ⟨hdone u (by simp), hdone p (by simp)⟩
    refine Run.regionO (D := [some 14]) [true] rfl rfl rfl (fun Z hZ => ?_)
    refine QD.e ((Ev.lss rfl rfl).as (show _ = Value.bool false from rfl)) dc rfl ?_
    refine QD.nil (hZ _ ?_)
    clear hZ Z
    repeat (first | refine Run.seq ?_ | refine Run.exit rfl ?_ | refine Run.cond_f rfl ?_)
    refine Run.regionO (D := [some 37, some 38, some 39]) [true, true, true] rfl rfl rfl (fun Z hZ => ?_)
    refine q1 dc rfl rfl ?_
    refine QD.e (Ev.lenS T rfl rfl) dc rfl ?_
    refine q1 dc rfl rfl ?_
    refine QD.nil (hZ _ ?_)
    clear hZ Z
    refine Run.block ?_
    refine Run.keep [0, 38, 39] [_, _, _] rfl ?_
    refine Run.rounds (fun m env L J => ∃ k : Nat, m = u.length - k ∧ k ≤ u.length ∧ (58 : UInt8) ∉ u.take k ∧ env = [(0, str u), (38, .int .i64 u.length), (39, .int .i64 k)] ∧ L = [] ∧ J1 = J) u.length ⟨0, by omega, by omega, by simp, rfl, rfl, rfl⟩ ?_
    rintro m env L J ⟨k, rfl, hk, hkd, rfl, rfl, rfl⟩ ih2
    refine Run.seq ?_
    by_cases hkl : k < u.length
    · obtain ⟨ch, hch⟩ : ∃ ch : Nat, ch = (u.getD k 0).toNat := ⟨_, rfl⟩
      have hg : u.getD k 0 = u[k] := getD_u8 hkl
      refine Run.regionO (D := [some 40]) [true] rfl rfl rfl (fun Z hZ => ?_)
      refine qt (Ev.lss rfl rfl) (by omega) dc rfl ?_
      refine QD.nil (hZ _ ?_)
      clear hZ Z
      repeat (first | refine Run.seq ?_ | refine Run.skip ?_ | refine Run.block ?_ | refine Run.cond_t rfl ?_)
      refine Run.regionO (D := [some 41, some 8]) [true, true] rfl rfl rfl (fun Z hZ => ?_)
      iterate 2 refine q1 dc rfl rfl ?_
      refine QD.nil (hZ _ ?_)
      clear hZ Z
      refine Run.seq ?_
      by_cases h58 : ch = 58
      · skip
        refine Run.regionO (D := [some 42, some 43, some 44, some 45]) [true, true, true, true] rfl rfl rfl (fun Z hZ => ?_)
        iterate 2 refine q1 dc rfl rfl ?_
        refine QD.e ((Ev.indexT (s := u) T rfl rfl rfl (by omega) (by omega)).as (show _ = Value.int .u8 ((ch : Nat) : Int) from by show Value.int .u8 (((u.getD _ 0).toNat : Nat) : Int) = _; rw [Int.toNat_natCast, ← hch])) dc rfl ?_
        refine qt (Ev.eqlI rfl rfl) (by omega) dc rfl ?_
        refine QD.nil (hZ _ ?_)
        clear hZ Z
        repeat (first | refine Run.seq ?_ | refine Run.cond_t rfl ?_)
        refine Run.regionO (D := [some 4]) [true] rfl rfl rfl (fun Z hZ => ?_)
        refine q1 dc rfl rfl ?_
        refine QD.nil (hZ _ ?_)
        clear hZ Z
        skip
        refine Run.fin (Run.ret1 (by rw [hCf]; exact Proofs.Tryd.func5) Proofs.Tryd.results5 rfl (hR _ _ _ ?_))
        exact ⟨rfl, _, rfl, fun h => by cases h⟩
      · skip
        refine Run.regionO (D := [some 42, some 43, some 44, some 45]) [true, true, true, true] rfl rfl rfl (fun Z hZ => ?_)
        iterate 2 refine q1 dc rfl rfl ?_
        refine QD.e ((Ev.indexT (s := u) T rfl rfl rfl (by omega) (by omega)).as (show _ = Value.int .u8 ((ch : Nat) : Int) from by show Value.int .u8 (((u.getD _ 0).toNat : Nat) : Int) = _; rw [Int.toNat_natCast, ← hch])) dc rfl ?_
        refine qf (Ev.eqlI rfl rfl) (by omega) dc rfl ?_
        refine QD.nil (hZ _ ?_)
        clear hZ Z
        repeat (first | refine Run.skip ?_ | refine Run.inBlock ?_ | refine Run.cond_f rfl ?_)
        refine Run.regionO (D := [some 46, some 39]) [true, true] rfl rfl rfl (fun Z hZ => ?_)
        refine QD.e (Ev.addK (r := ((k + 1 : Nat) : Int)) rfl rfl (by rw [wI (by omega) (by omega)]; omega)) dc rfl ?_
        refine q1 dc rfl rfl ?_
        refine QD.nil (hZ _ ?_)
        clear hZ Z
        skip
        refine Run.keep [0, 38, 39] [_, _, _] rfl ?_
        refine ih2 (u.length - (k + 1)) _ _ _ (by omega) ⟨k + 1, rfl, by omega, ?_, rfl, rfl, rfl⟩
        intro hc
        rw [List.take_succ_eq_append_getElem hkl] at hc
        rcases List.mem_append.1 hc with hc | hc
        · exact hkd hc
        · have := List.mem_singleton.1 hc
          rw [← hg] at this
          exact h58 (by rw [hch, ← this]; rfl)
    · skip
      refine Run.regionO (D := [some 40]) [true] rfl rfl rfl (fun Z hZ => ?_)
      refine qf (Ev.lss rfl rfl) (by omega) dc rfl ?_
      refine QD.nil (hZ _ ?_)
      clear hZ Z
      repeat (first | refine Run.seq ?_ | refine Run.exit rfl ?_ | refine Run.cond_f rfl ?_)
      refine Run.regionO (D := [some 4]) [true] rfl rfl rfl (fun Z hZ => ?_)
      refine q1 dc rfl rfl ?_
      refine QD.nil (hZ _ ?_)
      clear hZ Z
      skip
      refine Run.fin (Run.ret1 (by rw [hCf]; exact Proofs.Tryd.func5) Proofs.Tryd.results5 rfl (hR _ _ _ ?_))
      exact ⟨rfl, _, rfl, fun _ => ⟨hpl.1, hpl.2, by rw [List.take_of_length_le (by omega)] at hkd; exact hkd⟩⟩
/-- texts of UTF-8 -/
def goodS (s : Bs) : Prop := Lib.validD s = true ∧ s.length ≤ 4000
set_option maxHeartbeats 1000000 in
theorem laws_textsGood (I : Imm) (hU : UT I) (v : Value) (xs : List Bs) (hS : Sl tStr I v xs) (hx : ∀ s ∈ xs, s.length ≤ 2147483647) (hl : xs.length ≤ 2147483647) : Pure Proofs.Tryd.prog 6 [v] I fun w _ => ∃ r, w = .bool r ∧ (r = true → xs.length ≤ 60 ∧ ∀ s ∈ xs, goodS s) := by
  obtain ⟨A0, c0, rfl⟩ := hS.isSl
  refine Spec.enter 27 [(0, _)] Proofs.Tryd.func6 rfl Proofs.Tryd.ntmps6 (by simp) rfl ?_
  intro C hCf hR hCI
  refine Run.seq ?_
  refine Run.regionO (D := [some 2]) [true] rfl rfl rfl (fun Z hZ => ?_)
  refine q1 dc rfl rfl ?_
  refine QD.nil (hZ _ ?_)
  clear hZ Z
  refine Run.seq ?_
  refine Run.regionO (D := [some 3]) [true] rfl rfl rfl (fun Z hZ => ?_)
  refine q1 dc rfl rfl ?_
  refine QD.nil (hZ _ ?_)
  clear hZ Z
  repeat refine Run.seq ?_
  refine Run.regionO (D := [some 6, some 7, some 8]) [true, true, true] rfl rfl rfl (fun Z hZ => ?_)
  iterate 3 refine q1 dc rfl rfl ?_
  refine QD.nil (hZ _ ?_)
  clear hZ Z
  refine Run.block ?_
  refine Run.keep [0, 3, 6, 7, 8] [_, _, _, _, _] rfl ?_
  refine Run.rounds (fun m env L J => ∃ i n : Nat, m = xs.length - i ∧ i ≤ xs.length ∧ n ≤ i * 2147483647 ∧ (∀ s ∈ xs.take i, Lib.validD s = true ∧ s.length ≤ n) ∧ env = [(0, .slice A0 xs.length c0), (3, .int .i64 n), (6, .slice A0 xs.length c0), (7, .int .i64 xs.length), (8, .int .i64 i)] ∧ L = [] ∧ I = J) xs.length ⟨0, 0, by omega, by omega, by omega, by simp, rfl, rfl, rfl⟩ ?_
  rintro m env L J ⟨i, n, rfl, hi, hn, hdone, rfl, rfl, rfl⟩ ih
  have hn2 : n ≤ 4611686014132420609 := Nat.le_trans hn (by have := Nat.mul_le_mul_right 2147483647 (Nat.le_trans hi hl); omega)
  refine Run.seq ?_
  by_cases hlt : i < xs.length
  · skip
    refine Run.regionO (D := [some 9]) [true] rfl rfl rfl (fun Z hZ => ?_)
    refine qt (Ev.lss rfl rfl) (by omega) dc rfl ?_
    refine QD.nil (hZ _ ?_)
    clear hZ Z
    repeat (first | refine Run.seq ?_ | refine Run.skip ?_ | refine Run.block ?_ | refine Run.cond_t rfl ?_)
    refine Run.region ?_
    refine Ops.indexSl (j := (i : Int)) hS rfl dc rfl rfl (T.undOk rfl) (T.sizeOk rfl) (by omega) (by omega) fun bb off q cs hq hr hA => ?_
    obtain rfl : cs = [str q] := hr
    rw [Int.toNat_natCast] at hq
    have hql := hx q (List.mem_of_getElem? hq)
    refine Ops.loadI rfl dc rfl hA (T.aggOk rfl) ?_
    refine Ops.pure T rfl dc rfl ?_
    refine Ops.nil ?_
    refine Run.seq ?_
    refine Run.regionO (D := [some 12, some 13, some 14, some 15, some 3]) [true, true, true, true, true] rfl rfl rfl (fun Z hZ => ?_)
    iterate 2 refine q1 dc rfl rfl ?_
    refine QD.e (Ev.lenS T rfl rfl) dc rfl ?_
    refine QD.e (Ev.addK (r := ((n + q.length : Nat) : Int)) rfl rfl (by rw [wI (by omega) (by omega)]; omega)) dc rfl ?_
    refine q1 dc rfl rfl ?_
    refine QD.nil (hZ _ ?_)
    clear hZ Z
    refine Run.seq ?_
    refine Run.regionP (D := [some 16, some 17, some 18]) [true] 1 rfl rfl rfl (by simp only [List.drop_succ_cons, List.drop_zero]; rfl) (fun Z hZ => ?_)
    refine q1 dc rfl rfl ?_
    refine QD.nil (hZ _ ?_)
    clear hZ Z
    refine Ops.call ((utf8_ValidString I hU q (by omega))) rfl dc Proofs.Tryd.call13 rfl ?_
    rintro w J2 l2 ⟨rfl, rfl⟩
    refine Ops.pure T rfl dc rfl ?_
    refine Ops.nil ?_
    skip
    cases hv : Lib.validD q with
    | false =>
      repeat (first | refine Run.seq ?_ | refine Run.cond_t rfl ?_)
      refine Run.regionO (D := [some 2]) [true] rfl rfl rfl (fun Z hZ => ?_)
      refine q1 dc rfl rfl ?_
      refine QD.nil (hZ _ ?_)
      clear hZ Z
      skip
      refine Run.fin (Run.ret1 (by rw [hCf]; exact Proofs.Tryd.func6) Proofs.Tryd.results6 rfl (hR _ _ _ ?_))
      exact ⟨rfl, _, rfl, fun h => by cases h⟩
    | true =>
      repeat (first | refine Run.skip ?_ | refine Run.inBlock ?_ | refine Run.cond_f rfl ?_)
      refine Run.regionO (D := [some 19, some 8]) [true, true] rfl rfl rfl (fun Z hZ => ?_)
      refine QD.e (Ev.addK (r := ((i + 1 : Nat) : Int)) rfl rfl (by rw [wI (by omega) (by omega)]; omega)) dc rfl ?_
      refine q1 dc rfl rfl ?_
      refine QD.nil (hZ _ ?_)
      clear hZ Z
      skip
      refine Run.keep [0, 3, 6, 7, 8] [_, _, _, _, _] rfl ?_
      refine ih (xs.length - (i + 1)) _ _ _ (by omega) ⟨i + 1, n + q.length, rfl, by omega, by omega, ?_, rfl, rfl, rfl⟩
      intro s hs
      rw [List.take_succ_eq_append_getElem hlt] at hs
      rcases List.mem_append.1 hs with hs | hs
      · obtain ⟨h1, h2⟩ := hdone s hs
        exact ⟨h1, by omega⟩
      · obtain rfl := List.mem_singleton.1 hs
        rw [List.getElem?_eq_getElem hlt] at hq
        obtain rfl : xs[i] = q := Option.some.inj hq
        exact ⟨hv, by omega⟩
  · skip
    refine Run.regionO (D := [some 9]) [true] rfl rfl rfl (fun Z hZ => ?_)
    refine qf (Ev.lss rfl rfl) (by omega) dc rfl ?_
    refine QD.nil (hZ _ ?_)
    clear hZ Z
    repeat (first | refine Run.seq ?_ | refine Run.exit rfl ?_ | refine Run.cond_f rfl ?_)
    rw [List.take_of_length_le (by omega)] at hdone
    by_cases h60 : xs.length ≤ 60
    · by_cases h4 : n ≤ 4000
      · skip
        refine Run.regionO (D := [some 20, some 21, some 22, some 23, some 24, some 25, some 26, some 2]) [true, true, true, true, true, true, true, true] rfl rfl rfl (fun Z hZ => ?_)
        iterate 2 refine q1 dc rfl rfl ?_
        refine qt (Ev.leq rfl rfl) (by omega) dc rfl ?_
        iterate 2 refine q1 dc rfl rfl ?_
        refine qt (Ev.leq rfl rfl) (by omega) dc rfl ?_
        iterate 2 refine q1 dc rfl rfl ?_
        refine QD.nil (hZ _ ?_)
        clear hZ Z
        skip
        refine Run.fin (Run.ret1 (by rw [hCf]; exact Proofs.Tryd.func6) Proofs.Tryd.results6 rfl (hR _ _ _ ?_))
        exact ⟨rfl, _, rfl, fun _ => ⟨h60, fun s hs => ⟨(hdone s hs).1, by have := (hdone s hs).2; omega⟩⟩⟩
      · skip
        refine Run.regionO (D := [some 20, some 21, some 22, some 23, some 24, some 25, some 26, some 2]) [true, true, true, true, true, true, true, true] rfl rfl rfl (fun Z hZ => ?_)
        iterate 2 refine q1 dc rfl rfl ?_
        refine qt (Ev.leq rfl rfl) (by omega) dc rfl ?_
        iterate 2 refine q1 dc rfl rfl ?_
        refine qf (Ev.leq rfl rfl) (by omega) dc rfl ?_
        iterate 2 refine q1 dc rfl rfl ?_
        refine QD.nil (hZ _ ?_)
        clear hZ Z
        skip
        refine Run.fin (Run.ret1 (by rw [hCf]; exact Proofs.Tryd.func6) Proofs.Tryd.results6 rfl (hR _ _ _ ?_))
        exact ⟨rfl, _, rfl, fun h => by cases h⟩
    · skip
      refine Run.regionO (D := [some 20, some 21, some 22, some 23, some 24, some 25, some 26, some 2]) [true, true, true, true, true, true, true, true] rfl rfl rfl (fun Z hZ => ?_)
      iterate 2 refine q1 dc rfl rfl ?_
      refine qf (Ev.leq rfl rfl) (by omega) dc rfl ?_
      refine q1 dc rfl rfl ?_
      iterate 2 refine QD.off dc rfl ?_
      iterate 2 refine q1 dc rfl rfl ?_
      refine QD.nil (hZ _ ?_)
      clear hZ Z
      skip
      refine Run.fin (Run.ret1 (by rw [hCf]; exact Proofs.Tryd.func6) Proofs.Tryd.results6 rfl (hR _ _ _ ?_))
      exact ⟨rfl, _, rfl, fun h => by cases h⟩
end Go.V
