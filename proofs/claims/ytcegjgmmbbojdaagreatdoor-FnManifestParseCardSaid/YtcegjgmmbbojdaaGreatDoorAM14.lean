import Derived.Test.YtcegjgmmbbojdaaGreatDoorAW
import Derived.Test.YtcegjgmmbbojdaaGreatDoorAM8
import Derived.Test.YtcegjgmmbbojdaaGreatDoorAM4
import Derived.Test.YtcegjgmmbbojdaaGreatDoorAM13
set_option linter.unusedVariables false
set_option linter.unusedSimpArgs false
namespace Go.V
open Go.Proofs.Tryz
open Go.RowKit
set_option maxRecDepth 10000
attribute [local irreducible] Run Ops
structure Pf where
 arch : List UInt8
 os : List UInt8
 ver : List UInt8
 var : List UInt8
deriving DecidableEq
def Pf.cs (p : Pf) (f g : Value) : List Value := [str p.arch, str p.os, str p.ver, str p.var, f, g]
abbrev Txts := List (List UInt8)
def fitL (xs : List (List UInt8)) : Prop := xs.length <= 2147483647 /\ ∀ x ∈ xs, x.length <= 2147483647
theorem laws_zzFits12 (I : Imm) (xs : List (List UInt8)) (v : Value) (hS : Sl tStr I v xs) : Pure prog 30 [v] I fun w J => ∃ r, w = .bool r /\ (r = true -> fitL xs) := by
 refine Spec.enter 18 [(0, _)] func30 rfl ntmps30 (by simp) rfl ?_
 intro C hCf hR hCI
 repeat (first | refine rS ?_ | refine Run.region ?_ | refine Ops.nil ?_ | refine oP rfl ?_)
 refine Ops.lenSl (hS) rfl dc rfl (T.undOk rfl) ?_
 repeat (first | refine Ops.nil ?_ | refine Ops.gtr rfl (by decide) rfl rfl ?_)
 refine Run.cond rfl rfl (fun h => ?_) (fun h => ?_)
 all_goals (try rw [h])
 all_goals (try simp only [decide_eq_true_eq, decide_eq_false_iff_not, Bool.not_eq_true', Bool.not_eq_false', Bool.and_eq_true, Bool.or_eq_true, Bool.and_eq_false_imp, Bool.or_eq_false_iff] at h)
 ·skip
  repeat (first | refine rS ?_ | refine Run.region ?_ | refine Ops.nil ?_ | refine oP rfl ?_)
  refine Run.fin (Run.ret1 (by rw [hCf]; exact func30) results30 rfl (hR _ _ _ ?_))
  exact ⟨rfl, false, rfl, by simp⟩
 repeat (first | refine rS ?_ | refine Run.region ?_ | refine rK ?_ | refine oP rfl ?_)
 refine Ops.lenSl (hS) rfl dc rfl (T.undOk rfl) ?_
 repeat (first | refine Ops.nil ?_ | refine rB ?_ | refine oP rfl ?_)
 refine Run.keep [8, 9, 10] [_, _, _] rfl ?_
 refine Run.rounds (fun m env L J => ∃ i : Nat, m = xs.length - i /\ i <= xs.length /\ (∀ x ∈ xs.take i, x.length <= 2147483647) /\ env = [(8, v), (9, .int .i64 xs.length), (10, .int .i64 i)] /\ L = [] /\ J = I) xs.length ⟨0, by omega, by omega, by simp, rfl, rfl, rfl⟩ ?_
 rintro m env L J ⟨i, rfl, hi, hall, rfl, rfl, rfl⟩ ih
 repeat (first | refine rS ?_ | refine Run.region ?_ | refine Ops.nil ?_ | refine Ops.lss rfl (by decide) rfl rfl ?_)
 refine Run.cond rfl rfl (fun h2 => ?_) (fun h2 => ?_)
 all_goals (try rw [h2])
 all_goals (try simp only [decide_eq_true_eq, decide_eq_false_iff_not, Bool.not_eq_true', Bool.not_eq_false', Bool.and_eq_true, Bool.or_eq_true, Bool.and_eq_false_imp, Bool.or_eq_false_iff] at h2)
 ·skip
  repeat (first | refine rS ?_ | refine Run.region ?_ | refine rK ?_ | refine rB ?_)
  refine Ops.indexSl hS rfl dc rfl rfl (T.undOk rfl) (T.sizeOk rfl) om om ?_
  rintro b_ off_ x cs_ hx hr_ hA_
  obtain rfl : cs_ = [_] := hr_
  refine Ops.loadI rfl dc rfl hA_ (T.aggOk rfl) ?_
  rw [Int.toNat_natCast] at hx
  repeat (first | refine rS ?_ | refine Run.region ?_ | refine Ops.nil ?_ | refine Ops.gtr rfl (by decide) rfl rfl ?_ | refine oP rfl ?_ | refine Ops.lenS T rfl (by decide) rfl rfl ?_)
  refine Run.cond rfl rfl (fun h3 => ?_) (fun h3 => ?_)
  all_goals (try rw [h3])
  all_goals (try simp only [decide_eq_true_eq, decide_eq_false_iff_not, Bool.not_eq_true', Bool.not_eq_false', Bool.and_eq_true, Bool.or_eq_true, Bool.and_eq_false_imp, Bool.or_eq_false_iff] at h3)
  ·skip
   repeat (first | refine rS ?_ | refine Run.region ?_ | refine Ops.nil ?_ | refine oP rfl ?_)
   refine Run.fin (Run.ret1 (by rw [hCf]; exact func30) results30 rfl (hR _ _ _ ?_))
   exact ⟨rfl, false, rfl, by simp⟩
  ·skip
   repeat (first | refine Run.region ?_ | refine Ops.nil ?_ | refine rK ?_ | refine rI ?_ | refine Ops.add rfl (by decide) rfl rfl (wI (by first | omega | (simp only [List.length_cons, List.length_nil] ; omega) | (simp; omega)) (by first | omega | (simp only [List.length_cons, List.length_nil] ; omega) | (simp; omega))) ?_ | refine oP rfl ?_)
   refine Run.keep [8, 9, 10] [_, _, _] rfl ?_
   refine ih (xs.length - (i + 1)) _ _ _ (by omega) ⟨i + 1, rfl, by omega, ?_, rfl, rfl, rfl⟩
   intro y hy
   rw [List.take_add_one, hx] at hy
   rcases List.mem_append.1 hy with hy | hy
   ·exact hall y hy
   ·simp at hy; subst hy; omega
 ·have : i = xs.length := by omega
  subst this
  repeat (first | refine rS ?_ | refine Run.region ?_ | refine Ops.nil ?_ | refine Run.exit rfl ?_ | refine oP rfl ?_)
  refine Run.fin (Run.ret1 (by rw [hCf]; exact func30) results30 rfl (hR _ _ _ ?_))
  exact ⟨rfl, true, rfl, fun _ => ⟨by omega, by simpa using hall⟩⟩
def fitP (p : Pf) : Prop := p.arch.length <= 2147483647 /\ p.os.length <= 2147483647 /\ p.ver.length <= 2147483647 /\ p.var.length <= 2147483647
theorem laws_zzFits24 (I : Imm) (p : Pf) (u v : Value) (f g : List (List UInt8)) (hf : Sl tStr I u f) (hg : Sl tStr I v g) : Pure prog 49 [.agg (p.cs u v).toArray] I fun w J => ∃ r, w = .bool r /\ (r = true -> fitP p /\ fitL f /\ fitL g) := by
 obtain ⟨p1, p2, p3, p4⟩ := p
 obtain ⟨A, c, hu⟩ := hf.isSl
 obtain ⟨A', c', hv⟩ := hg.isSl
 subst hu
 subst hv
 refine Spec.enter 27 [(0, _)] func49 rfl ntmps49 (by simp) rfl ?_
 intro C hCf hR hCI
 refine rS ?_; refine Run.region ?_
 refine Ops.box rfl dc rfl rfl (fun b => ?_)
 repeat (first | refine rS ?_ | refine Run.region ?_ | refine Ops.nil ?_ | refine Ops.gtr rfl (by decide) rfl rfl ?_ | refine oP rfl ?_ | refine Ops.lenS T rfl (by decide) rfl rfl ?_ | refine Ops.load 0 rfl (by decide) rfl rfl (T.aggOk rfl) rfl ?_)
 refine Run.cond rfl rfl (fun h1 => ?_) (fun h1 => ?_)
 all_goals (try rw [h1])
 all_goals (try simp only [decide_eq_true_eq, decide_eq_false_iff_not, Bool.not_eq_true', Bool.not_eq_false', Bool.and_eq_true, Bool.or_eq_true, Bool.and_eq_false_imp, Bool.or_eq_false_iff] at h1)
 ·skip
  repeat (first | refine rS ?_ | refine Run.region ?_ | refine Ops.nil ?_ | refine oP rfl ?_)
  refine Run.fin (Run.ret1 (by rw [hCf]; exact func49) results49 rfl (hR _ _ _ ?_))
  exact ⟨rfl, false, rfl, by simp⟩
 repeat (first | refine rS ?_ | refine Run.region ?_ | refine Ops.nil ?_ | refine rK ?_ | refine Ops.gtr rfl (by decide) rfl rfl ?_ | refine oP rfl ?_ | refine Ops.lenS T rfl (by decide) rfl rfl ?_ | refine Ops.load 0 rfl (by decide) rfl rfl (T.aggOk rfl) rfl ?_)
 refine Run.cond rfl rfl (fun h2 => ?_) (fun h2 => ?_)
 all_goals (try rw [h2])
 all_goals (try simp only [decide_eq_true_eq, decide_eq_false_iff_not, Bool.not_eq_true', Bool.not_eq_false', Bool.and_eq_true, Bool.or_eq_true, Bool.and_eq_false_imp, Bool.or_eq_false_iff] at h2)
 ·skip
  repeat (first | refine rS ?_ | refine Run.region ?_ | refine Ops.nil ?_ | refine oP rfl ?_)
  refine Run.fin (Run.ret1 (by rw [hCf]; exact func49) results49 rfl (hR _ _ _ ?_))
  exact ⟨rfl, false, rfl, by simp⟩
 repeat (first | refine rS ?_ | refine Run.region ?_ | refine Ops.nil ?_ | refine rK ?_ | refine Ops.gtr rfl (by decide) rfl rfl ?_ | refine oP rfl ?_ | refine Ops.lenS T rfl (by decide) rfl rfl ?_ | refine Ops.load 0 rfl (by decide) rfl rfl (T.aggOk rfl) rfl ?_)
 refine Run.cond rfl rfl (fun h3 => ?_) (fun h3 => ?_)
 all_goals (try rw [h3])
 all_goals (try simp only [decide_eq_true_eq, decide_eq_false_iff_not, Bool.not_eq_true', Bool.not_eq_false', Bool.and_eq_true, Bool.or_eq_true, Bool.and_eq_false_imp, Bool.or_eq_false_iff] at h3)
 ·skip
  repeat (first | refine rS ?_ | refine Run.region ?_ | refine Ops.nil ?_ | refine oP rfl ?_)
  refine Run.fin (Run.ret1 (by rw [hCf]; exact func49) results49 rfl (hR _ _ _ ?_))
  exact ⟨rfl, false, rfl, by simp⟩
 repeat (first | refine rS ?_ | refine Run.region ?_ | refine Ops.nil ?_ | refine rK ?_ | refine Ops.gtr rfl (by decide) rfl rfl ?_ | refine oP rfl ?_ | refine Ops.lenS T rfl (by decide) rfl rfl ?_ | refine Ops.load 0 rfl (by decide) rfl rfl (T.aggOk rfl) rfl ?_)
 refine Run.cond rfl rfl (fun h4 => ?_) (fun h4 => ?_)
 all_goals (try rw [h4])
 all_goals (try simp only [decide_eq_true_eq, decide_eq_false_iff_not, Bool.not_eq_true', Bool.not_eq_false', Bool.and_eq_true, Bool.or_eq_true, Bool.and_eq_false_imp, Bool.or_eq_false_iff] at h4)
 ·skip
  repeat (first | refine rS ?_ | refine Run.region ?_ | refine Ops.nil ?_ | refine oP rfl ?_)
  refine Run.fin (Run.ret1 (by rw [hCf]; exact func49) results49 rfl (hR _ _ _ ?_))
  exact ⟨rfl, false, rfl, by simp⟩
 repeat (first | refine rS ?_ | refine Run.region ?_ | refine rK ?_ | refine oP rfl ?_ | refine Ops.load 0 rfl (by decide) rfl rfl (T.aggOk rfl) rfl ?_)
 refine Ops.call ((laws_zzFits12 I f _ hf)) rfl dc call30 rfl ?_
 rintro _ J hle ⟨r, rfl, hr⟩
 repeat (first | refine Ops.nil ?_ | refine oP rfl ?_)
 cases r with
 | false =>
  skip
  repeat (first | refine rS ?_ | refine Run.region ?_ | refine Ops.nil ?_ | refine rT rfl ?_ | refine oP rfl ?_)
  refine Run.fin (Run.ret1 (by rw [hCf]; exact func49) results49 rfl (hR _ _ _ ?_))
  exact ⟨rfl, false, rfl, by simp⟩
 | true =>
 repeat (first | refine rS ?_ | refine Run.region ?_ | refine rK ?_ | refine rF rfl ?_ | refine oP rfl ?_ | refine Ops.load 0 rfl (by decide) rfl rfl (T.aggOk rfl) rfl ?_)
 refine Ops.call ((laws_zzFits12 J g _ (hg.mono hle))) rfl dc call30 rfl ?_
 rintro _ J2 hle2 ⟨r, rfl, hr2⟩
 repeat (first | refine Ops.nil ?_ | refine oP rfl ?_)
 cases r with
 | false =>
  skip
  repeat (first | refine rS ?_ | refine Run.region ?_ | refine Ops.nil ?_ | refine rT rfl ?_ | refine oP rfl ?_)
  refine Run.fin (Run.ret1 (by rw [hCf]; exact func49) results49 rfl (hR _ _ _ ?_))
  exact ⟨rfl, false, rfl, by simp⟩
 | true =>
 repeat (first | refine rS ?_ | refine Run.region ?_ | refine Ops.nil ?_ | refine rK ?_ | refine rF rfl ?_ | refine oP rfl ?_)
 refine Run.fin (Run.ret1 (by rw [hCf]; exact func49) results49 rfl (hR _ _ _ ?_))
 exact ⟨rfl, true, rfl, fun _ => ⟨⟨by simp only; omega, by simp only; omega, by simp only; omega, by simp only; omega⟩, hr rfl, hr2 rfl⟩⟩
abbrev K2 := List UInt8 × List UInt8
def tK2 : Ty K2 := ⟨2, fun _ cs x => cs = [str x.1, str x.2], fun h => by subst h; rfl, fun h _ => h⟩
abbrev PfL := Pf × Txts × Txts
def tPf : Ty PfL := ⟨6, fun I cs x => ∃ A a A' a', cs = x.1.cs (.slice A x.2.1.length a) (.slice A' x.2.2.length a') /\ Sl tStr I (.slice A x.2.1.length a) x.2.1 /\ Sl tStr I (.slice A' x.2.2.length a') x.2.2,
 fun h => by obtain ⟨A, a, A', a', h, _⟩ := h; subst h; rfl, fun h hle => by obtain ⟨A, a, A', a', h, h1, h2⟩ := h; exact ⟨A, a, A', a', h, h1.mono hle, h2.mono hle⟩⟩
theorem Sl.map {α β : Type} {t : Ty α} {t' : Ty β} {I : Imm} (φ : α -> β) (hs : t'.size = t.size) (h : ∀ cs x, t.rel I cs x -> t'.rel I cs (φ x)) {v : Value} {xs : List α} (hS : Sl t I v xs) : Sl t' I v (xs.map φ) := by
 obtain ⟨A, c, rfl, hc, hr⟩ := hS
 refine ⟨A, c, by simp, by simpa using hc, ?_⟩
 rcases hr with rfl | ⟨b, off, rfl, hrow⟩
 ·exact .inl rfl
 ·refine .inr ⟨b, off, rfl, ?_⟩
  intro i y hy
  rw [List.getElem?_map] at hy
  obtain ⟨x, hx, rfl⟩ := Option.map_eq_some_iff.1 hy
  obtain ⟨cs, h1, h2⟩ := hrow i x hx
  exact ⟨cs, h cs x h1, by rw [hs]; exact h2⟩
def fit2 (x : K2) : Prop := x.1.length <= 2147483647 /\ x.2.length <= 2147483647
def fitF (x : PfL) : Prop := fitP x.1 /\ fitL x.2.1 /\ fitL x.2.2
theorem laws_zzFits18 (I : Imm) (x : K2) : Pure prog 29 [.agg [str x.1, str x.2].toArray] I fun w J => ∃ r, w = .bool r /\ (r = true -> fit2 x) := by
 obtain ⟨x1, x2⟩ := x
 refine Spec.enter 11 [(0, _)] func29 rfl ntmps29 (by simp) rfl ?_
 intro C hCf hR hCI
 refine rS ?_; refine Run.region ?_
 refine Ops.box rfl dc rfl rfl (fun b => ?_)
 repeat (first | refine rS ?_ | refine Run.region ?_ | refine Ops.nil ?_ | refine Ops.gtr rfl (by decide) rfl rfl ?_ | refine oP rfl ?_ | refine Ops.lenS T rfl (by decide) rfl rfl ?_ | refine Ops.load 0 rfl (by decide) rfl rfl (T.aggOk rfl) rfl ?_)
 refine Run.cond rfl rfl (fun h1 => ?_) (fun h1 => ?_)
 all_goals (try rw [h1])
 all_goals (try simp only [decide_eq_true_eq, decide_eq_false_iff_not, Bool.not_eq_true', Bool.not_eq_false', Bool.and_eq_true, Bool.or_eq_true, Bool.and_eq_false_imp, Bool.or_eq_false_iff] at h1)
 ·skip
  repeat (first | refine rS ?_ | refine Run.region ?_ | refine Ops.nil ?_ | refine oP rfl ?_)
  refine Run.fin (Run.ret1 (by rw [hCf]; exact func29) results29 rfl (hR _ _ _ ?_))
  exact ⟨rfl, false, rfl, by simp⟩
 repeat (first | refine rS ?_ | refine Run.region ?_ | refine Ops.nil ?_ | refine rK ?_ | refine Ops.gtr rfl (by decide) rfl rfl ?_ | refine oP rfl ?_ | refine Ops.lenS T rfl (by decide) rfl rfl ?_ | refine Ops.load 0 rfl (by decide) rfl rfl (T.aggOk rfl) rfl ?_)
 refine Run.cond rfl rfl (fun h2 => ?_) (fun h2 => ?_)
 all_goals (try rw [h2])
 all_goals (try simp only [decide_eq_true_eq, decide_eq_false_iff_not, Bool.not_eq_true', Bool.not_eq_false', Bool.and_eq_true, Bool.or_eq_true, Bool.and_eq_false_imp, Bool.or_eq_false_iff] at h2)
 ·skip
  repeat (first | refine rS ?_ | refine Run.region ?_ | refine Ops.nil ?_ | refine oP rfl ?_)
  refine Run.fin (Run.ret1 (by rw [hCf]; exact func29) results29 rfl (hR _ _ _ ?_))
  exact ⟨rfl, false, rfl, by simp⟩
 repeat (first | refine rS ?_ | refine Run.region ?_ | refine Ops.nil ?_ | refine rK ?_ | refine oP rfl ?_)
 refine Run.fin (Run.ret1 (by rw [hCf]; exact func29) results29 rfl (hR _ _ _ ?_))
 exact ⟨rfl, true, rfl, fun _ => ⟨by simp only; omega, by simp only; omega⟩⟩
theorem laws_zzFits14 (I : Imm) (x : K2) : Pure prog 32 [.agg [str x.1, str x.2].toArray] I fun w J => ∃ r, w = .bool r /\ (r = true -> fit2 x) := by
 obtain ⟨x1, x2⟩ := x
 refine Spec.enter 11 [(0, _)] func32 rfl ntmps32 (by simp) rfl ?_
 intro C hCf hR hCI
 refine rS ?_; refine Run.region ?_
 refine Ops.box rfl dc rfl rfl (fun b => ?_)
 repeat (first | refine rS ?_ | refine Run.region ?_ | refine Ops.nil ?_ | refine Ops.gtr rfl (by decide) rfl rfl ?_ | refine oP rfl ?_ | refine Ops.lenS T rfl (by decide) rfl rfl ?_ | refine Ops.load 0 rfl (by decide) rfl rfl (T.aggOk rfl) rfl ?_)
 refine Run.cond rfl rfl (fun h1 => ?_) (fun h1 => ?_)
 all_goals (try rw [h1])
 all_goals (try simp only [decide_eq_true_eq, decide_eq_false_iff_not, Bool.not_eq_true', Bool.not_eq_false', Bool.and_eq_true, Bool.or_eq_true, Bool.and_eq_false_imp, Bool.or_eq_false_iff] at h1)
 ·skip
  repeat (first | refine rS ?_ | refine Run.region ?_ | refine Ops.nil ?_ | refine oP rfl ?_)
  refine Run.fin (Run.ret1 (by rw [hCf]; exact func32) results32 rfl (hR _ _ _ ?_))
  exact ⟨rfl, false, rfl, by simp⟩
 repeat (first | refine rS ?_ | refine Run.region ?_ | refine Ops.nil ?_ | refine rK ?_ | refine Ops.gtr rfl (by decide) rfl rfl ?_ | refine oP rfl ?_ | refine Ops.lenS T rfl (by decide) rfl rfl ?_ | refine Ops.load 0 rfl (by decide) rfl rfl (T.aggOk rfl) rfl ?_)
 refine Run.cond rfl rfl (fun h2 => ?_) (fun h2 => ?_)
 all_goals (try rw [h2])
 all_goals (try simp only [decide_eq_true_eq, decide_eq_false_iff_not, Bool.not_eq_true', Bool.not_eq_false', Bool.and_eq_true, Bool.or_eq_true, Bool.and_eq_false_imp, Bool.or_eq_false_iff] at h2)
 ·skip
  repeat (first | refine rS ?_ | refine Run.region ?_ | refine Ops.nil ?_ | refine oP rfl ?_)
  refine Run.fin (Run.ret1 (by rw [hCf]; exact func32) results32 rfl (hR _ _ _ ?_))
  exact ⟨rfl, false, rfl, by simp⟩
 repeat (first | refine rS ?_ | refine Run.region ?_ | refine Ops.nil ?_ | refine rK ?_ | refine oP rfl ?_)
 refine Run.fin (Run.ret1 (by rw [hCf]; exact func32) results32 rfl (hR _ _ _ ?_))
 exact ⟨rfl, true, rfl, fun _ => ⟨by simp only; omega, by simp only; omega⟩⟩
theorem laws_zzFits13 (I : Imm) (xs : List K2) (v : Value) (hS : Sl tK2 I v xs) : Pure prog 13 [v] I fun w J => ∃ r, w = .bool r /\ (r = true -> xs.length <= 2147483647 /\ ∀ x ∈ xs, fit2 x) := by
 refine Spec.enter 18 [(0, _)] func13 rfl ntmps13 (by simp) rfl ?_
 intro C hCf hR hCI
 repeat (first | refine rS ?_ | refine Run.region ?_ | refine Ops.nil ?_ | refine oP rfl ?_)
 refine Ops.lenSl (hS) rfl dc rfl (T.undOk rfl) ?_
 repeat (first | refine Ops.nil ?_ | refine Ops.gtr rfl (by decide) rfl rfl ?_)
 refine Run.cond rfl rfl (fun h => ?_) (fun h => ?_)
 all_goals (try rw [h])
 all_goals (try simp only [decide_eq_true_eq, decide_eq_false_iff_not, Bool.not_eq_true', Bool.not_eq_false', Bool.and_eq_true, Bool.or_eq_true, Bool.and_eq_false_imp, Bool.or_eq_false_iff] at h)
 ·skip
  repeat (first | refine rS ?_ | refine Run.region ?_ | refine Ops.nil ?_ | refine oP rfl ?_)
  refine Run.fin (Run.ret1 (by rw [hCf]; exact func13) results13 rfl (hR _ _ _ ?_))
  exact ⟨rfl, false, rfl, by simp⟩
 repeat (first | refine rS ?_ | refine Run.region ?_ | refine rK ?_ | refine oP rfl ?_)
 refine Ops.lenSl (hS) rfl dc rfl (T.undOk rfl) ?_
 repeat (first | refine Ops.nil ?_ | refine rB ?_ | refine oP rfl ?_)
 refine Run.keep [8, 9, 10] [_, _, _] rfl ?_
 refine Run.rounds (fun m env L J => ∃ i : Nat, m = xs.length - i /\ i <= xs.length /\ (∀ x ∈ xs.take i, fit2 x) /\ env = [(8, v), (9, .int .i64 xs.length), (10, .int .i64 i)] /\ L = [] /\ Le I J) xs.length ⟨0, by omega, by omega, by simp, rfl, rfl, Le.refl _⟩ ?_
 rintro m env L J ⟨i, rfl, hi, hall, rfl, rfl, hle⟩ ih
 repeat (first | refine rS ?_ | refine Run.region ?_ | refine Ops.nil ?_ | refine Ops.lss rfl (by decide) rfl rfl ?_)
 refine Run.cond rfl rfl (fun h2 => ?_) (fun h2 => ?_)
 all_goals (try rw [h2])
 all_goals (try simp only [decide_eq_true_eq, decide_eq_false_iff_not, Bool.not_eq_true', Bool.not_eq_false', Bool.and_eq_true, Bool.or_eq_true, Bool.and_eq_false_imp, Bool.or_eq_false_iff] at h2)
 ·skip
  repeat (first | refine rS ?_ | refine Run.region ?_ | refine rK ?_ | refine rB ?_)
  refine Ops.indexSl (hS.mono hle) rfl dc rfl rfl (T.undOk rfl) (T.sizeOk rfl) (by omega) (by omega) ?_
  rintro b_ off_ x cs_ hx hr_ hA_
  skip
  subst hr_
  refine Ops.loadIN rfl dc rfl (hA_) (T.aggOk rfl) (T.sizeOk rfl) rfl (Ops.alloc rfl dc (T.zeroOk rfl) rfl (fun b2 => ?_))
  repeat (first | refine rS ?_ | refine Run.region ?_ | refine Ops.nil ?_ | refine Ops.loadN 0 rfl (by decide) rfl rfl (T.aggOk rfl) (T.sizeOk rfl) rfl rfl ?_ | refine Ops.store 0 rfl rfl rfl rfl rfl (T.sizeOk rfl) rfl (lb rfl) rfl rfl ?_)
  refine Ops.call ((laws_zzFits14 J x)) rfl dc call32 rfl ?_
  rintro _ J2 hle2 ⟨r, rfl, hr⟩
  repeat (first | refine Ops.nil ?_ | refine oP rfl ?_)
  rw [Int.toNat_natCast] at hx
  cases r with
  | false =>
   repeat (first | refine rS ?_ | refine Run.region ?_ | refine Ops.nil ?_ | refine rT rfl ?_ | refine oP rfl ?_)
   refine Run.fin (Run.ret1 (by rw [hCf]; exact func13) results13 rfl (hR _ _ _ ?_))
   exact ⟨rfl, false, rfl, by simp⟩
  | true =>
   repeat (first | refine Run.region ?_ | refine Ops.nil ?_ | refine rK ?_ | refine rI ?_ | refine rF rfl ?_ | refine Ops.add rfl (by decide) rfl rfl (wI (by first | omega | (simp only [List.length_cons, List.length_nil] ; omega) | (simp; omega)) (by first | omega | (simp only [List.length_cons, List.length_nil] ; omega) | (simp; omega))) ?_ | refine oP rfl ?_)
   refine Run.fin ?_
   refine Run.keep [8, 9, 10] [_, _, _] rfl ?_
   refine ih (xs.length - (i + 1)) _ _ _ (by omega) ⟨i + 1, rfl, by omega, ?_, rfl, rfl, hle.trans hle2⟩
   intro y hy
   rw [List.take_add_one, hx] at hy
   rcases List.mem_append.1 hy with hy | hy
   ·exact hall y hy
   ·simp at hy; subst hy; exact hr rfl
 ·have : i = xs.length := by omega
  subst this
  repeat (first | refine rS ?_ | refine Run.region ?_ | refine Ops.nil ?_ | refine Run.exit rfl ?_ | refine oP rfl ?_)
  refine Run.fin (Run.ret1 (by rw [hCf]; exact func13) results13 rfl (hR _ _ _ ?_))
  exact ⟨rfl, true, rfl, fun _ => ⟨by omega, by simpa using hall⟩⟩
theorem laws_zzFits23 (I : Imm) (xs : List PfL) (v : Value) (hS : Sl tPf I v xs) : Pure prog 31 [v] I fun w J => ∃ r, w = .bool r /\ (r = true -> xs.length <= 2147483647 /\ ∀ x ∈ xs, fitF x) := by
 refine Spec.enter 18 [(0, _)] func31 rfl ntmps31 (by simp) rfl ?_
 intro C hCf hR hCI
 repeat (first | refine rS ?_ | refine Run.region ?_ | refine Ops.nil ?_ | refine oP rfl ?_)
 refine Ops.lenSl (hS) rfl dc rfl (T.undOk rfl) ?_
 repeat (first | refine Ops.nil ?_ | refine Ops.gtr rfl (by decide) rfl rfl ?_)
 refine Run.cond rfl rfl (fun h => ?_) (fun h => ?_)
 all_goals (try rw [h])
 all_goals (try simp only [decide_eq_true_eq, decide_eq_false_iff_not, Bool.not_eq_true', Bool.not_eq_false', Bool.and_eq_true, Bool.or_eq_true, Bool.and_eq_false_imp, Bool.or_eq_false_iff] at h)
 ·skip
  repeat (first | refine rS ?_ | refine Run.region ?_ | refine Ops.nil ?_ | refine oP rfl ?_)
  refine Run.fin (Run.ret1 (by rw [hCf]; exact func31) results31 rfl (hR _ _ _ ?_))
  exact ⟨rfl, false, rfl, by simp⟩
 repeat (first | refine rS ?_ | refine Run.region ?_ | refine rK ?_ | refine oP rfl ?_)
 refine Ops.lenSl (hS) rfl dc rfl (T.undOk rfl) ?_
 repeat (first | refine Ops.nil ?_ | refine rB ?_ | refine oP rfl ?_)
 refine Run.keep [8, 9, 10] [_, _, _] rfl ?_
 refine Run.rounds (fun m env L J => ∃ i : Nat, m = xs.length - i /\ i <= xs.length /\ (∀ x ∈ xs.take i, fitF x) /\ env = [(8, v), (9, .int .i64 xs.length), (10, .int .i64 i)] /\ L = [] /\ Le I J) xs.length ⟨0, by omega, by omega, by simp, rfl, rfl, Le.refl _⟩ ?_
 rintro m env L J ⟨i, rfl, hi, hall, rfl, rfl, hle⟩ ih
 repeat (first | refine rS ?_ | refine Run.region ?_ | refine Ops.nil ?_ | refine Ops.lss rfl (by decide) rfl rfl ?_)
 refine Run.cond rfl rfl (fun h2 => ?_) (fun h2 => ?_)
 all_goals (try rw [h2])
 all_goals (try simp only [decide_eq_true_eq, decide_eq_false_iff_not, Bool.not_eq_true', Bool.not_eq_false', Bool.and_eq_true, Bool.or_eq_true, Bool.and_eq_false_imp, Bool.or_eq_false_iff] at h2)
 ·skip
  repeat (first | refine rS ?_ | refine Run.region ?_ | refine rK ?_ | refine rB ?_)
  refine Ops.indexSl (hS.mono hle) rfl dc rfl rfl (T.undOk rfl) (T.sizeOk rfl) (by omega) (by omega) ?_
  rintro b_ off_ x cs_ hx hr_ hA_
  obtain ⟨A, a, A', a', hr_, hsl1, hsl2⟩ := hr_
  subst hr_
  refine Ops.loadIN rfl dc rfl (hA_) (T.aggOk rfl) (T.sizeOk rfl) rfl (Ops.alloc rfl dc (T.zeroOk rfl) rfl (fun b2 => ?_))
  repeat (first | refine rS ?_ | refine Run.region ?_ | refine Ops.nil ?_ | refine Ops.loadN 0 rfl (by decide) rfl rfl (T.aggOk rfl) (T.sizeOk rfl) rfl rfl ?_ | refine Ops.store 0 rfl rfl rfl rfl rfl (T.sizeOk rfl) rfl (lb rfl) rfl rfl ?_)
  refine Ops.call ((laws_zzFits24 J x.1 _ _ x.2.1 x.2.2 hsl1 hsl2)) rfl dc call49 rfl ?_
  rintro _ J2 hle2 ⟨r, rfl, hr⟩
  repeat (first | refine Ops.nil ?_ | refine oP rfl ?_)
  rw [Int.toNat_natCast] at hx
  cases r with
  | false =>
   repeat (first | refine rS ?_ | refine Run.region ?_ | refine Ops.nil ?_ | refine rT rfl ?_ | refine oP rfl ?_)
   refine Run.fin (Run.ret1 (by rw [hCf]; exact func31) results31 rfl (hR _ _ _ ?_))
   exact ⟨rfl, false, rfl, by simp⟩
  | true =>
   repeat (first | refine Run.region ?_ | refine Ops.nil ?_ | refine rK ?_ | refine rI ?_ | refine rF rfl ?_ | refine Ops.add rfl (by decide) rfl rfl (wI (by first | omega | (simp only [List.length_cons, List.length_nil] ; omega) | (simp; omega)) (by first | omega | (simp only [List.length_cons, List.length_nil] ; omega) | (simp; omega))) ?_ | refine oP rfl ?_)
   refine Run.fin ?_
   refine Run.keep [8, 9, 10] [_, _, _] rfl ?_
   refine ih (xs.length - (i + 1)) _ _ _ (by omega) ⟨i + 1, rfl, by omega, ?_, rfl, rfl, hle.trans hle2⟩
   intro y hy
   rw [List.take_add_one, hx] at hy
   rcases List.mem_append.1 hy with hy | hy
   ·exact hall y hy
   ·simp at hy; subst hy; exact hr rfl
 ·have : i = xs.length := by omega
  subst this
  repeat (first | refine rS ?_ | refine Run.region ?_ | refine Ops.nil ?_ | refine Run.exit rfl ?_ | refine oP rfl ?_)
  refine Run.fin (Run.ret1 (by rw [hCf]; exact func31) results31 rfl (hR _ _ _ ?_))
  exact ⟨rfl, true, rfl, fun _ => ⟨by omega, by simpa using hall⟩⟩
structure Ds where
 media : List UInt8
 size : Int
 dig : K2
 data : List UInt8
 urls : Txts
 anns : List K2
 plats : List PfL
 art : List UInt8
def Ds.cs (d : Ds) (u v w : Value) : List Value := [str d.media, .int .i64 d.size, str d.dig.1, str d.dig.2, str d.data, u, v, w, str d.art]
def DsL (I : Imm) (d : Ds) (u v w : Value) : Prop := Sl tStr I u d.urls /\ Sl tK2 I v d.anns /\ Sl tPf I w d.plats
theorem DsL.mono {I J : Imm} {d : Ds} {u v w : Value} (h : DsL I d u v w) (hle : Le I J) : DsL J d u v w := ⟨h.1.mono hle, h.2.1.mono hle, h.2.2.mono hle⟩
def fitDs (d : Ds) : Prop := d.media.length <= 2147483647 /\ fit2 d.dig /\ d.data.length <= 2147483647 /\ fitL d.urls /\ (d.anns.length <= 2147483647 /\ ∀ x ∈ d.anns, fit2 x) /\ (d.plats.length <= 2147483647 /\ ∀ x ∈ d.plats, fitF x) /\ d.art.length <= 2147483647
def tDs : Ty Ds := ⟨9, fun I cs d => ∃ A a A' a' A2 a2, cs = d.cs (.slice A d.urls.length a) (.slice A' d.anns.length a') (.slice A2 d.plats.length a2) /\ DsL I d (.slice A d.urls.length a) (.slice A' d.anns.length a') (.slice A2 d.plats.length a2),
 fun h => by obtain ⟨A, a, A', a', A2, a2, h, _⟩ := h; subst h; rfl, fun h hle => by obtain ⟨A, a, A', a', A2, a2, h, h1⟩ := h; exact ⟨A, a, A', a', A2, a2, h, h1.mono hle⟩⟩
theorem laws_zzFits22 (I : Imm) (d : Ds) (A1 : Option Addr) (n1 c1 : Nat) (A2 : Option Addr) (n2 c2 : Nat) (A3 : Option Addr) (n3 c3 : Nat) (hL : DsL I d (.slice A1 n1 c1) (.slice A2 n2 c2) (.slice A3 n3 c3)) :
  Pure prog 11 [.agg (d.cs (.slice A1 n1 c1) (.slice A2 n2 c2) (.slice A3 n3 c3)).toArray] I fun w J => ∃ r, w = .bool r /\ (r = true -> fitDs d) := by
 obtain ⟨media, size, dig, data, urls, anns, plats, art⟩ := d
 obtain ⟨hu, ha, hp⟩ := hL
 simp only at hu ha hp
 refine Spec.enter 31 [(0, _)] func11 rfl ntmps11 (by simp) rfl ?_
 intro C hCf hR hCI
 refine rS ?_; refine Run.region ?_
 refine Ops.box rfl dc rfl rfl (fun b => ?_)
 repeat (first | refine rS ?_ | refine Run.region ?_ | refine Ops.nil ?_ | refine Ops.gtr rfl (by decide) rfl rfl ?_ | refine oP rfl ?_ | refine Ops.lenS T rfl (by decide) rfl rfl ?_ | refine Ops.load 0 rfl (by decide) rfl rfl (T.aggOk rfl) rfl ?_)
 refine Run.cond rfl rfl (fun h1 => ?_) (fun h1 => ?_)
 all_goals (try rw [h1])
 all_goals (try simp only [decide_eq_true_eq, decide_eq_false_iff_not, Bool.not_eq_true', Bool.not_eq_false', Bool.and_eq_true, Bool.or_eq_true, Bool.and_eq_false_imp, Bool.or_eq_false_iff] at h1)
 ·skip
  repeat (first | refine rS ?_ | refine Run.region ?_ | refine Ops.nil ?_ | refine oP rfl ?_)
  refine Run.fin (Run.ret1 (by rw [hCf]; exact func11) results11 rfl (hR _ _ _ ?_))
  exact ⟨rfl, false, rfl, by simp⟩
 repeat (first | refine rS ?_ | refine Run.region ?_ | refine rK ?_ | refine oP rfl ?_ | refine Ops.loadN 0 rfl (by decide) rfl rfl (T.aggOk rfl) (T.sizeOk rfl) rfl rfl ?_)
 refine Ops.call ((laws_zzFits18 I dig)) rfl dc call29 rfl ?_
 rintro _ J0 l0 ⟨r0, rfl, g0⟩
 repeat (first | refine Ops.nil ?_ | refine oP rfl ?_)
 cases r0 with
 | false =>
  repeat (first | refine rS ?_ | refine Run.region ?_ | refine Ops.nil ?_ | refine rT rfl ?_ | refine oP rfl ?_)
  refine Run.fin (Run.ret1 (by rw [hCf]; exact func11) results11 rfl (hR _ _ _ ?_))
  exact ⟨rfl, false, rfl, by simp⟩
 | true =>
 repeat (first | refine rS ?_ | refine Run.region ?_ | refine Ops.nil ?_ | refine rK ?_ | refine rF rfl ?_ | refine Ops.gtr rfl (by decide) rfl rfl ?_ | refine oP rfl ?_ | refine Ops.lenS T rfl (by decide) rfl rfl ?_ | refine Ops.load 0 rfl (by decide) rfl rfl (T.aggOk rfl) rfl ?_)
 refine Run.cond rfl rfl (fun h2 => ?_) (fun h2 => ?_)
 all_goals (try rw [h2])
 all_goals (try simp only [decide_eq_true_eq, decide_eq_false_iff_not, Bool.not_eq_true', Bool.not_eq_false', Bool.and_eq_true, Bool.or_eq_true, Bool.and_eq_false_imp, Bool.or_eq_false_iff] at h2)
 ·skip
  repeat (first | refine rS ?_ | refine Run.region ?_ | refine Ops.nil ?_ | refine oP rfl ?_)
  refine Run.fin (Run.ret1 (by rw [hCf]; exact func11) results11 rfl (hR _ _ _ ?_))
  exact ⟨rfl, false, rfl, by simp⟩
 repeat (first | refine rS ?_ | refine Run.region ?_ | refine rK ?_ | refine oP rfl ?_ | refine Ops.load 0 rfl (by decide) rfl rfl (T.aggOk rfl) rfl ?_)
 refine Ops.call ((laws_zzFits12 J0 urls _ (hu.mono l0))) rfl dc call30 rfl ?_
 rintro _ J1 l1 ⟨r1, rfl, g1⟩
 repeat (first | refine Ops.nil ?_ | refine oP rfl ?_)
 cases r1 with
 | false =>
  repeat (first | refine rS ?_ | refine Run.region ?_ | refine Ops.nil ?_ | refine rT rfl ?_ | refine oP rfl ?_)
  refine Run.fin (Run.ret1 (by rw [hCf]; exact func11) results11 rfl (hR _ _ _ ?_))
  exact ⟨rfl, false, rfl, by simp⟩
 | true =>
 repeat (first | refine rS ?_ | refine Run.region ?_ | refine rK ?_ | refine rF rfl ?_ | refine oP rfl ?_ | refine Ops.load 0 rfl (by decide) rfl rfl (T.aggOk rfl) rfl ?_)
 refine Ops.call ((laws_zzFits13 J1 anns _ (ha.mono (l0.trans l1)))) rfl dc call13 rfl ?_
 rintro _ J2 l2 ⟨r2, rfl, g2⟩
 repeat (first | refine Ops.nil ?_ | refine oP rfl ?_)
 cases r2 with
 | false =>
  repeat (first | refine rS ?_ | refine Run.region ?_ | refine Ops.nil ?_ | refine rT rfl ?_ | refine oP rfl ?_)
  refine Run.fin (Run.ret1 (by rw [hCf]; exact func11) results11 rfl (hR _ _ _ ?_))
  exact ⟨rfl, false, rfl, by simp⟩
 | true =>
 repeat (first | refine rS ?_ | refine Run.region ?_ | refine rK ?_ | refine rF rfl ?_ | refine oP rfl ?_ | refine Ops.load 0 rfl (by decide) rfl rfl (T.aggOk rfl) rfl ?_)
 refine Ops.call ((laws_zzFits23 J2 plats _ (hp.mono ((l0.trans l1).trans l2)))) rfl dc call31 rfl ?_
 rintro _ J3 l3 ⟨r3, rfl, g3⟩
 repeat (first | refine Ops.nil ?_ | refine oP rfl ?_)
 cases r3 with
 | false =>
  repeat (first | refine rS ?_ | refine Run.region ?_ | refine Ops.nil ?_ | refine rT rfl ?_ | refine oP rfl ?_)
  refine Run.fin (Run.ret1 (by rw [hCf]; exact func11) results11 rfl (hR _ _ _ ?_))
  exact ⟨rfl, false, rfl, by simp⟩
 | true =>
 repeat (first | refine rS ?_ | refine Run.region ?_ | refine Ops.nil ?_ | refine rK ?_ | refine rF rfl ?_ | refine Ops.gtr rfl (by decide) rfl rfl ?_ | refine oP rfl ?_ | refine Ops.lenS T rfl (by decide) rfl rfl ?_ | refine Ops.load 0 rfl (by decide) rfl rfl (T.aggOk rfl) rfl ?_)
 refine Run.cond rfl rfl (fun h9 => ?_) (fun h9 => ?_)
 all_goals (try rw [h9])
 all_goals (try simp only [decide_eq_true_eq, decide_eq_false_iff_not, Bool.not_eq_true', Bool.not_eq_false', Bool.and_eq_true, Bool.or_eq_true, Bool.and_eq_false_imp, Bool.or_eq_false_iff] at h9)
 ·skip
  repeat (first | refine rS ?_ | refine Run.region ?_ | refine Ops.nil ?_ | refine oP rfl ?_)
  refine Run.fin (Run.ret1 (by rw [hCf]; exact func11) results11 rfl (hR _ _ _ ?_))
  exact ⟨rfl, false, rfl, by simp⟩
 repeat (first | refine rS ?_ | refine Run.region ?_ | refine Ops.nil ?_ | refine rK ?_ | refine oP rfl ?_)
 refine Run.fin (Run.ret1 (by rw [hCf]; exact func11) results11 rfl (hR _ _ _ ?_))
 exact ⟨rfl, true, rfl, fun _ => ⟨by simp only; omega, g0 rfl, by simp only; omega, g1 rfl, g2 rfl, g3 rfl, by simp only; omega⟩⟩
theorem laws_zzFits29 (I : Imm) (xs : List Ds) (v : Value) (hS : Sl tDs I v xs) : Pure prog 12 [v] I fun w J => ∃ r, w = .bool r /\ (r = true -> xs.length <= 2147483647 /\ ∀ x ∈ xs, fitDs x) := by
 refine Spec.enter 18 [(0, _)] func12 rfl ntmps12 (by simp) rfl ?_
 intro C hCf hR hCI
 repeat (first | refine rS ?_ | refine Run.region ?_ | refine Ops.nil ?_ | refine oP rfl ?_)
 refine Ops.lenSl (hS) rfl dc rfl (T.undOk rfl) ?_
 repeat (first | refine Ops.nil ?_ | refine Ops.gtr rfl (by decide) rfl rfl ?_)
 refine Run.cond rfl rfl (fun h => ?_) (fun h => ?_)
 all_goals (try rw [h])
 all_goals (try simp only [decide_eq_true_eq, decide_eq_false_iff_not, Bool.not_eq_true', Bool.not_eq_false', Bool.and_eq_true, Bool.or_eq_true, Bool.and_eq_false_imp, Bool.or_eq_false_iff] at h)
 ·skip
  repeat (first | refine rS ?_ | refine Run.region ?_ | refine Ops.nil ?_ | refine oP rfl ?_)
  refine Run.fin (Run.ret1 (by rw [hCf]; exact func12) results12 rfl (hR _ _ _ ?_))
  exact ⟨rfl, false, rfl, by simp⟩
 repeat (first | refine rS ?_ | refine Run.region ?_ | refine rK ?_ | refine oP rfl ?_)
 refine Ops.lenSl (hS) rfl dc rfl (T.undOk rfl) ?_
 repeat (first | refine Ops.nil ?_ | refine rB ?_ | refine oP rfl ?_)
 refine Run.keep [8, 9, 10] [_, _, _] rfl ?_
 refine Run.rounds (fun m env L J => ∃ i : Nat, m = xs.length - i /\ i <= xs.length /\ (∀ x ∈ xs.take i, fitDs x) /\ env = [(8, v), (9, .int .i64 xs.length), (10, .int .i64 i)] /\ L = [] /\ Le I J) xs.length ⟨0, by omega, by omega, by simp, rfl, rfl, Le.refl _⟩ ?_
 rintro m env L J ⟨i, rfl, hi, hall, rfl, rfl, hle⟩ ih
 repeat (first | refine rS ?_ | refine Run.region ?_ | refine Ops.nil ?_ | refine Ops.lss rfl (by decide) rfl rfl ?_)
 refine Run.cond rfl rfl (fun h2 => ?_) (fun h2 => ?_)
 all_goals (try rw [h2])
 all_goals (try simp only [decide_eq_true_eq, decide_eq_false_iff_not, Bool.not_eq_true', Bool.not_eq_false', Bool.and_eq_true, Bool.or_eq_true, Bool.and_eq_false_imp, Bool.or_eq_false_iff] at h2)
 ·skip
  repeat (first | refine rS ?_ | refine Run.region ?_ | refine rK ?_ | refine rB ?_)
  refine Ops.indexSl (hS.mono hle) rfl dc rfl rfl (T.undOk rfl) (T.sizeOk rfl) (by omega) (by omega) ?_
  rintro b_ off_ x cs_ hx hr_ hA_
  obtain ⟨A, a, A', a', A2, a2, hr_, hsl⟩ := hr_
  subst hr_
  refine Ops.loadIN rfl dc rfl (hA_) (T.aggOk rfl) (T.sizeOk rfl) rfl (Ops.alloc rfl dc (T.zeroOk rfl) rfl (fun b2 => ?_))
  repeat (first | refine rS ?_ | refine Run.region ?_ | refine Ops.nil ?_ | refine Ops.loadN 0 rfl (by decide) rfl rfl (T.aggOk rfl) (T.sizeOk rfl) rfl rfl ?_ | refine Ops.store 0 rfl rfl rfl rfl rfl (T.sizeOk rfl) rfl (lb rfl) rfl rfl ?_)
  refine Ops.call ((laws_zzFits22 J x _ _ _ _ _ _ _ _ _ hsl)) rfl dc call11 rfl ?_
  rintro _ J2 hle2 ⟨r, rfl, hr⟩
  repeat (first | refine Ops.nil ?_ | refine oP rfl ?_)
  rw [Int.toNat_natCast] at hx
  cases r with
  | false =>
   repeat (first | refine rS ?_ | refine Run.region ?_ | refine Ops.nil ?_ | refine rT rfl ?_ | refine oP rfl ?_)
   refine Run.fin (Run.ret1 (by rw [hCf]; exact func12) results12 rfl (hR _ _ _ ?_))
   exact ⟨rfl, false, rfl, by simp⟩
  | true =>
   repeat (first | refine Run.region ?_ | refine Ops.nil ?_ | refine rK ?_ | refine rI ?_ | refine rF rfl ?_ | refine Ops.add rfl (by decide) rfl rfl (wI (by first | omega | (simp only [List.length_cons, List.length_nil] ; omega) | (simp; omega)) (by first | omega | (simp only [List.length_cons, List.length_nil] ; omega) | (simp; omega))) ?_ | refine oP rfl ?_)
   refine Run.fin ?_
   refine Run.keep [8, 9, 10] [_, _, _] rfl ?_
   refine ih (xs.length - (i + 1)) _ _ _ (by omega) ⟨i + 1, rfl, by omega, ?_, rfl, rfl, hle.trans hle2⟩
   intro y hy
   rw [List.take_add_one, hx] at hy
   rcases List.mem_append.1 hy with hy | hy
   ·exact hall y hy
   ·simp at hy; subst hy; exact hr rfl
 ·have : i = xs.length := by omega
  subst this
  repeat (first | refine rS ?_ | refine Run.region ?_ | refine Ops.nil ?_ | refine Run.exit rfl ?_ | refine oP rfl ?_)
  refine Run.fin (Run.ret1 (by rw [hCf]; exact func12) results12 rfl (hR _ _ _ ?_))
  exact ⟨rfl, true, rfl, fun _ => ⟨by omega, by simpa using hall⟩⟩
structure Mf where
 idx : Bool
 ver : Int
 media : List UInt8
 cfg : Ds
 lays : List Ds
 anns : List K2
 subj : List Ds
 art : List UInt8
def Mf.cs (m : Mf) (u v w l a s : Value) : List Value := [.bool m.idx, .int .i64 m.ver, str m.media, str m.cfg.media, .int .i64 m.cfg.size, str m.cfg.dig.1, str m.cfg.dig.2, str m.cfg.data, u, v, w, str m.cfg.art, l, a, s, str m.art]
def MfL (I : Imm) (m : Mf) (u v w l a s : Value) : Prop := DsL I m.cfg u v w /\ Sl tDs I l m.lays /\ Sl tK2 I a m.anns /\ Sl tDs I s m.subj
theorem MfL.mono {I J : Imm} {m : Mf} {u v w l a s : Value} (h : MfL I m u v w l a s) (hle : Le I J) : MfL J m u v w l a s := ⟨h.1.mono hle, h.2.1.mono hle, h.2.2.1.mono hle, h.2.2.2.mono hle⟩
def fitMf (m : Mf) : Prop := m.media.length <= 2147483647 /\ fitDs m.cfg /\ (m.lays.length <= 2147483647 /\ ∀ x ∈ m.lays, fitDs x) /\ (m.anns.length <= 2147483647 /\ ∀ x ∈ m.anns, fit2 x) /\ (m.subj.length <= 2147483647 /\ ∀ x ∈ m.subj, fitDs x) /\ m.art.length <= 2147483647
set_option maxHeartbeats 1000000 in
theorem laws_zzFits28 (I : Imm) (m : Mf) (A1 : Option Addr) (n1 c1 : Nat) (A2 : Option Addr) (n2 c2 : Nat) (A3 : Option Addr) (n3 c3 : Nat) (A4 : Option Addr) (n4 c4 : Nat) (A5 : Option Addr) (n5 c5 : Nat) (A6 : Option Addr) (n6 c6 : Nat)
  (hL : MfL I m (.slice A1 n1 c1) (.slice A2 n2 c2) (.slice A3 n3 c3) (.slice A4 n4 c4) (.slice A5 n5 c5) (.slice A6 n6 c6)) :
  Pure prog 4 [.agg (m.cs (.slice A1 n1 c1) (.slice A2 n2 c2) (.slice A3 n3 c3) (.slice A4 n4 c4) (.slice A5 n5 c5) (.slice A6 n6 c6)).toArray] I fun w J => ∃ r, w = .bool r /\ (r = true -> fitMf m) := by
 obtain ⟨idx, ver, media, cfg, lays, anns, subj, art⟩ := m
 obtain ⟨hd, hl, ha, hs⟩ := hL
 simp only at hd hl ha hs
 refine Spec.enter 27 [(0, _)] func4 rfl ntmps4 (by simp) rfl ?_
 intro C hCf hR hCI
 refine rS ?_; refine Run.region ?_
 refine Ops.box rfl dc rfl rfl (fun b => ?_)
 repeat (first | refine rS ?_ | refine Run.region ?_ | refine Ops.nil ?_ | refine Ops.gtr rfl (by decide) rfl rfl ?_ | refine oP rfl ?_ | refine Ops.lenS T rfl (by decide) rfl rfl ?_ | refine Ops.load 0 rfl (by decide) rfl rfl (T.aggOk rfl) rfl ?_)
 refine Run.cond rfl rfl (fun h1 => ?_) (fun h1 => ?_)
 all_goals (try rw [h1])
 all_goals (try simp only [decide_eq_true_eq, decide_eq_false_iff_not, Bool.not_eq_true', Bool.not_eq_false', Bool.and_eq_true, Bool.or_eq_true, Bool.and_eq_false_imp, Bool.or_eq_false_iff] at h1)
 ·skip
  repeat (first | refine rS ?_ | refine Run.region ?_ | refine Ops.nil ?_ | refine oP rfl ?_)
  refine Run.fin (Run.ret1 (by rw [hCf]; exact func4) results4 rfl (hR _ _ _ ?_))
  exact ⟨rfl, false, rfl, by simp⟩
 repeat (first | refine rS ?_ | refine Run.region ?_ | refine rK ?_ | refine oP rfl ?_ | refine Ops.loadN 0 rfl (by decide) rfl rfl (T.aggOk rfl) (T.sizeOk rfl) rfl rfl ?_)
 refine Ops.call ((laws_zzFits22 I cfg _ _ _ _ _ _ _ _ _ hd)) rfl dc call11 rfl ?_
 rintro _ J0 l0 ⟨r0, rfl, g0⟩
 repeat (first | refine Ops.nil ?_ | refine oP rfl ?_)
 cases r0 with
 | false =>
  repeat (first | refine rS ?_ | refine Run.region ?_ | refine Ops.nil ?_ | refine rT rfl ?_ | refine oP rfl ?_)
  refine Run.fin (Run.ret1 (by rw [hCf]; exact func4) results4 rfl (hR _ _ _ ?_))
  exact ⟨rfl, false, rfl, by simp⟩
 | true =>
 repeat (first | refine rS ?_ | refine Run.region ?_ | refine rK ?_ | refine rF rfl ?_ | refine oP rfl ?_ | refine Ops.load 0 rfl (by decide) rfl rfl (T.aggOk rfl) rfl ?_)
 refine Ops.call ((laws_zzFits29 J0 lays _ (hl.mono l0))) rfl dc call12 rfl ?_
 rintro _ J1 l1 ⟨r1, rfl, g1⟩
 repeat (first | refine Ops.nil ?_ | refine oP rfl ?_)
 cases r1 with
 | false =>
  repeat (first | refine rS ?_ | refine Run.region ?_ | refine Ops.nil ?_ | refine rT rfl ?_ | refine oP rfl ?_)
  refine Run.fin (Run.ret1 (by rw [hCf]; exact func4) results4 rfl (hR _ _ _ ?_))
  exact ⟨rfl, false, rfl, by simp⟩
 | true =>
 repeat (first | refine rS ?_ | refine Run.region ?_ | refine rK ?_ | refine rF rfl ?_ | refine oP rfl ?_ | refine Ops.load 0 rfl (by decide) rfl rfl (T.aggOk rfl) rfl ?_)
 refine Ops.call ((laws_zzFits13 J1 anns _ (ha.mono (l0.trans l1)))) rfl dc call13 rfl ?_
 rintro _ J2 l2 ⟨r2, rfl, g2⟩
 repeat (first | refine Ops.nil ?_ | refine oP rfl ?_)
 cases r2 with
 | false =>
  repeat (first | refine rS ?_ | refine Run.region ?_ | refine Ops.nil ?_ | refine rT rfl ?_ | refine oP rfl ?_)
  refine Run.fin (Run.ret1 (by rw [hCf]; exact func4) results4 rfl (hR _ _ _ ?_))
  exact ⟨rfl, false, rfl, by simp⟩
 | true =>
 repeat (first | refine rS ?_ | refine Run.region ?_ | refine rK ?_ | refine rF rfl ?_ | refine oP rfl ?_ | refine Ops.load 0 rfl (by decide) rfl rfl (T.aggOk rfl) rfl ?_)
 refine Ops.call ((laws_zzFits29 J2 subj _ (hs.mono ((l0.trans l1).trans l2)))) rfl dc call12 rfl ?_
 rintro _ J3 l3 ⟨r3, rfl, g3⟩
 repeat (first | refine Ops.nil ?_ | refine oP rfl ?_)
 cases r3 with
 | false =>
  repeat (first | refine rS ?_ | refine Run.region ?_ | refine Ops.nil ?_ | refine rT rfl ?_ | refine oP rfl ?_)
  refine Run.fin (Run.ret1 (by rw [hCf]; exact func4) results4 rfl (hR _ _ _ ?_))
  exact ⟨rfl, false, rfl, by simp⟩
 | true =>
 repeat (first | refine rS ?_ | refine Run.region ?_ | refine Ops.nil ?_ | refine rK ?_ | refine rF rfl ?_ | refine Ops.gtr rfl (by decide) rfl rfl ?_ | refine oP rfl ?_ | refine Ops.lenS T rfl (by decide) rfl rfl ?_ | refine Ops.load 0 rfl (by decide) rfl rfl (T.aggOk rfl) rfl ?_)
 refine Run.cond rfl rfl (fun h9 => ?_) (fun h9 => ?_)
 all_goals (try rw [h9])
 all_goals (try simp only [decide_eq_true_eq, decide_eq_false_iff_not, Bool.not_eq_true', Bool.not_eq_false', Bool.and_eq_true, Bool.or_eq_true, Bool.and_eq_false_imp, Bool.or_eq_false_iff] at h9)
 ·skip
  repeat (first | refine rS ?_ | refine Run.region ?_ | refine Ops.nil ?_ | refine oP rfl ?_)
  refine Run.fin (Run.ret1 (by rw [hCf]; exact func4) results4 rfl (hR _ _ _ ?_))
  exact ⟨rfl, false, rfl, by simp⟩
 repeat (first | refine rS ?_ | refine Run.region ?_ | refine Ops.nil ?_ | refine rK ?_ | refine oP rfl ?_)
 refine Run.fin (Run.ret1 (by rw [hCf]; exact func4) results4 rfl (hR _ _ _ ?_))
 exact ⟨rfl, true, rfl, fun _ => ⟨by simp only; omega, g0 rfl, g1 rfl, g2 rfl, g3 rfl, by simp only; omega⟩⟩
end Go.V
namespace Go.V
open Go.Proofs.Tryz
open Go.RowKit
set_option maxRecDepth 10000
attribute [local irreducible] Run Ops QD
theorem encR_dig (k : Nat) (h : k < 10) : encR (48 + (k : Int)) = [UInt8.ofNat (48 + k)] := by
 rw [encR_ascii _ (by omega) (by omega)]
 congr 2
theorem dgF_app (f m : Nat) (h : 0 < m) (s : Bs) : dgF f (m / 10) ++ ([UInt8.ofNat (48 + m % 10)] ++ s) = dgF (f + 1) m ++ s := by
 rw [dgF_step f m s h]; rfl
theorem tmP (m : Nat) : ((m : Nat) : Int).tmod 10 = ((m % 10 : Nat) : Int) := rfl
theorem tmN (m : Nat) : (-((m : Nat) : Int)).tmod 10 = -((m % 10 : Nat) : Int) := by rw [Int.neg_tmod]; rfl
theorem tdP (m : Nat) : ((m : Nat) : Int).tdiv 10 = ((m / 10 : Nat) : Int) := rfl
theorem tdN (m : Nat) : (-((m : Nat) : Int)).tdiv 10 = -((m / 10 : Nat) : Int) := by rw [Int.neg_tdiv]; rfl
set_option maxHeartbeats 4000000 in
theorem spec_jNumber (I : Imm) (n : Int) (h1 : -9223372036854775808 <= n) (h2 : n <= 9223372036854775807) : Pure prog 19 [.int .i64 n] I fun w J => w = .agg [.int .u8 110, str (numT n), .slice none 0 0].toArray := by
 refine Spec.enter 32 [(0, _)] func19 rfl ntmps19 (by simp) rfl ?_
 intro C hCf hR hCI
 refine rS ?_
 refine Run.region (Ops.alloc rfl dc (T.zeroOk rfl) rfl (fun b2 => (Ops.nil ?_)))
 repeat refine rS ?_
 by_cases h0 : n = 0
 ·subst h0
  refine rO (fun Z hZ => (eE rfl (fE (Ev.eqlI rfl rfl) (zN hZ ?_))))
  repeat (first | refine rS ?_ | refine rT rfl ?_)
  refine Run.region (Ops.buildL bd38 rfl dc rfl rfl (Ops.store 0 rfl rfl rfl rfl rfl (T.sizeOk rfl) rfl (lb rfl) rfl rfl (Ops.nil ?_)))
  skip
  refine Run.retC T 0 (by rw [hCf]; exact func19) results19 rfl rfl rfl rfl rfl rfl (hR _ _ _ ?_)
  exact ⟨rfl, rfl⟩
 ·skip
  refine rO (fun Z hZ => (eE rfl (kF (Ev.eqlI rfl rfl) h0 (zN hZ ?_))))
  repeat (first | refine rS ?_ | refine rK ?_ | refine rF rfl ?_)
  by_cases hneg : n < 0
  ·skip
   refine rO (fun Z hZ => (eE rfl (kT (Ev.lss rfl rfl) hneg (eE rfl (eE rfl (zN hZ ?_))))))
   refine rS ?_; refine rB ?_
   refine Run.keep [0, 2, 3, 4] [_, _, _, _] rfl ?_
   refine Run.rounds (fun mm env L J => ∃ (k m : Nat) (s : Bs), mm = m /\ k <= 20 /\ m < 10 ^ (20 - k) /\ m <= 9223372036854775808 /\ dgF (20 - k) m ++ s = dgF 20 n.natAbs /\ env = [(0, .int .i64 (-(m : Int))), (2, .pointer (some ⟨b2, 0, none⟩)), (3, str s), (4, .bool true)] /\ L = [(b2, blk [.int .u8 0, str [], .slice none 0 0] 38)] /\ I = J) n.natAbs ⟨0, n.natAbs, [], rfl, by omega, by show _ < 10 ^ 20; omega, by omega, by simp, by rw [show -((n.natAbs : Nat) : Int) = n by omega]; rfl, rfl, rfl⟩ ?_
   rintro m env L J ⟨k, _, s, rfl, hk, hmb, hm63, hs, rfl, rfl, rfl⟩ ih
   have hsl : s.length <= 20 := by have := congrArg List.length hs; rw [List.length_append] at this; have := dgF_len 20 n.natAbs; omega
   by_cases hm : m = 0
   ·subst hm
    rw [dgF_zero, List.nil_append] at hs
    subst hs
    repeat refine rS ?_
    refine rO (fun Z hZ => (eE rfl (fE ((Ev.neqI rfl rfl).as (show _ = Value.bool false from congrArg Value.bool (by simp))) (zN hZ ?_))))
    repeat (first | refine rS ?_ | refine Run.exit rfl ?_ | refine rF rfl ?_)
    refine rO (fun Z hZ => (eE rfl (zN hZ ((rT rfl (rO (fun Z hZ => (eE rfl (fE (Ev.catS rfl rfl (by simp; omega)) (eE rfl (zN hZ ((rS (Run.region (oP rfl (Ops.buildL bd38 rfl dc rfl rfl (Ops.store 0 rfl rfl rfl rfl rfl (T.sizeOk rfl) rfl (lb rfl) rfl rfl (Ops.nil ?_))))))))))))))))))
    skip
    refine Run.retC T 0 (by rw [hCf]; exact func19) results19 rfl rfl rfl rfl rfl rfl (hR _ _ _ ?_)
    refine ⟨rfl, ?_⟩
    show _ = Value.agg [.int .u8 110, str (numT n), .slice none 0 0].toArray
    unfold numT
    rw [if_neg h0, if_pos hneg]
    rfl
   ·skip
    repeat refine rS ?_
    refine rO (fun Z hZ => (eE rfl (fE ((Ev.neqI rfl rfl).as (show _ = Value.bool true from congrArg Value.bool (by simp; omega))) (zN hZ ?_))))
    repeat (first | refine rS ?_ | refine rK ?_ | refine rB ?_ | refine rT rfl ?_)
    have hk20 : k < 20 := by
     refine Nat.lt_of_not_le fun h => ?_
     have : k = 20 := by omega
     subst this
     simp at hmb
     omega
    refine rO (fun Z hZ => (eE rfl (fE (Ev.remI (r := -((m % 10 : Nat) : Int)) rfl rfl dc (tmN m)) (eE rfl (zN hZ ?_)))))
    repeat refine rS ?_
    refine rO (fun Z hZ => (eE rfl (fE (Ev.lss rfl rfl) (zN hZ ?_))))
    skip
    refine Run.keep [0, 2, 3, 4, 5, 16] [_, _, _, _, _, _] rfl ?_
    refine Run.piece (fun env' L' I' => env' = [(0, .int .i64 (-(m : Int))), (2, .pointer (some ⟨b2, 0, none⟩)), (3, str s), (4, .bool true), (5, .int .i64 ((m % 10 : Nat) : Int))] /\ L' = [(b2, blk [.int .u8 0, str [], .slice none 0 0] 38)] /\ I = I') ?_ ?_
    ·intro k' fin
     by_cases hd : m % 10 = 0
     ·rw [show decide (-((m % 10 : Nat) : Int) < 0) = false from decide_eq_false (by omega)]
      repeat (first | refine rK ?_ | refine rF rfl ?_)
      refine Run.keep [0, 2, 3, 4, 5] [_, _, _, _, _] rfl ?_
      exact fin _ _ _ ⟨by rw [hd]; rfl, rfl, rfl⟩
     ·rw [show decide (-((m % 10 : Nat) : Int) < 0) = true from decide_eq_true (by omega)]
      refine rT rfl ?_
      refine rO (fun Z hZ => (eE rfl (fE (Ev.negI (r := ((m % 10 : Nat) : Int)) rfl (by rw [wI (by omega) (by omega)]; omega)) (eE rfl (zN hZ ?_)))))
      skip
      refine Run.keep [0, 2, 3, 4, 5] [_, _, _, _, _] rfl ?_
      exact fin _ _ _ ⟨rfl, rfl, rfl⟩
    rintro env L J ⟨rfl, rfl, rfl⟩
    refine rS ?_
    refine rO (fun Z hZ => (eE rfl (fE (Ev.addK (r := 48 + ((m % 10 : Nat) : Int)) rfl rfl (by rw [wI (by omega) (by omega)])) (fE (Ev.conv (r := 48 + ((m % 10 : Nat) : Int)) T rfl rfl rfl (wI32 (by omega) (by omega))) (fE ((Ev.convRuneV T rfl rfl rfl).as (show _ = str [UInt8.ofNat (48 + m % 10)] from by rw [encR_dig _ (by omega)])) (eE rfl (fE (Ev.catS rfl rfl (by simp; omega)) (eE rfl (zN hZ ?_)))))))))
    skip
    refine rO (fun Z hZ => (eE rfl (fE (Ev.quoI (r := -((m / 10 : Nat) : Int)) rfl rfl dc (by rw [tdN, wI (by omega) (by omega)])) (eE rfl (zN hZ ((rI (Run.keep [0, 2, 3, 4] [_, _, _, _] rfl ?_))))))))
    obtain ⟨f, hf⟩ : ∃ f, 20 - k = f + 1 := ⟨20 - k - 1, by omega⟩
    refine ih (m / 10) _ _ _ (by omega) ⟨k + 1, m / 10, [UInt8.ofNat (48 + m % 10)] ++ s, rfl, by omega, ?_, by omega, ?_, rfl, rfl, rfl⟩
    ·rw [show 20 - (k + 1) = f by omega]
     rw [hf, Nat.pow_succ] at hmb
     exact Nat.div_lt_of_lt_mul (by omega)
    ·rw [show 20 - (k + 1) = f by omega, dgF_app f m (by omega), <- hf]; exact hs
  ·skip
   refine rO (fun Z hZ => (eE rfl (kF (Ev.lss rfl rfl) hneg (eE rfl (eE rfl (zN hZ ?_))))))
   refine rS ?_; refine rB ?_
   refine Run.keep [0, 2, 3, 4] [_, _, _, _] rfl ?_
   refine Run.rounds (fun mm env L J => ∃ (k m : Nat) (s : Bs), mm = m /\ k <= 20 /\ m < 10 ^ (20 - k) /\ m <= 9223372036854775808 /\ dgF (20 - k) m ++ s = dgF 20 n.natAbs /\ env = [(0, .int .i64 (m : Int)), (2, .pointer (some ⟨b2, 0, none⟩)), (3, str s), (4, .bool false)] /\ L = [(b2, blk [.int .u8 0, str [], .slice none 0 0] 38)] /\ I = J) n.natAbs ⟨0, n.natAbs, [], rfl, by omega, by show _ < 10 ^ 20; omega, by omega, by simp, by rw [show ((n.natAbs : Nat) : Int) = n by omega]; rfl, rfl, rfl⟩ ?_
   rintro m env L J ⟨k, _, s, rfl, hk, hmb, hm63, hs, rfl, rfl, rfl⟩ ih
   have hsl : s.length <= 20 := by have := congrArg List.length hs; rw [List.length_append] at this; have := dgF_len 20 n.natAbs; omega
   by_cases hm : m = 0
   ·subst hm
    rw [dgF_zero, List.nil_append] at hs
    subst hs
    repeat refine rS ?_
    refine rO (fun Z hZ => (eE rfl (fE ((Ev.neqI rfl rfl).as (show _ = Value.bool false from congrArg Value.bool (by simp))) (zN hZ ?_))))
    repeat (first | refine rS ?_ | refine Run.exit rfl ?_ | refine rF rfl ?_)
    refine rO (fun Z hZ => (eE rfl (zN hZ ?_)))
    repeat (first | refine rS ?_ | refine rK ?_ | refine rF rfl ?_)
    skip
    refine Run.region (oP rfl (Ops.buildL bd38 rfl dc rfl rfl (Ops.store 0 rfl rfl rfl rfl rfl (T.sizeOk rfl) rfl (lb rfl) rfl rfl (Ops.nil ?_))))
    skip
    refine Run.retC T 0 (by rw [hCf]; exact func19) results19 rfl rfl rfl rfl rfl rfl (hR _ _ _ ?_)
    refine ⟨rfl, ?_⟩
    show _ = Value.agg [.int .u8 110, str (numT n), .slice none 0 0].toArray
    unfold numT
    rw [if_neg h0, if_neg hneg]
    rfl
   ·skip
    repeat refine rS ?_
    refine rO (fun Z hZ => (eE rfl (fE ((Ev.neqI rfl rfl).as (show _ = Value.bool true from congrArg Value.bool (by simp; omega))) (zN hZ ?_))))
    repeat (first | refine rS ?_ | refine rK ?_ | refine rB ?_ | refine rT rfl ?_)
    have hk20 : k < 20 := by
     refine Nat.lt_of_not_le fun h => ?_
     have : k = 20 := by omega
     subst this
     simp at hmb
     omega
    refine rO (fun Z hZ => (eE rfl (fE (Ev.remI (r := ((m % 10 : Nat) : Int)) rfl rfl dc (tmP m)) (eE rfl (zN hZ ?_)))))
    repeat refine rS ?_
    refine rO (fun Z hZ => (eE rfl (kF (Ev.lss rfl rfl) (by omega) (zN hZ ?_))))
    repeat (first | refine rS ?_ | refine rK ?_ | refine rF rfl ?_)
    refine rO (fun Z hZ => (eE rfl (fE (Ev.addK (r := 48 + ((m % 10 : Nat) : Int)) rfl rfl (by rw [wI (by omega) (by omega)])) (fE (Ev.conv (r := 48 + ((m % 10 : Nat) : Int)) T rfl rfl rfl (wI32 (by omega) (by omega))) (fE ((Ev.convRuneV T rfl rfl rfl).as (show _ = str [UInt8.ofNat (48 + m % 10)] from by rw [encR_dig _ (by omega)])) (eE rfl (fE (Ev.catS rfl rfl (by simp; omega)) (eE rfl (zN hZ ?_)))))))))
    skip
    refine rO (fun Z hZ => (eE rfl (fE (Ev.quoI (r := ((m / 10 : Nat) : Int)) rfl rfl dc (by rw [tdP, wI (by omega) (by omega)])) (eE rfl (zN hZ ((rI (Run.keep [0, 2, 3, 4] [_, _, _, _] rfl ?_))))))))
    obtain ⟨f, hf⟩ : ∃ f, 20 - k = f + 1 := ⟨20 - k - 1, by omega⟩
    refine ih (m / 10) _ _ _ (by omega) ⟨k + 1, m / 10, [UInt8.ofNat (48 + m % 10)] ++ s, rfl, by omega, ?_, by omega, ?_, rfl, rfl, rfl⟩
    ·rw [show 20 - (k + 1) = f by omega]
     rw [hf, Nat.pow_succ] at hmb
     exact Nat.div_lt_of_lt_mul (by omega)
    ·rw [show 20 - (k + 1) = f by omega, dgF_app f m (by omega), <- hf]; exact hs
end Go.V
namespace Go.V
open Go.Proofs.Tryz
open Go.RowKit
set_option maxRecDepth 10000
attribute [local irreducible] Run Ops QD
def lsJ (l : List Bs) : Js := .mk 108 [] (l.map txJ)
def prJs (l : List K2) : List Js := l.flatMap fun q => [txJ q.1, txJ q.2]
def paJ (l : List K2) : Js := .mk 111 [] (prJs l)
def opL (name : Bs) (l : List Bs) : List Js := if l = [] then [] else [txJ name, lsJ l]
def opP (name : Bs) (l : List K2) : List Js := if l = [] then [] else [txJ name, paJ l]
theorem opJ_len (k s : Bs) : (opJ k s).length <= 2 := by unfold opJ; split <;> simp
theorem opL_len (k : Bs) (l : List Bs) : (opL k l).length <= 2 := by unfold opL; split <;> simp
theorem opP_len (k : Bs) (l : List K2) : (opP k l).length <= 2 := by unfold opP; split <;> simp
theorem nuJ_rel (d : Nat) (I : Imm) (n : Int) : (tJs (d + 1)).rel I [.int .u8 110, str (numT n), .slice none 0 0] (nuJ n) := ⟨.slice none 0 0, rfl, sl_nil _ _⟩
set_option maxHeartbeats 2000000 in
theorem spec_jTexts (d : Nat) (I : Imm) (xs : List Bs) (v : Value) (hS : Sl tStr I v xs) (hl : xs.length <= 1000000) : Pure prog 53 [v] I fun w J => ∃ vk, w = .agg [.int .u8 108, str [], vk].toArray /\ Sl (tJs (d + 1)) J vk (xs.map txJ) := by
 obtain ⟨A0, c0, rfl⟩ := hS.isSl
 refine Spec.enter 22 [(0, _)] func53 rfl ntmps53 (by simp) rfl ?_
 intro C hCf hR hCI
 refine rS ?_
 refine Run.region (Ops.alloc rfl dc (T.zeroOk rfl) rfl (fun b2 => (Ops.nil (rS (Run.region (Ops.buildL bd38 rfl dc rfl rfl (Ops.alloc rfl dc (T.zeroOk rfl) rfl (fun b3 => (Ops.store 0 rfl rfl rfl rfl rfl (T.sizeOk rfl) rfl (lb rfl) rfl rfl (Ops.nil ?_))))))))))
 repeat refine rS ?_
 refine rO (fun Z hZ => (eE rfl (eE rfl (eE rfl (zN hZ ((rB (Run.keep [2, 3, 7, 8, 9] [_, _, _, _, _] rfl ?_))))))))
 refine Run.rounds (fun m env L J => ∃ (i : Nat) (vk : Value) (M : Own), m = xs.length - i /\ i <= xs.length /\ Gr (tJs (d + 1)) J 38 vk ((xs.take i).map txJ) M /\
  env = [(2, .pointer (some ⟨b2, 0, none⟩)), (3, .pointer (some ⟨b3, 0, none⟩)), (7, .slice A0 xs.length c0), (8, .int .i64 (xs.length : Int)), (9, .int .i64 (i : Int))] /\
  L = (b3, blk [.int .u8 108, str [], vk] 38) :: (b2, blk [.int .u8 0, str [], .slice none 0 0] 38) :: M /\ Le I J) xs.length ⟨0, _, [], by omega, by omega, Gr.nil _ _ _, rfl, rfl, Le.refl _⟩ ?_
 rintro m env L J ⟨i, vk, M, rfl, hi, hG, rfl, rfl, hle⟩ ih
 by_cases hlt : i < xs.length
 ·skip
  refine rS ?_
  refine rO (fun Z hZ => (kT (Ev.lss rfl rfl) (by omega) (zN hZ ?_)))
  repeat (first | refine rS ?_ | refine rK ?_ | refine rB ?_ | refine rT rfl ?_)
  refine Run.region (Ops.indexSl (j := (i : Int)) (hS.mono hle) rfl dc rfl rfl (T.undOk rfl) (T.sizeOk rfl) (by omega) (by omega) fun bb off q cs hq hr hA => ?_)
  obtain rfl : cs = [str q] := hr
  rw [Int.toNat_natCast] at hq
  refine Ops.loadI rfl dc rfl hA (T.aggOk rfl) (oP rfl (Ops.nil ?_))
  skip
  have hkl : ((xs.take i).map txJ).length <= 1000000 := by rw [List.length_map, List.length_take]; omega
  refine Run.regionL [7] (Holds J []) (Holds J [(b3, blk [.int .u8 108, str [], vk] 38)]) (bl 8 0) (by kernel_rfl) (by kernel_rfl) (fun W h => ⟨h.holds (Le.refl _) (by first | exact mp rfl | exact mq rfl | exact mr rfl), h.holds (Le.refl _) (by first | exact mp rfl | exact mq rfl | exact mr rfl)⟩) (RAnyL.tk 0 (bl 8 1) rfl (by kernel_rfl) dc rfl (T := fun _ => True) (.inl fun _ _ => trivial) (Yld.eval T rfl rfl) (RAnyL.tk 1 (bl 8 3) rfl (by kernel_rfl) dc rfl (.inr ⟨by kernel_rfl, fun _ h => h⟩) (Yld.load 0 T rfl rfl rfl rfl rfl) (RAnyL.tk 2 (bl 8 7) rfl (by kernel_rfl) dc rfl (T := fun _ => True) (.inl fun _ _ => trivial) (Yld.eval T rfl rfl) (RAnyL.on 3 (bl 8 15) rfl (by kernel_rfl) rfl dc (Eff.call (spec_jText J q) call38 rfl fun y J2 l2 hy => ⟨⟨fun W h => h.holds l2 (fun _ h => by cases h), .inr fun W h => h.holds l2 (by exact mp rfl)⟩, ?_⟩)))))
  obtain rfl := hy
  refine RAnyL.on 4 (bl 8 31) rfl (by kernel_rfl) rfl dc (Eff.lit T rfl rfl rfl dc dc rfl rfl rfl rfl rfl fun bq => ⟨⟨fun W h => h.holds l2 (fun _ h => by cases h), .inr fun W h => h.holds l2 (by exact mq rfl)⟩, (RAnyL.on 5 (bl 8 63) rfl (by kernel_rfl) rfl dc (Eff.appOneP (t := tJs (d + 1)) (b := bq) (M := M) (N := [_, _, _]) el36 (hG.mono l2) (txJ_rel d J2 q) rfl rfl (List.perm_append_comm (l₁ := [_, _, _]) (l₂ := M)) List.mem_cons_self rfl (by omega) (by omega) fun v' M' hG' => ⟨⟨fun W h => h.holds l2 (fun _ h => by cases h), .inr fun W h => h.holds l2 (by intro x hx; rcases List.mem_singleton.1 hx with rfl; exact List.mem_append_right _ (List.mem_cons_of_mem _ List.mem_cons_self))⟩, ?_⟩))⟩)
  obtain ⟨A', c', rfl⟩ := hG'.isSl
  refine RAnyL.perm (List.perm_append_comm (l₁ := M') (l₂ := [_, _, _])) ?_
  skip
  refine RAnyL.tk 6 (bl 8 127) rfl (by kernel_rfl) dc rfl (T := fun _ => True) (.inl fun _ _ => trivial) (Yld.eval T rfl rfl) (RAnyL.os 7 (bl 8 255) rfl (by kernel_rfl) rfl (Eff.store 1 rfl rfl rfl rfl (T.sizeOk rfl) rfl (lb rfl) rfl rfl ⟨⟨fun W h => h.holds l2 (fun _ h => by cases h), .inl rfl⟩, (RAnyL.done _ (by kernel_rfl) ?_)⟩))
  skip
  refine rI ?_
  refine Run.dropL (List.sublist_cons_self _ _) ?_
  refine rO (fun Z hZ => (fE (Ev.addK (r := ((i + 1 : Nat) : Int)) rfl rfl (by rw [wI (by omega) (by omega)]; omega)) (eE rfl (zN hZ ?_))))
  skip
  refine Run.keep [2, 3, 7, 8, 9] [_, _, _, _, _] rfl ?_
  refine ih (xs.length - (i + 1)) _ _ _ (by omega) ⟨i + 1, _, M', rfl, by omega, ?_, rfl, rfl, hle.trans l2⟩
  obtain ⟨hi', rfl⟩ := List.getElem?_eq_some_iff.1 hq
  rw [List.take_succ_eq_append_getElem hi', List.map_append]
  exact hG'
 ·obtain rfl : i = xs.length := by omega
  rw [List.take_length] at hG
  refine rS ?_
  refine rO (fun Z hZ => (kF (Ev.lss rfl rfl) (by omega) (zN hZ ?_)))
  repeat (first | refine rS ?_ | refine Run.exit rfl ?_ | refine rF rfl ?_)
  refine Run.keepGr hG (N := [_, _]) (List.perm_append_comm (l₁ := [_, _]) (l₂ := M)) fun J5 l5 hSl => ?_
  obtain ⟨A', c', rfl⟩ := hSl.isSl
  refine Run.region (Ops.loadN 0 rfl dc rfl rfl (T.aggOk rfl) (T.sizeOk rfl) rfl rfl (Ops.store 1 rfl rfl rfl rfl rfl (T.sizeOk rfl) rfl (lb rfl) rfl rfl (Ops.nil ?_)))
  skip
  refine Run.retC T 1 (by rw [hCf]; exact func53) results53 rfl rfl rfl rfl rfl rfl (hR _ _ _ ?_)
  exact ⟨rfl, _, rfl, hSl⟩
theorem object_texts (d : Nat) (I : Imm) (b : Nat) (name : Bs) (xs : List Bs) (v : Value) (hS : Sl tStr I v xs) (hl : xs.length <= 1000000) (kids : List Js) (vk : Value) (M : Own) (hG : Gr (tJs (d + 2)) I 38 vk kids M) (hkl : kids.length <= 1000000) :
  Spec prog 41 [.pointer (some ⟨b, 0, none⟩), str name, v] I ((b, obj vk) :: M) fun _ J N => ∃ vk' M', N = (b, obj vk') :: M' /\ Gr (tJs (d + 2)) J 38 vk' (kids ++ opL name xs) M' := by
 obtain ⟨A0, c0, rfl⟩ := hS.isSl
 refine Spec.enter 14 [(0, _), (1, _), (2, _)] func41 rfl ntmps41 (by simp) rfl ?_
 intro C hCf hR hCI
 refine rS ?_
 by_cases h0 : xs = []
 ·subst h0
  refine rO (fun Z hZ => (eE rfl (eE rfl (fE (Ev.gtr rfl rfl) (zN hZ ?_)))))
  repeat (first | refine rK ?_ | refine rF rfl ?_)
  refine Run.end0 (by rw [hCf]; exact func41) results41 (hR _ _ _ ?_)
  exact ⟨vk, M, rfl, by simpa [opL] using hG⟩
 ·have hp := List.length_pos_iff.2 h0
  refine rO (fun Z hZ => (eE rfl (eE rfl (kT (Ev.gtr rfl rfl) (by omega) (zN hZ ((rT rfl (rP 3 (fun Z hZ => (eE rfl (eE rfl (eE rfl (zN hZ ((Ops.call ((spec_jTexts d I xs _ hS hl)) rfl dc call53 rfl ?_)))))))))))))))
  rintro y J1 l1 ⟨vl, rfl, hSl⟩
  refine Ops.callP (N := []) (object_put (d + 1) J1 b name _ (lsJ xs) kids vk M (hG.mono l1) ⟨vl, rfl, hSl⟩ hkl) (.refl _) rfl dc call18 rfl ?_
  rintro y J2 N2 l2 ⟨vk2, M2, rfl, hG2⟩
  refine Ops.nil ?_
  skip
  refine Run.end0 (by rw [hCf]; exact func41) results41 (hR _ _ _ ?_)
  exact ⟨vk2, M2, rfl, by rw [opL, if_neg h0]; exact hG2⟩
end Go.V
namespace Go.V
set_option maxRecDepth 10000
abbrev NJ := Bs × Js
def pairsJ (l : List NJ) : List Js := l.flatMap fun q => [txJ q.1, q.2]
theorem pairsJ_app (a b : List NJ) : pairsJ (a ++ b) = pairsJ a ++ pairsJ b := by simp [pairsJ]
theorem membs_pairs {R : Bool -> Js -> JV -> Prop} {fixed : Bool} : ∀ (l : List NJ) (base : List (Bs × JV)), Membs R fixed (pairsJ l) base -> All2 (fun q m => q.1 = m.1 /\ R (fixed && !(fixed && freeN q.1)) q.2 m.2) l base
 | [], base, h => by
  cases base with
  | nil => exact .nil
  | cons m ms => exact h.elim
 | q :: l, base, h => by
  cases base with
  | nil => exact h.elim
  | cons m ms => exact .cons ⟨h.1, h.2.1⟩ (membs_pairs l ms h.2.2)
theorem All2.mem {α β : Type} {R : α -> β -> Prop} {l : List α} {m : List β} (h : All2 R l m) : ∀ y ∈ m, ∃ x ∈ l, R x y := by
 induction h with
 | nil => intro y hy; cases hy
 | cons h1 _ ih =>
  intro y hy
  rcases List.mem_cons.1 hy with rfl | hy
  ·exact ⟨_, List.mem_cons_self, h1⟩
  ·obtain ⟨x, hx, hr⟩ := ih y hy
   exact ⟨x, List.mem_cons_of_mem _ hx, hr⟩
theorem All2.map_eq {α β γ : Type} {R : α -> β -> Prop} {f : α -> γ} {g : β -> γ} {l : List α} {m : List β} (h : All2 R l m) (hfg : ∀ x y, R x y -> f x = g y) : l.map f = m.map g := by
 induction h with
 | nil => rfl
 | cons h1 _ ih => rw [List.map_cons, List.map_cons, hfg _ _ h1, ih]
def hasF {α : Type} (names : List Bs) (l : List (Bs × α)) (k : Int) : Bool := l.any fun m => decide (fieldR m.1 names = k)
def upd (D : Int -> Bool) (k : Int) : Int -> Bool := fun j => if k = j then true else D j
theorem hasF_snoc {α : Type} (names : List Bs) (l : List (Bs × α)) (m : Bs × α) : hasF names (l ++ [m]) = upd (hasF names l) (fieldR m.1 names) := by
 funext k
 unfold hasF upd
 rw [List.any_append, List.any_cons, List.any_nil, Bool.or_false]
 split
 ·rename_i h; rw [decide_eq_true h, Bool.or_true]
 ·rename_i h; rw [decide_eq_false h, Bool.or_false]
def apart {α : Type} (names : List Bs) (ms : List (Bs × α)) : Prop := ms.Pairwise fun a b => fieldR a.1 names = fieldR b.1 names -> fieldR a.1 names = -1
theorem apart_take {names : List Bs} {ms : List (Bs × JV)} (h : apart names ms) {i : Nat} {m : Bs × JV} (hm : ms[i]? = some m) (hf : fieldR m.1 names ≠ -1) : hasF names (ms.take i) (fieldR m.1 names) = false := by
 rw [Bool.eq_false_iff]
 intro hc
 obtain ⟨y, hy, he⟩ := List.any_eq_true.1 hc
 obtain ⟨j, hj, rfl⟩ := List.mem_iff_getElem.1 hy
 obtain ⟨hi, rfl⟩ := List.getElem?_eq_some_iff.1 hm
 rw [List.getElem_take] at he
 rw [List.length_take] at hj
 have := (List.pairwise_iff_getElem.1 h) j i (by omega) hi (by omega) (of_decide_eq_true he)
 exact hf ((of_decide_eq_true he).symm.trans this)
def obR (names : List Bs) (Mb : Bs × JV -> Prop) (E : (Int -> Bool) -> Prop) (v : JV) : Prop :=
 v.kind = 123 /\ ∃ ms : List (Bs × JV), v.keys = ms.map Prod.fst /\ v.kids = ms.map Prod.snd /\ ms.length <= 1000000 /\ (∀ m ∈ ms, Mb m) /\ apart names ms /\ E (hasF names ms)
theorem rep_obj {d : Nat} {t : Bs} {K : List NJ} {v : JV} (names : List Bs) (h : Rep (d + 1) true (.mk 111 t (pairsJ K)) v) (hK : (K.map fun q => fieldR q.1 names).Nodup) (hu : fieldR unkM.1 names = -1) (hl : K.length <= 900000)
  {Mb : Bs × JV -> Prop} (hm : ∀ q ∈ K, ∀ y, Rep d (!freeN q.1) q.2 y -> Mb (q.1, y)) (hun : Mb unkM) : obR names Mb (fun D => ∀ k, k ≠ -1 -> D k = hasF names K k) v := by
 unfold Rep at h
 rw [if_neg (show ((Js.mk 111 t (pairsJ K)).kind ≠ 115) from (by decide : (111 : UInt8) ≠ 115)), if_neg (show ((Js.mk 111 t (pairsJ K)).kind ≠ 108) from (by decide : (111 : UInt8) ≠ 108)), if_pos (show (Js.mk 111 t (pairsJ K)).kind = 111 from rfl)] at h
 obtain ⟨base, ms, rfl, hM, hp⟩ := h
 have hA := membs_pairs K base hM
 have hlen := hA.length
 have hk : K.map (fun q => fieldR q.1 names) = base.map fun q => fieldR q.1 names := hA.map_eq fun x y h => by rw [h.1]
 have hmb : ∀ m ∈ base, Mb m := fun m hmm => by
  obtain ⟨q, hq, h1, h2⟩ := hA.mem m hmm
  simp only [Bool.true_and] at h2
  have := hm q hq m.2 h2
  rw [h1] at this; exact this
 have hap : apart names base := by
  rw [hk] at hK
  exact (List.pairwise_map.1 hK).imp fun hne he => absurd he hne
 have hhas : hasF names K = hasF names base := by
  funext k
  have e : ∀ {α : Type} (l : List (Bs × α)), hasF names l k = (l.map fun q => fieldR q.1 names).any fun x => decide (x = k) := fun l => by rw [List.any_map]; rfl
  rw [e, e, hk]
 have hsym : ∀ {x y : Bs × JV}, (fieldR x.1 names = fieldR y.1 names -> fieldR x.1 names = -1) -> fieldR y.1 names = fieldR x.1 names -> fieldR y.1 names = -1 := fun h he => by rw [he]; exact h he.symm
 have hany : ∀ {l m : List (Bs × JV)}, l.Perm m -> hasF names l = hasF names m := fun hp => by
  funext k
  unfold hasF
  exact hp.any_eq
 simp only [if_true] at hp
 refine ⟨rfl, ms, rfl, rfl, ?_⟩
 rcases hp with hp | hp
 ·exact ⟨by rw [<- hp.length_eq]; omega, fun m hmm => hmb m (hp.symm.subset hmm), (hp.pairwise_iff hsym).1 hap, fun k _ => by rw [<- hany hp, hhas]⟩
 ·refine ⟨by rw [<- hp.length_eq, List.length_append, List.length_singleton]; omega, fun m hmm => ?_, (hp.pairwise_iff hsym).1 ?_, fun k hne => ?_⟩
  ·rcases List.mem_append.1 (hp.symm.subset hmm) with h | h
   ·exact hmb m h
   ·rw [List.mem_singleton.1 h]; exact hun
  ·refine List.pairwise_append.2 ⟨hap, List.pairwise_singleton _ _, fun a ha b hb he => ?_⟩
   rw [List.mem_singleton.1 hb, hu] at he
   exact he
  ·rw [<- hany hp, hasF_snoc, <- hhas, hu]
   simp [upd, Ne.symm hne]
theorem rep_tx {d : Nat} {fx : Bool} {s : Bs} {v : JV} (h : Rep (d + 1) fx (txJ s) v) : v.kind = 34 /\ v.text = s := by
 unfold Rep at h
 rw [if_pos (show (txJ s).kind = 115 from rfl)] at h
 obtain ⟨p, rfl⟩ := h
 exact ⟨rfl, rfl⟩
theorem rep_li {d : Nat} {fx : Bool} {t : Bs} {l : List Js} {v : JV} (h : Rep (d + 1) fx (.mk 108 t l) v) : v.kind = 91 /\ All2 (Rep d fx) l v.kids := by
 unfold Rep at h
 rw [if_neg (show ((Js.mk 108 t l).kind ≠ 115) from (by decide : (108 : UInt8) ≠ 115)), if_pos (show (Js.mk 108 t l).kind = 108 from rfl)] at h
 obtain ⟨vs, rfl, h⟩ := h
 exact ⟨rfl, h⟩
theorem rep_lit {d : Nat} {fx : Bool} {t : Bs} {k : List Js} {v w : JV} (h : Rep (d + 1) fx (.mk 110 t k) v) (hw : LitR t w) : v = w := by
 unfold Rep at h
 rw [if_neg (show ((Js.mk 110 t k).kind ≠ 115) from (by decide : (110 : UInt8) ≠ 115)), if_neg (show ((Js.mk 110 t k).kind ≠ 108) from (by decide : (110 : UInt8) ≠ 108)), if_neg (show ((Js.mk 110 t k).kind ≠ 111) from (by decide : (110 : UInt8) ≠ 111))] at h
 have h1 := h 0 [44] (.inl rfl)
 have h2 := hw 0 [44] (.inl rfl)
 rw [show (Js.mk 110 t k).text = t from rfl] at h1
 rw [h1] at h2
 exact (Prod.mk.inj (Option.some.inj h2)).1
def lsR (v : JV) (l : List Bs) : Prop := v.kind = 91 /\ (∀ y ∈ v.kids, y.kind = 34) /\ (v.kids.map fun y => y.text) = l
theorem rep_ls {d : Nat} {fx : Bool} {l : List Bs} {v : JV} (h : Rep (d + 2) fx (lsJ l) v) : lsR v l := by
 obtain ⟨h1, h2⟩ := rep_li h
 refine ⟨h1, fun y hy => ?_, ?_⟩
 ·obtain ⟨x, hx, hr⟩ := h2.mem y hy
  obtain ⟨s, _, rfl⟩ := List.mem_map.1 hx
  exact (rep_tx hr).1
 ·have h3 : ∀ (l : List Bs) (m : List JV), All2 (Rep (d + 1) fx) (l.map txJ) m -> (m.map fun y => y.text) = l := by
   intro l
   induction l with
   | nil => intro m h; cases h; rfl
   | cons s l ih =>
    intro m h
    cases h with
    | cons a b => rw [List.map_cons, (rep_tx a).2, ih _ b]
  exact h3 l _ h2
def paR (v : JV) (l : List K2) : Prop := v.kind = 123 /\ v.keys.length = v.kids.length /\ (∀ y ∈ v.kids, y.kind = 34) /\ ((v.keys.zip v.kids).map fun p => (p.1, p.2.text)) = l
theorem rep_pa {d : Nat} {l : List K2} {v : JV} (h : Rep (d + 2) false (paJ l) v) : paR v l := by
 have e : prJs l = pairsJ (l.map fun q => (q.1, txJ q.2)) := by
  unfold prJs pairsJ
  rw [List.flatMap_map]
 unfold Rep at h
 rw [if_neg (show ((paJ l).kind ≠ 115) from (by decide : (111 : UInt8) ≠ 115)), if_neg (show ((paJ l).kind ≠ 108) from (by decide : (111 : UInt8) ≠ 108)), if_pos (show (paJ l).kind = 111 from rfl)] at h
 obtain ⟨base, ms, rfl, hM, hp⟩ := h
 rw [show (paJ l).kids = prJs l from rfl, e] at hM
 have hA := membs_pairs _ _ hM
 simp only [Bool.false_eq_true, if_false] at hp
 subst hp
 refine ⟨rfl, by show (ms.map Prod.fst).length = (ms.map Prod.snd).length; simp, fun y hy => ?_, ?_⟩
 ·obtain ⟨m, hm, rfl⟩ := List.mem_map.1 hy
  obtain ⟨q, hq, h1, h2⟩ := hA.mem m hm
  obtain ⟨x, hx, rfl⟩ := List.mem_map.1 hq
  exact (rep_tx h2).1
 ·show (((ms.map Prod.fst).zip (ms.map Prod.snd)).map fun p => (p.1, p.2.text)) = l
  rw [List.zip_map', List.map_map]
  have h3 : ∀ (l : List K2) (ms : List (Bs × JV)), All2 (fun q m => q.1 = m.1 /\ Rep (d + 1) (false && !(false && freeN q.1)) q.2 m.2) (l.map fun q => ((q.1, txJ q.2) : NJ)) ms -> ms.map ((fun p : Bs × JV => (p.1, p.2.text)) ∘ fun p => (p.1, p.2)) = l := by
   intro l
   induction l with
   | nil => intro m h; cases h; rfl
   | cons s l ih =>
    intro m h
    cases h with
    | cons a b =>
     rw [List.map_cons, ih _ b]
     obtain ⟨a1, a2⟩ := a
     simp only [Function.comp, (rep_tx a2).2, <- a1]
  exact h3 l ms hA
end Go.V
namespace Go.V
set_option maxRecDepth 10000
def sumL (l : List Bs) : Nat := (l.map fun x => x.length + 1).sum
theorem sumL_append (a b : List Bs) : sumL (a ++ b) = sumL a + sumL b := by simp [sumL]
theorem sumL_perm {a b : List Bs} (h : a.Perm b) : sumL a = sumL b := by
 induction h with
 | nil => rfl
 | cons x _ ih => simp only [sumL, List.map_cons, List.sum_cons] at *; omega
 | swap x y l => simp only [sumL, List.map_cons, List.sum_cons]; omega
 | trans _ _ h1 h2 => exact h1.trans h2
theorem joinC_sum : ∀ l : List Bs, (joinC l).length <= sumL l
 | [] => Nat.zero_le _
 | t :: r => by
  have := joinC_sum r
  rw [joinC_cons]
  simp only [sumL, List.map_cons, List.sum_cons] at *
  split
  ·omega
  ·rw [List.length_append, List.length_cons]; omega
theorem blk5_le (w : Bs) : (blk5 w).1.length <= 3 := by
 have h : ∀ b ∈ blks, b.length <= 3 := by decide
 unfold blk5
 rw [List.getD_eq_getElem?_getD]
 cases hk : blks[(tk 5 w).1]? with
 | none => simp
 | some b => exact h b (List.mem_of_getElem? hk)
def cost : Nat -> Js -> Nat
 | 0, j => 12 * j.text.length + 60
 | d + 1, j => 12 * j.text.length + 60 + (j.kids.map fun k => cost d k + 1).sum
def csum (d : Nat) (l : List Js) : Nat := (l.map fun k => cost d k + 1).sum
theorem csum_append (d : Nat) (a b : List Js) : csum d (a ++ b) = csum d a + csum d b := by simp [csum]
theorem csum_cons (d : Nat) (a : Js) (l : List Js) : csum d (a :: l) = cost d a + 1 + csum d l := by simp [csum]
theorem cost_succ (d : Nat) (j : Js) : cost (d + 1) j = 12 * j.text.length + 60 + csum d j.kids := rfl
theorem cost_ge (d : Nat) (j : Js) : 12 * j.text.length + 60 <= cost d j := by
 cases d with
 | zero => exact Nat.le_refl _
 | succ d => rw [cost_succ]; omega
theorem csum_le (d : Nat) (B : Nat) : ∀ l : List Js, (∀ x ∈ l, cost d x <= B) -> csum d l <= l.length * (B + 1)
 | [], _ => by simp [csum]
 | x :: l, h => by
  have := csum_le d B l fun y hy => h y (by simp [hy])
  have h1 := h x (by simp)
  rw [csum_cons, List.length_cons, Nat.add_mul]; omega
theorem wlist_sum {d : Nat} {fixed : Bool} (hv : ∀ (j : Js) (w : Bs), Fine d j -> (wval d j fixed w).1.length <= cost d j) : ∀ (l : List Js) (w : Bs), (∀ x ∈ l, Fine d x) -> sumL (wlist (fun x w => wval d x fixed w) l w).1 <= csum d l
 | [], w, _ => Nat.le_refl _
 | x :: l, w, h => by
  have h1 := hv x w (h x (by simp))
  have h2 := wlist_sum hv l (wval d x fixed w).2 fun y hy => h y (by simp [hy])
  rw [csum_cons]
  show ((wval d x fixed w).1.length + 1) + sumL (wlist (fun x w => wval d x fixed w) l (wval d x fixed w).2).1 <= _
  omega
theorem wpairs_sum {d : Nat} (hq : ∀ s : Bs, GoodT s -> ∀ w, (wquo s w).1.length <= 12 * s.length + 2) (hv : ∀ (j : Js) (fixed : Bool) (w : Bs), Fine d j -> (wval d j fixed w).1.length <= cost d j) (fixed : Bool) : ∀ (n : Nat) (l : List Js) (w : Bs), l.length <= n -> FineM (Fine d) l -> sumL (wpairs (wval d) fixed l w).1 <= csum d l
 | 0, l, w, hn, h => by
  have : l = [] := List.eq_nil_of_length_eq_zero (by omega)
  subst this
  exact Nat.le_refl _
 | n + 1, l, w, hn, h => by
  match l, h with
  | [], _ => exact Nat.le_refl _
  | name :: v :: r, ⟨k1, k2, k3⟩ =>
   have h1 := blk5_le w
   have h2 := hq name.text k1 (blk5 w).2
   have h3 := blk5_le (wquo name.text (blk5 w).2).2
   have h4 := hv v (fixed && !(fixed && freeN name.text)) (blk5 (wquo name.text (blk5 w).2).2).2 k2
   have h5 := wpairs_sum hq hv fixed n r (wmem (wval d) fixed name v w).2 (by simp only [List.length_cons] at hn; omega) k3
   have h6 := cost_ge d name
   rw [csum_cons, csum_cons]
   show ((wmem (wval d) fixed name v w).1.length + 1) + sumL (wpairs (wval d) fixed r (wmem (wval d) fixed name v w).2).1 <= _
   have hm : (wmem (wval d) fixed name v w).1.length <= 12 * name.text.length + 9 + cost d v := by
    show ((blk5 w).1 ++ (wquo name.text (blk5 w).2).1 ++ (blk5 (wquo name.text (blk5 w).2).2).1 ++ [58] ++ (wval d v (fixed && !(fixed && freeN name.text)) (blk5 (wquo name.text (blk5 w).2).2).2).1).length <= _
    simp only [List.length_append, List.length_cons, List.length_nil]; omega
   omega
theorem wfix_sum (fixed : Bool) (p : List Bs) (w : Bs) : sumL (wfix fixed p w).1 <= sumL p + 44 := by
 unfold wfix
 cases fixed with
 | false => simp only [Bool.false_eq_true, if_false]; omega
 | true =>
  simp only [if_true]
  split
  ·rw [<- sumL_perm (shuf_perm _ _ _), sumL_append]
   have : sumL [unkT] <= 44 := by decide
   omega
  ·rw [<- sumL_perm (shuf_perm _ _ _)]; omega
theorem wval_le (hq : ∀ s : Bs, GoodT s -> ∀ w, (wquo s w).1.length <= 12 * s.length + 2) : ∀ (d : Nat) (j : Js) (fixed : Bool) (w : Bs), Fine d j -> (wval d j fixed w).1.length <= cost d j
 | 0, j, fixed, w, h => h.elim
 | d + 1, j, fixed, w, h => by
  have hb1 := blk5_le w
  rw [cost_succ]
  unfold Fine at h
  unfold wval
  simp only
  by_cases hs : j.kind = 115
  ·rw [if_pos hs] at h
   rw [if_pos hs]
   have h2 := hq j.text h (blk5 w).2
   have h3 := blk5_le (wquo j.text (blk5 w).2).2
   simp only [List.length_append]; omega
  rw [if_neg hs] at h
  rw [if_neg hs]
  by_cases hl : j.kind = 108
  ·rw [if_pos hl] at h
   rw [if_pos hl]
   have h2 := wlist_sum (fun x w hx => wval_le hq d x fixed w hx) j.kids (blk5 w).2 h
   generalize wlist (fun x w => wval d x fixed w) j.kids (blk5 w).2 = q at *
   have h3 := joinC_sum q.1
   have h4 := blk5_le q.2
   have h5 := blk5_le (blk5 q.2).2
   simp only [List.length_append, List.length_cons, List.length_nil]; omega
  rw [if_neg hl] at h
  rw [if_neg hl]
  by_cases ho : j.kind = 111
  ·rw [if_pos ho] at h
   rw [if_pos ho]
   have h2 := wpairs_sum hq (wval_le hq d) fixed _ j.kids (blk5 w).2 (Nat.le_refl _) h
   generalize wpairs (wval d) fixed j.kids (blk5 w).2 = p at *
   have h6 := wfix_sum fixed p.1 p.2
   generalize wfix fixed p.1 p.2 = q at *
   have h3 := joinC_sum q.1
   have h4 := blk5_le q.2
   have h5 := blk5_le (blk5 q.2).2
   simp only [List.length_append, List.length_cons, List.length_nil]; omega
  ·rw [if_neg ho]
   have h2 := blk5_le (blk5 w).2
   simp only [List.length_append]; omega
theorem FineM.append {R : Js -> Prop} : ∀ (n : Nat) (a : List Js), a.length <= n -> ∀ {b : List Js}, FineM R a -> FineM R b -> FineM R (a ++ b)
 | 0, a, hn, b, h, k => by
  have : a = [] := List.eq_nil_of_length_eq_zero (by omega)
  subst this; exact k
 | n + 1, a, hn, b, h, k => by
  match a, h with
  | [], _ => exact k
  | x :: y :: r, ⟨h1, h2, h3⟩ => exact ⟨h1, h2, FineM.append n r (by simp only [List.length_cons] at hn; omega) h3 k⟩
end Go.V
