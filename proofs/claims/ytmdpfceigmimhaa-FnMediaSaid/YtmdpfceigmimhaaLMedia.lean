/-
  The law of the media types: it returns true.
-/
import Derived.Test.YtmdpfceigmimhaaKMedia3
namespace Go.V
open Go.RowKit
set_option linter.unusedVariables false
set_option linter.unusedSimpArgs false
set_option maxRecDepth 10000
attribute [local irreducible] Run Ops

theorem mt_all : ∀ i < 18, mtTells (mtKnown.getD i []) = mtFold (mtKnown.getD i []) 18 := by decide +kernel
theorem mt_idx : (mtTells (mtKnown.getD 1 [])).idx = true := by decide +kernel

theorem laws_FnMedia (I : Imm) (v : Value) (x : Int) (hv : Val (.int .u8) I v x) (hx : (Cd.int .u8).ok x) : Pure Proofs.Try.prog 4 [v] I fun v _ => v = .bool true := by
  obtain rfl : v = .int .u8 x := hv.int
  have hx' : 0 ≤ x ∧ x ≤ 255 := okU8 hx
  refine Spec.enter 30 [(0, _)] Proofs.Try.func4 rfl Proofs.Try.ntmps4 (by simp) rfl ?_
  intro C hCf hR hCI
  repeat (first | refine Run.seq ?_ | refine Run.region ?_ | refine Ops.nil ?_ | refine Ops.not rfl (by decide) ?_ | refine Ops.notS rfl ?_ | refine Ops.pure T rfl (by decide) rfl ?_ | refine Ops.load 0 rfl (by decide) rfl rfl (T.aggOk rfl) rfl ?_ | refine Ops.load 1 rfl (by decide) rfl rfl (T.aggOk rfl) rfl ?_ | refine Ops.load 2 rfl (by decide) rfl rfl (T.aggOk rfl) rfl ?_ | refine Ops.load 3 rfl (by decide) rfl rfl (T.aggOk rfl) rfl ?_ | refine Ops.load 4 rfl (by decide) rfl rfl (T.aggOk rfl) rfl ?_ | refine Ops.load 5 rfl (by decide) rfl rfl (T.aggOk rfl) rfl ?_ | refine Ops.fieldN rfl (by decide) rfl (T.undOk rfl) rfl (T.aggOk rfl) (T.sizeOk rfl) rfl ?_)
  refine Ops.call ((spec_MediaKnown I)) rfl (by decide) Proofs.Try.call14 rfl ?_
  rintro _ J hle ⟨u, rfl, hu⟩
  repeat (first | refine Run.seq ?_ | refine Run.region ?_ | refine Ops.nil ?_ | refine Ops.not rfl (by decide) ?_ | refine Ops.notS rfl ?_ | refine Ops.pure T rfl (by decide) rfl ?_ | refine Ops.load 0 rfl (by decide) rfl rfl (T.aggOk rfl) rfl ?_ | refine Ops.load 1 rfl (by decide) rfl rfl (T.aggOk rfl) rfl ?_ | refine Ops.load 2 rfl (by decide) rfl rfl (T.aggOk rfl) rfl ?_ | refine Ops.load 3 rfl (by decide) rfl rfl (T.aggOk rfl) rfl ?_ | refine Ops.load 4 rfl (by decide) rfl rfl (T.aggOk rfl) rfl ?_ | refine Ops.load 5 rfl (by decide) rfl rfl (T.aggOk rfl) rfl ?_ | refine Ops.fieldN rfl (by decide) rfl (T.undOk rfl) rfl (T.aggOk rfl) (T.sizeOk rfl) rfl ?_)
  refine Ops.convInt rfl (by decide) (T.undOk rfl) (T.undOk rfl) rfl (wI (by omega) (by omega)) ?_
  repeat (first | refine Run.seq ?_ | refine Run.region ?_ | refine Ops.nil ?_ | refine Ops.not rfl (by decide) ?_ | refine Ops.notS rfl ?_ | refine Ops.pure T rfl (by decide) rfl ?_ | refine Ops.load 0 rfl (by decide) rfl rfl (T.aggOk rfl) rfl ?_ | refine Ops.load 1 rfl (by decide) rfl rfl (T.aggOk rfl) rfl ?_ | refine Ops.load 2 rfl (by decide) rfl rfl (T.aggOk rfl) rfl ?_ | refine Ops.load 3 rfl (by decide) rfl rfl (T.aggOk rfl) rfl ?_ | refine Ops.load 4 rfl (by decide) rfl rfl (T.aggOk rfl) rfl ?_ | refine Ops.load 5 rfl (by decide) rfl rfl (T.aggOk rfl) rfl ?_ | refine Ops.fieldN rfl (by decide) rfl (T.undOk rfl) rfl (T.aggOk rfl) (T.sizeOk rfl) rfl ?_)
  refine Ops.lenSl (hu) rfl (by decide) rfl (T.undOk rfl) ?_
  refine Ops.rem rfl (by decide) rfl rfl (by decide) rfl ?_
  have hmod : x.tmod (mtKnown.length : Int) = x % 18 := Int.tmod_eq_emod_of_nonneg hx'.1
  rw [hmod]
  have hlen : mtKnown.length = 18 := rfl
  refine Ops.indexSl (hu) rfl (by decide) rfl rfl (T.undOk rfl) (T.sizeOk rfl) (by first | omega | (simp only [List.length_cons, List.length_nil] ; omega) | (simp; omega)) (by first | omega | (simp only [List.length_cons, List.length_nil] ; omega) | (simp; omega)) ?_
  rintro b off q cs hq hr hA
  obtain rfl : cs = [str q] := hr
  refine Ops.loadI rfl (by decide) rfl (hA) (T.aggOk rfl) ?_
  repeat (first | refine Run.seq ?_ | refine Run.region ?_ | refine Ops.nil ?_ | refine Ops.not rfl (by decide) ?_ | refine Ops.notS rfl ?_ | refine Ops.pure T rfl (by decide) rfl ?_ | refine Ops.load 0 rfl (by decide) rfl rfl (T.aggOk rfl) rfl ?_ | refine Ops.load 1 rfl (by decide) rfl rfl (T.aggOk rfl) rfl ?_ | refine Ops.load 2 rfl (by decide) rfl rfl (T.aggOk rfl) rfl ?_ | refine Ops.load 3 rfl (by decide) rfl rfl (T.aggOk rfl) rfl ?_ | refine Ops.load 4 rfl (by decide) rfl rfl (T.aggOk rfl) rfl ?_ | refine Ops.load 5 rfl (by decide) rfl rfl (T.aggOk rfl) rfl ?_ | refine Ops.fieldN rfl (by decide) rfl (T.undOk rfl) rfl (T.aggOk rfl) (T.sizeOk rfl) rfl ?_)
  refine Ops.call ((impl_MediaTells q J)) rfl (by decide) Proofs.Try.call15 rfl ?_
  rintro _ J1 hle1 rfl
  repeat (first | refine Run.seq ?_ | refine Run.region ?_ | refine Ops.nil ?_ | refine Ops.not rfl (by decide) ?_ | refine Ops.notS rfl ?_ | refine Ops.pure T rfl (by decide) rfl ?_ | refine Ops.load 0 rfl (by decide) rfl rfl (T.aggOk rfl) rfl ?_ | refine Ops.load 1 rfl (by decide) rfl rfl (T.aggOk rfl) rfl ?_ | refine Ops.load 2 rfl (by decide) rfl rfl (T.aggOk rfl) rfl ?_ | refine Ops.load 3 rfl (by decide) rfl rfl (T.aggOk rfl) rfl ?_ | refine Ops.load 4 rfl (by decide) rfl rfl (T.aggOk rfl) rfl ?_ | refine Ops.load 5 rfl (by decide) rfl rfl (T.aggOk rfl) rfl ?_ | refine Ops.fieldN rfl (by decide) rfl (T.undOk rfl) rfl (T.aggOk rfl) (T.sizeOk rfl) rfl ?_)
  refine Ops.call ((spec_MediaOf q J1)) rfl (by decide) Proofs.Try.call16 rfl ?_
  rintro _ J2 hle2 rfl
  have hu2 := (hu.mono hle1).mono hle2
  have hi : (x % 18).toNat < 18 := by omega
  have hq' : mtKnown.getD (x % 18).toNat [] = q := by rw [List.getD_eq_getElem?_getD, hq]; rfl
  have he : mtTells q = mtFold q 18 := by rw [← hq']; exact mt_all _ hi
  rw [← he]
  generalize mtTells q = m
  refine Ops.eqlAgg T [34] (by kernel_rfl) rfl rfl (by decide) rfl rfl rfl ?_
  simp only [beq_self_eq_true, Bool.and_self]
  repeat (first | refine Run.seq ?_ | refine Run.region ?_ | refine Ops.nil ?_ | refine Ops.not rfl (by decide) ?_ | refine Ops.notS rfl ?_ | refine Ops.pure T rfl (by decide) rfl ?_ | refine Ops.load 0 rfl (by decide) rfl rfl (T.aggOk rfl) rfl ?_ | refine Ops.load 1 rfl (by decide) rfl rfl (T.aggOk rfl) rfl ?_ | refine Ops.load 2 rfl (by decide) rfl rfl (T.aggOk rfl) rfl ?_ | refine Ops.load 3 rfl (by decide) rfl rfl (T.aggOk rfl) rfl ?_ | refine Ops.load 4 rfl (by decide) rfl rfl (T.aggOk rfl) rfl ?_ | refine Ops.load 5 rfl (by decide) rfl rfl (T.aggOk rfl) rfl ?_ | refine Ops.fieldN rfl (by decide) rfl (T.undOk rfl) rfl (T.aggOk rfl) (T.sizeOk rfl) rfl ?_)
  refine Ops.indexSl (hu2) rfl (by decide) rfl rfl (T.undOk rfl) (T.sizeOk rfl) (by first | omega | (simp only [List.length_cons, List.length_nil] ; omega) | (simp; omega)) (by first | omega | (simp only [List.length_cons, List.length_nil] ; omega) | (simp; omega)) ?_
  rintro b3 off3 q3 cs3 hq3 hr3 hA3
  obtain rfl : cs3 = [str q3] := hr3
  refine Ops.loadI rfl (by decide) rfl (hA3) (T.aggOk rfl) ?_
  refine Ops.call ((impl_MediaTells q3 J2)) rfl (by decide) Proofs.Try.call15 rfl ?_
  rintro _ J3 hle3 rfl
  have hq3' : mtKnown.getD 1 [] = q3 := by rw [List.getD_eq_getElem?_getD]; exact congrArg (fun o => o.getD []) hq3
  have h3 := mt_idx
  rw [hq3'] at h3
  generalize mtTells q3 = m3 at h3
  obtain ⟨a1, a2, a3, a4, a5, a6⟩ := m3
  obtain rfl : a4 = true := h3
  repeat (first | refine Run.seq ?_ | refine Run.region ?_ | refine Ops.nil ?_ | refine Ops.not rfl (by decide) ?_ | refine Ops.notS rfl ?_ | refine Ops.pure T rfl (by decide) rfl ?_ | refine Ops.load 0 rfl (by decide) rfl rfl (T.aggOk rfl) rfl ?_ | refine Ops.load 1 rfl (by decide) rfl rfl (T.aggOk rfl) rfl ?_ | refine Ops.load 2 rfl (by decide) rfl rfl (T.aggOk rfl) rfl ?_ | refine Ops.load 3 rfl (by decide) rfl rfl (T.aggOk rfl) rfl ?_ | refine Ops.load 4 rfl (by decide) rfl rfl (T.aggOk rfl) rfl ?_ | refine Ops.load 5 rfl (by decide) rfl rfl (T.aggOk rfl) rfl ?_ | refine Ops.fieldN rfl (by decide) rfl (T.undOk rfl) rfl (T.aggOk rfl) (T.sizeOk rfl) rfl ?_)
  refine Run.ret1 (by rw [hCf]; exact Proofs.Try.func4) Proofs.Try.results4 rfl (hR _ _ _ ?_)
  exact ⟨rfl, rfl⟩
end Go.V
