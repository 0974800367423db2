/-
  Platforms written as texts: by the package, by the document.
-/
import Derived.Test.YtmdpfceigmimhaaKPlat3
import Derived.Test.YtmdpfceigmimhaaKBld
namespace Go.V
open Go.RowKit
set_option linter.unusedVariables false
set_option linter.unusedSimpArgs false
set_option maxRecDepth 10000
attribute [local irreducible] Run Ops

theorem impl_copied (I : Imm) (xs : List (List UInt8)) (v : Value) (h : Sl tStr I v xs) (hlen : xs.length ≤ 2147483647) : Pure Proofs.Try.prog 67 [v] I fun w J => Sl tStr J w xs := by
  have h0 := h
  obtain ⟨A, c, rfl, hc, hrow⟩ := h0
  refine Spec.enter 8 [(0, _)] Proofs.Try.func67 rfl Proofs.Try.ntmps67 (by simp) rfl ?_
  intro C hCf hR hCI
  repeat (first | refine Run.seq ?_ | refine Run.region ?_ | refine Ops.nil ?_ | refine Run.skip ?_ | refine Run.cond_t rfl ?_ | refine Run.cond_f rfl ?_ | refine Ops.eqlNil T rfl (by decide) rfl rfl rfl rfl rfl ?_ | refine Ops.pure T rfl (by decide) rfl ?_)
  cases A with
  | none =>
    have : xs = [] := by
      rcases hrow with h | ⟨b, off, h, _⟩
      · exact h
      · cases h
    subst this
    repeat (first | refine Run.seq ?_ | refine Run.region ?_ | refine Ops.nil ?_ | refine Run.skip ?_ | refine Run.cond_t rfl ?_ | refine Run.cond_f rfl ?_ | refine Ops.eqlNil T rfl (by decide) rfl rfl rfl rfl rfl ?_ | refine Ops.pure T rfl (by decide) rfl ?_)
    refine Run.fin (Run.ret1 (by rw [hCf]; exact Proofs.Try.func67) Proofs.Try.results67 rfl (hR _ _ _ ?_))
    exact ⟨rfl, Sl.nil _ _⟩
  | some a =>
    repeat (first | refine Run.seq ?_ | refine Run.region ?_ | refine Ops.nil ?_ | refine Run.skip ?_ | refine Run.cond_t rfl ?_ | refine Run.cond_f rfl ?_ | refine Ops.eqlNil T rfl (by decide) rfl rfl rfl rfl rfl ?_ | refine Ops.pure T rfl (by decide) rfl ?_)
    refine Ops.lit T rfl rfl rfl (by decide) rfl (by decide) (by decide) rfl rfl rfl rfl rfl (fun b => ?_)
    repeat (first | refine Run.seq ?_ | refine Run.region ?_ | refine Ops.nil ?_ | refine Run.skip ?_ | refine Run.cond_t rfl ?_ | refine Run.cond_f rfl ?_ | refine Ops.eqlNil T rfl (by decide) rfl rfl rfl rfl rfl ?_ | refine Ops.pure T rfl (by decide) rfl ?_)
    refine Ops.appSl (N := []) el30 (Gr.lit0 tStr I _ b) h (fun _ h => h.one_str) rfl (by decide) rfl rfl rfl (by simp; omega) (by simp; omega) ?_
    rintro v' M' hG
    refine Ops.keepG (N := []) hG rfl fun J hle hS => ?_
    repeat (first | refine Run.seq ?_ | refine Run.region ?_ | refine Ops.nil ?_ | refine Run.skip ?_ | refine Run.cond_t rfl ?_ | refine Run.cond_f rfl ?_ | refine Ops.eqlNil T rfl (by decide) rfl rfl rfl rfl rfl ?_ | refine Ops.pure T rfl (by decide) rfl ?_)
    refine Run.fin (Run.ret1 (by rw [hCf]; exact Proofs.Try.func67) Proofs.Try.results67 rfl (hR _ _ _ ?_))
    exact ⟨rfl, by simpa using hS⟩

/-- a platform's text -/
def pfText (p : Pf) : List UInt8 := p.os ++ (if p.arch = [] then [] else 47 :: p.arch) ++ (if p.var = [] then [] else 47 :: p.var) ++ (if p.ver = [] then [] else 58 :: p.ver)

theorem spec_PlatformTell (I : Imm) (p : Pf) (A A' : Option Addr) (a a' c c' : Nat) (h : p.os.length + p.arch.length + p.var.length + p.ver.length ≤ 70368744177600) :
    Pure Proofs.Try.prog 26 [.agg (p.cs (.slice A a c) (.slice A' a' c')).toArray] I fun w J => w = str (pfText p) := by
  obtain ⟨arch, os, ver, var⟩ := p
  simp only at h
  have e1 : ∀ x : List UInt8, (if x = [] then [] else 47 :: x).length ≤ x.length + 1 := by intro x; split <;> simp
  have e2 := e1 arch
  have e3 := e1 var
  refine Spec.enter 31 [(0, _)] Proofs.Try.func26 rfl Proofs.Try.ntmps26 (by simp) rfl ?_
  intro C hCf hR hCI
  repeat (first | refine Run.seq ?_ | refine Run.region ?_ | refine Ops.nil ?_ | refine Run.skip ?_ | refine Run.cond_t rfl ?_ | refine Run.cond_f rfl ?_ | refine Ops.cat rfl (by decide) rfl rfl (by first | omega | (simp only [List.length_cons, List.length_nil] ; omega) | (simp; omega)) ?_ | refine Ops.neqStr rfl (by decide) rfl rfl ?_ | refine Ops.pure T rfl (by decide) rfl ?_ | refine Ops.load 0 rfl (by decide) rfl rfl (T.aggOk rfl) rfl ?_ | refine Ops.load 1 rfl (by decide) rfl rfl (T.aggOk rfl) rfl ?_ | refine Ops.load 2 rfl (by decide) rfl rfl (T.aggOk rfl) rfl ?_ | refine Ops.load 3 rfl (by decide) rfl rfl (T.aggOk rfl) rfl ?_ | refine Ops.load 4 rfl (by decide) rfl rfl (T.aggOk rfl) rfl ?_ | refine Ops.load 5 rfl (by decide) rfl rfl (T.aggOk rfl) rfl ?_)
  refine Ops.box rfl (by decide) rfl rfl (fun b => ?_)
  repeat (first | refine Run.seq ?_ | refine Run.region ?_ | refine Ops.nil ?_ | refine Run.skip ?_ | refine Run.cond_t rfl ?_ | refine Run.cond_f rfl ?_ | refine Ops.cat rfl (by decide) rfl rfl (by first | omega | (simp only [List.length_cons, List.length_nil] ; omega) | (simp; omega)) ?_ | refine Ops.neqStr rfl (by decide) rfl rfl ?_ | refine Ops.pure T rfl (by decide) rfl ?_ | refine Ops.load 0 rfl (by decide) rfl rfl (T.aggOk rfl) rfl ?_ | refine Ops.load 1 rfl (by decide) rfl rfl (T.aggOk rfl) rfl ?_ | refine Ops.load 2 rfl (by decide) rfl rfl (T.aggOk rfl) rfl ?_ | refine Ops.load 3 rfl (by decide) rfl rfl (T.aggOk rfl) rfl ?_ | refine Ops.load 4 rfl (by decide) rfl rfl (T.aggOk rfl) rfl ?_ | refine Ops.load 5 rfl (by decide) rfl rfl (T.aggOk rfl) rfl ?_)
  refine Run.merge (fun env' L' I' => env' = [(1, .pointer (some ⟨b, 0, none⟩)), (3, str (os ++ (if arch = [] then [] else 47 :: arch)))] ∧ L' = [(b, blk ((Pf.mk arch os ver var).cs (.slice A a c) (.slice A' a' c')) 38)] ∧ I' = I) rfl ?_ ?_ ?_
  · intro h1 k' fin
    rw [h1]
    simp at h1
    repeat (first | refine Run.seq ?_ | refine Run.region ?_ | refine Ops.nil ?_ | refine Run.skip ?_ | refine Run.cond_t rfl ?_ | refine Run.cond_f rfl ?_ | refine Ops.cat rfl (by decide) rfl rfl (by first | omega | (simp only [List.length_cons, List.length_nil] ; omega) | (simp; omega)) ?_ | refine Ops.neqStr rfl (by decide) rfl rfl ?_ | refine Ops.pure T rfl (by decide) rfl ?_ | refine Ops.load 0 rfl (by decide) rfl rfl (T.aggOk rfl) rfl ?_ | refine Ops.load 1 rfl (by decide) rfl rfl (T.aggOk rfl) rfl ?_ | refine Ops.load 2 rfl (by decide) rfl rfl (T.aggOk rfl) rfl ?_ | refine Ops.load 3 rfl (by decide) rfl rfl (T.aggOk rfl) rfl ?_ | refine Ops.load 4 rfl (by decide) rfl rfl (T.aggOk rfl) rfl ?_ | refine Ops.load 5 rfl (by decide) rfl rfl (T.aggOk rfl) rfl ?_)
    refine Run.keep [1, 3] [_, _] rfl ?_
    refine fin _ _ _ ⟨?_, rfl, rfl⟩
    simp [h1]
  · intro h1 k' fin
    rw [h1]
    simp at h1
    repeat (first | refine Run.seq ?_ | refine Run.region ?_ | refine Ops.nil ?_ | refine Run.skip ?_ | refine Run.cond_t rfl ?_ | refine Run.cond_f rfl ?_ | refine Ops.cat rfl (by decide) rfl rfl (by first | omega | (simp only [List.length_cons, List.length_nil] ; omega) | (simp; omega)) ?_ | refine Ops.neqStr rfl (by decide) rfl rfl ?_ | refine Ops.pure T rfl (by decide) rfl ?_ | refine Ops.load 0 rfl (by decide) rfl rfl (T.aggOk rfl) rfl ?_ | refine Ops.load 1 rfl (by decide) rfl rfl (T.aggOk rfl) rfl ?_ | refine Ops.load 2 rfl (by decide) rfl rfl (T.aggOk rfl) rfl ?_ | refine Ops.load 3 rfl (by decide) rfl rfl (T.aggOk rfl) rfl ?_ | refine Ops.load 4 rfl (by decide) rfl rfl (T.aggOk rfl) rfl ?_ | refine Ops.load 5 rfl (by decide) rfl rfl (T.aggOk rfl) rfl ?_)
    refine Run.keep [1, 3] [_, _] rfl ?_
    refine fin _ _ _ ⟨?_, rfl, rfl⟩
    simp [h1]
  rintro env L I ⟨rfl, rfl, rfl⟩
  repeat (first | refine Run.seq ?_ | refine Run.region ?_ | refine Ops.nil ?_ | refine Run.skip ?_ | refine Run.cond_t rfl ?_ | refine Run.cond_f rfl ?_ | refine Ops.cat rfl (by decide) rfl rfl (by first | omega | (simp only [List.length_cons, List.length_nil] ; omega) | (simp; omega)) ?_ | refine Ops.neqStr rfl (by decide) rfl rfl ?_ | refine Ops.pure T rfl (by decide) rfl ?_ | refine Ops.load 0 rfl (by decide) rfl rfl (T.aggOk rfl) rfl ?_ | refine Ops.load 1 rfl (by decide) rfl rfl (T.aggOk rfl) rfl ?_ | refine Ops.load 2 rfl (by decide) rfl rfl (T.aggOk rfl) rfl ?_ | refine Ops.load 3 rfl (by decide) rfl rfl (T.aggOk rfl) rfl ?_ | refine Ops.load 4 rfl (by decide) rfl rfl (T.aggOk rfl) rfl ?_ | refine Ops.load 5 rfl (by decide) rfl rfl (T.aggOk rfl) rfl ?_)
  refine Run.merge (fun env' L' I' => env' = [(1, .pointer (some ⟨b, 0, none⟩)), (3, str (os ++ (if arch = [] then [] else 47 :: arch) ++ (if var = [] then [] else 47 :: var)))] ∧ L' = [(b, blk ((Pf.mk arch os ver var).cs (.slice A a c) (.slice A' a' c')) 38)] ∧ I' = I) rfl ?_ ?_ ?_
  · intro h1 k' fin
    rw [h1]
    simp at h1
    repeat (first | refine Run.seq ?_ | refine Run.region ?_ | refine Ops.nil ?_ | refine Run.skip ?_ | refine Run.cond_t rfl ?_ | refine Run.cond_f rfl ?_ | refine Ops.cat rfl (by decide) rfl rfl (by first | omega | (simp only [List.length_cons, List.length_nil] ; omega) | (simp; omega)) ?_ | refine Ops.neqStr rfl (by decide) rfl rfl ?_ | refine Ops.pure T rfl (by decide) rfl ?_ | refine Ops.load 0 rfl (by decide) rfl rfl (T.aggOk rfl) rfl ?_ | refine Ops.load 1 rfl (by decide) rfl rfl (T.aggOk rfl) rfl ?_ | refine Ops.load 2 rfl (by decide) rfl rfl (T.aggOk rfl) rfl ?_ | refine Ops.load 3 rfl (by decide) rfl rfl (T.aggOk rfl) rfl ?_ | refine Ops.load 4 rfl (by decide) rfl rfl (T.aggOk rfl) rfl ?_ | refine Ops.load 5 rfl (by decide) rfl rfl (T.aggOk rfl) rfl ?_)
    refine Run.keep [1, 3] [_, _] rfl ?_
    refine fin _ _ _ ⟨?_, rfl, rfl⟩
    simp [h1]
  · intro h1 k' fin
    rw [h1]
    simp at h1
    repeat (first | refine Run.seq ?_ | refine Run.region ?_ | refine Ops.nil ?_ | refine Run.skip ?_ | refine Run.cond_t rfl ?_ | refine Run.cond_f rfl ?_ | refine Ops.cat rfl (by decide) rfl rfl (by first | omega | (simp only [List.length_cons, List.length_nil] ; omega) | (simp; omega)) ?_ | refine Ops.neqStr rfl (by decide) rfl rfl ?_ | refine Ops.pure T rfl (by decide) rfl ?_ | refine Ops.load 0 rfl (by decide) rfl rfl (T.aggOk rfl) rfl ?_ | refine Ops.load 1 rfl (by decide) rfl rfl (T.aggOk rfl) rfl ?_ | refine Ops.load 2 rfl (by decide) rfl rfl (T.aggOk rfl) rfl ?_ | refine Ops.load 3 rfl (by decide) rfl rfl (T.aggOk rfl) rfl ?_ | refine Ops.load 4 rfl (by decide) rfl rfl (T.aggOk rfl) rfl ?_ | refine Ops.load 5 rfl (by decide) rfl rfl (T.aggOk rfl) rfl ?_)
    refine Run.keep [1, 3] [_, _] rfl ?_
    refine fin _ _ _ ⟨?_, rfl, rfl⟩
    simp [h1]
  rintro env L I ⟨rfl, rfl, rfl⟩
  repeat (first | refine Run.seq ?_ | refine Run.region ?_ | refine Ops.nil ?_ | refine Run.skip ?_ | refine Run.cond_t rfl ?_ | refine Run.cond_f rfl ?_ | refine Ops.cat rfl (by decide) rfl rfl (by first | omega | (simp only [List.length_cons, List.length_nil] ; omega) | (simp; omega)) ?_ | refine Ops.neqStr rfl (by decide) rfl rfl ?_ | refine Ops.pure T rfl (by decide) rfl ?_ | refine Ops.load 0 rfl (by decide) rfl rfl (T.aggOk rfl) rfl ?_ | refine Ops.load 1 rfl (by decide) rfl rfl (T.aggOk rfl) rfl ?_ | refine Ops.load 2 rfl (by decide) rfl rfl (T.aggOk rfl) rfl ?_ | refine Ops.load 3 rfl (by decide) rfl rfl (T.aggOk rfl) rfl ?_ | refine Ops.load 4 rfl (by decide) rfl rfl (T.aggOk rfl) rfl ?_ | refine Ops.load 5 rfl (by decide) rfl rfl (T.aggOk rfl) rfl ?_)
  refine Run.merge (fun env' L' I' => env' = [(1, .pointer (some ⟨b, 0, none⟩)), (3, str (os ++ (if arch = [] then [] else 47 :: arch) ++ (if var = [] then [] else 47 :: var) ++ (if ver = [] then [] else 58 :: ver)))] ∧ L' = [(b, blk ((Pf.mk arch os ver var).cs (.slice A a c) (.slice A' a' c')) 38)] ∧ I' = I) rfl ?_ ?_ ?_
  · intro h1 k' fin
    rw [h1]
    simp at h1
    repeat (first | refine Run.seq ?_ | refine Run.region ?_ | refine Ops.nil ?_ | refine Run.skip ?_ | refine Run.cond_t rfl ?_ | refine Run.cond_f rfl ?_ | refine Ops.cat rfl (by decide) rfl rfl (by first | omega | (simp only [List.length_cons, List.length_nil] ; omega) | (simp; omega)) ?_ | refine Ops.neqStr rfl (by decide) rfl rfl ?_ | refine Ops.pure T rfl (by decide) rfl ?_ | refine Ops.load 0 rfl (by decide) rfl rfl (T.aggOk rfl) rfl ?_ | refine Ops.load 1 rfl (by decide) rfl rfl (T.aggOk rfl) rfl ?_ | refine Ops.load 2 rfl (by decide) rfl rfl (T.aggOk rfl) rfl ?_ | refine Ops.load 3 rfl (by decide) rfl rfl (T.aggOk rfl) rfl ?_ | refine Ops.load 4 rfl (by decide) rfl rfl (T.aggOk rfl) rfl ?_ | refine Ops.load 5 rfl (by decide) rfl rfl (T.aggOk rfl) rfl ?_)
    refine Run.keep [1, 3] [_, _] rfl ?_
    refine fin _ _ _ ⟨?_, rfl, rfl⟩
    simp [h1]
  · intro h1 k' fin
    rw [h1]
    simp at h1
    repeat (first | refine Run.seq ?_ | refine Run.region ?_ | refine Ops.nil ?_ | refine Run.skip ?_ | refine Run.cond_t rfl ?_ | refine Run.cond_f rfl ?_ | refine Ops.cat rfl (by decide) rfl rfl (by first | omega | (simp only [List.length_cons, List.length_nil] ; omega) | (simp; omega)) ?_ | refine Ops.neqStr rfl (by decide) rfl rfl ?_ | refine Ops.pure T rfl (by decide) rfl ?_ | refine Ops.load 0 rfl (by decide) rfl rfl (T.aggOk rfl) rfl ?_ | refine Ops.load 1 rfl (by decide) rfl rfl (T.aggOk rfl) rfl ?_ | refine Ops.load 2 rfl (by decide) rfl rfl (T.aggOk rfl) rfl ?_ | refine Ops.load 3 rfl (by decide) rfl rfl (T.aggOk rfl) rfl ?_ | refine Ops.load 4 rfl (by decide) rfl rfl (T.aggOk rfl) rfl ?_ | refine Ops.load 5 rfl (by decide) rfl rfl (T.aggOk rfl) rfl ?_)
    refine Run.keep [1, 3] [_, _] rfl ?_
    refine fin _ _ _ ⟨?_, rfl, rfl⟩
    simp [h1]
  rintro env L I ⟨rfl, rfl, rfl⟩
  repeat (first | refine Run.seq ?_ | refine Run.region ?_ | refine Ops.nil ?_ | refine Run.skip ?_ | refine Run.cond_t rfl ?_ | refine Run.cond_f rfl ?_ | refine Ops.cat rfl (by decide) rfl rfl (by first | omega | (simp only [List.length_cons, List.length_nil] ; omega) | (simp; omega)) ?_ | refine Ops.neqStr rfl (by decide) rfl rfl ?_ | refine Ops.pure T rfl (by decide) rfl ?_ | refine Ops.load 0 rfl (by decide) rfl rfl (T.aggOk rfl) rfl ?_ | refine Ops.load 1 rfl (by decide) rfl rfl (T.aggOk rfl) rfl ?_ | refine Ops.load 2 rfl (by decide) rfl rfl (T.aggOk rfl) rfl ?_ | refine Ops.load 3 rfl (by decide) rfl rfl (T.aggOk rfl) rfl ?_ | refine Ops.load 4 rfl (by decide) rfl rfl (T.aggOk rfl) rfl ?_ | refine Ops.load 5 rfl (by decide) rfl rfl (T.aggOk rfl) rfl ?_)
  refine Run.fin (Run.ret1 (by rw [hCf]; exact Proofs.Try.func26) Proofs.Try.results26 rfl (hR _ _ _ ?_))
  exact ⟨rfl, rfl⟩

set_option maxHeartbeats 1000000 in
theorem Platform_String (I : Imm) (p : Pf) (u v : Value) (ho : one [u, v] = true) (h : p.os.length + p.arch.length + p.var.length + p.ver.length ≤ 70368744177600) (h0 : p.os ≠ []) :
    Pure Proofs.Try.prog 52 [.agg (p.ds u v).toArray] I fun w J => w = str (pfText p) := by
  obtain ⟨arch, os, ver, var⟩ := p
  simp only at h h0
  have e1 : ∀ (k : UInt8) (x : List UInt8), (if x = [] then [] else k :: x).length ≤ x.length + 1 := by intro k x; split <;> simp
  have e2 := e1 47 arch
  have e3 := e1 47 var
  have e4 := e1 58 ver
  refine Spec.enter 32 [(0, _)] Proofs.Try.func52 rfl Proofs.Try.ntmps52 (by simp) rfl ?_
  intro C hCf hR hCI
  repeat (first | refine Run.seq ?_ | refine Run.region ?_ | refine Ops.nil ?_ | refine Run.skip ?_ | refine Run.cond_t rfl ?_ | refine Run.cond_f rfl ?_ | refine Ops.eqlStr rfl (by decide) rfl rfl ?_ | refine Ops.neqStr rfl (by decide) rfl rfl ?_ | refine Ops.pure T rfl (by decide) rfl ?_ | refine Ops.load 0 rfl (by decide) rfl rfl (T.aggOk rfl) rfl ?_ | refine Ops.load 1 rfl (by decide) rfl rfl (T.aggOk rfl) rfl ?_ | refine Ops.load 2 rfl (by decide) rfl rfl (T.aggOk rfl) rfl ?_ | refine Ops.load 3 rfl (by decide) rfl rfl (T.aggOk rfl) rfl ?_ | refine Ops.load 4 rfl (by decide) rfl rfl (T.aggOk rfl) rfl ?_ | refine Ops.load 5 rfl (by decide) rfl rfl (T.aggOk rfl) rfl ?_)
  refine Ops.box rfl (by decide) rfl rfl (fun b => ?_)
  repeat (first | refine Run.seq ?_ | refine Run.region ?_ | refine Ops.nil ?_ | refine Run.skip ?_ | refine Run.cond_t rfl ?_ | refine Run.cond_f rfl ?_ | refine Ops.eqlStr rfl (by decide) rfl rfl ?_ | refine Ops.neqStr rfl (by decide) rfl rfl ?_ | refine Ops.pure T rfl (by decide) rfl ?_ | refine Ops.load 0 rfl (by decide) rfl rfl (T.aggOk rfl) rfl ?_ | refine Ops.load 1 rfl (by decide) rfl rfl (T.aggOk rfl) rfl ?_ | refine Ops.load 2 rfl (by decide) rfl rfl (T.aggOk rfl) rfl ?_ | refine Ops.load 3 rfl (by decide) rfl rfl (T.aggOk rfl) rfl ?_ | refine Ops.load 4 rfl (by decide) rfl rfl (T.aggOk rfl) rfl ?_ | refine Ops.load 5 rfl (by decide) rfl rfl (T.aggOk rfl) rfl ?_)
  rw [decide_eq_false h0]
  repeat (first | refine Run.seq ?_ | refine Run.region ?_ | refine Ops.nil ?_ | refine Run.skip ?_ | refine Run.cond_t rfl ?_ | refine Run.cond_f rfl ?_ | refine Ops.eqlStr rfl (by decide) rfl rfl ?_ | refine Ops.neqStr rfl (by decide) rfl rfl ?_ | refine Ops.pure T rfl (by decide) rfl ?_ | refine Ops.load 0 rfl (by decide) rfl rfl (T.aggOk rfl) rfl ?_ | refine Ops.load 1 rfl (by decide) rfl rfl (T.aggOk rfl) rfl ?_ | refine Ops.load 2 rfl (by decide) rfl rfl (T.aggOk rfl) rfl ?_ | refine Ops.load 3 rfl (by decide) rfl rfl (T.aggOk rfl) rfl ?_ | refine Ops.load 4 rfl (by decide) rfl rfl (T.aggOk rfl) rfl ?_ | refine Ops.load 5 rfl (by decide) rfl rfl (T.aggOk rfl) rfl ?_)
  refine Ops.alloc rfl (by decide) (T.zeroOk rfl) rfl (fun b2 => ?_)
  repeat (first | refine Run.seq ?_ | refine Run.region ?_ | refine Ops.nil ?_ | refine Run.skip ?_ | refine Run.cond_t rfl ?_ | refine Run.cond_f rfl ?_ | refine Ops.eqlStr rfl (by decide) rfl rfl ?_ | refine Ops.neqStr rfl (by decide) rfl rfl ?_ | refine Ops.pure T rfl (by decide) rfl ?_ | refine Ops.load 0 rfl (by decide) rfl rfl (T.aggOk rfl) rfl ?_ | refine Ops.load 1 rfl (by decide) rfl rfl (T.aggOk rfl) rfl ?_ | refine Ops.load 2 rfl (by decide) rfl rfl (T.aggOk rfl) rfl ?_ | refine Ops.load 3 rfl (by decide) rfl rfl (T.aggOk rfl) rfl ?_ | refine Ops.load 4 rfl (by decide) rfl rfl (T.aggOk rfl) rfl ?_ | refine Ops.load 5 rfl (by decide) rfl rfl (T.aggOk rfl) rfl ?_)
  have hB := Bld.new I b2
  refine Ops.callP (N := [_]) (Builder_WriteString _ b2 _ _ _ hB (by simp; omega)) (List.Perm.swap _ _ _) rfl (by decide) Proofs.Try.call68 rfl ?_
  rintro _ I M' _ ⟨rfl, rfl, hB'⟩
  replace hB := hB'
  clear hB'
  repeat (first | refine Run.seq ?_ | refine Run.region ?_ | refine Ops.nil ?_ | refine Run.skip ?_ | refine Run.cond_t rfl ?_ | refine Run.cond_f rfl ?_ | refine Ops.eqlStr rfl (by decide) rfl rfl ?_ | refine Ops.neqStr rfl (by decide) rfl rfl ?_ | refine Ops.pure T rfl (by decide) rfl ?_ | refine Ops.load 0 rfl (by decide) rfl rfl (T.aggOk rfl) rfl ?_ | refine Ops.load 1 rfl (by decide) rfl rfl (T.aggOk rfl) rfl ?_ | refine Ops.load 2 rfl (by decide) rfl rfl (T.aggOk rfl) rfl ?_ | refine Ops.load 3 rfl (by decide) rfl rfl (T.aggOk rfl) rfl ?_ | refine Ops.load 4 rfl (by decide) rfl rfl (T.aggOk rfl) rfl ?_ | refine Ops.load 5 rfl (by decide) rfl rfl (T.aggOk rfl) rfl ?_)
  refine Run.merge (fun env' L' I' => ∃ N, env' = [(1, .pointer (some ⟨b, 0, none⟩)), (3, .pointer (some ⟨b2, 0, none⟩))] ∧ L' = (b, blk ((Pf.mk arch os ver var).ds u v) 82) :: N ∧ Bld I' b2 (os ++ (if arch = [] then [] else 47 :: arch)) N ∧ I' = I) rfl ?_ ?_ ?_
  · intro h1 k' fin
    rw [h1]
    simp at h1
    repeat (first | refine Run.seq ?_ | refine Run.region ?_ | refine Ops.nil ?_ | refine Run.skip ?_ | refine Run.cond_t rfl ?_ | refine Run.cond_f rfl ?_ | refine Ops.eqlStr rfl (by decide) rfl rfl ?_ | refine Ops.neqStr rfl (by decide) rfl rfl ?_ | refine Ops.pure T rfl (by decide) rfl ?_ | refine Ops.load 0 rfl (by decide) rfl rfl (T.aggOk rfl) rfl ?_ | refine Ops.load 1 rfl (by decide) rfl rfl (T.aggOk rfl) rfl ?_ | refine Ops.load 2 rfl (by decide) rfl rfl (T.aggOk rfl) rfl ?_ | refine Ops.load 3 rfl (by decide) rfl rfl (T.aggOk rfl) rfl ?_ | refine Ops.load 4 rfl (by decide) rfl rfl (T.aggOk rfl) rfl ?_ | refine Ops.load 5 rfl (by decide) rfl rfl (T.aggOk rfl) rfl ?_)
    refine Ops.callP (N := [_]) (Builder_WriteString _ b2 _ _ _ hB (by simp; omega)) (.refl _) rfl (by decide) Proofs.Try.call68 rfl ?_
    rintro _ I M' _ ⟨rfl, rfl, hB'⟩
    replace hB := hB'
    clear hB'
    repeat (first | refine Run.seq ?_ | refine Run.region ?_ | refine Ops.nil ?_ | refine Run.skip ?_ | refine Run.cond_t rfl ?_ | refine Run.cond_f rfl ?_ | refine Ops.eqlStr rfl (by decide) rfl rfl ?_ | refine Ops.neqStr rfl (by decide) rfl rfl ?_ | refine Ops.pure T rfl (by decide) rfl ?_ | refine Ops.load 0 rfl (by decide) rfl rfl (T.aggOk rfl) rfl ?_ | refine Ops.load 1 rfl (by decide) rfl rfl (T.aggOk rfl) rfl ?_ | refine Ops.load 2 rfl (by decide) rfl rfl (T.aggOk rfl) rfl ?_ | refine Ops.load 3 rfl (by decide) rfl rfl (T.aggOk rfl) rfl ?_ | refine Ops.load 4 rfl (by decide) rfl rfl (T.aggOk rfl) rfl ?_ | refine Ops.load 5 rfl (by decide) rfl rfl (T.aggOk rfl) rfl ?_)
    refine Ops.callP (N := [_]) (Builder_WriteString _ b2 _ _ _ hB (by simp; omega)) (.refl _) rfl (by decide) Proofs.Try.call68 rfl ?_
    rintro _ I M' _ ⟨rfl, rfl, hB'⟩
    replace hB := hB'
    clear hB'
    repeat (first | refine Run.seq ?_ | refine Run.region ?_ | refine Ops.nil ?_ | refine Run.skip ?_ | refine Run.cond_t rfl ?_ | refine Run.cond_f rfl ?_ | refine Ops.eqlStr rfl (by decide) rfl rfl ?_ | refine Ops.neqStr rfl (by decide) rfl rfl ?_ | refine Ops.pure T rfl (by decide) rfl ?_ | refine Ops.load 0 rfl (by decide) rfl rfl (T.aggOk rfl) rfl ?_ | refine Ops.load 1 rfl (by decide) rfl rfl (T.aggOk rfl) rfl ?_ | refine Ops.load 2 rfl (by decide) rfl rfl (T.aggOk rfl) rfl ?_ | refine Ops.load 3 rfl (by decide) rfl rfl (T.aggOk rfl) rfl ?_ | refine Ops.load 4 rfl (by decide) rfl rfl (T.aggOk rfl) rfl ?_ | refine Ops.load 5 rfl (by decide) rfl rfl (T.aggOk rfl) rfl ?_)
    refine Run.keep [1, 3] [_, _] rfl ?_
    refine fin _ _ _ ⟨_, rfl, rfl, ?_, rfl⟩
    simp [h1]
    simpa using hB
  · intro h1 k' fin
    rw [h1]
    simp at h1
    repeat (first | refine Run.seq ?_ | refine Run.region ?_ | refine Ops.nil ?_ | refine Run.skip ?_ | refine Run.cond_t rfl ?_ | refine Run.cond_f rfl ?_ | refine Ops.eqlStr rfl (by decide) rfl rfl ?_ | refine Ops.neqStr rfl (by decide) rfl rfl ?_ | refine Ops.pure T rfl (by decide) rfl ?_ | refine Ops.load 0 rfl (by decide) rfl rfl (T.aggOk rfl) rfl ?_ | refine Ops.load 1 rfl (by decide) rfl rfl (T.aggOk rfl) rfl ?_ | refine Ops.load 2 rfl (by decide) rfl rfl (T.aggOk rfl) rfl ?_ | refine Ops.load 3 rfl (by decide) rfl rfl (T.aggOk rfl) rfl ?_ | refine Ops.load 4 rfl (by decide) rfl rfl (T.aggOk rfl) rfl ?_ | refine Ops.load 5 rfl (by decide) rfl rfl (T.aggOk rfl) rfl ?_)
    refine Run.keep [1, 3] [_, _] rfl ?_
    refine fin _ _ _ ⟨_, rfl, rfl, ?_, rfl⟩
    simpa [h1] using hB
  clear hB
  rintro env L I ⟨N, rfl, rfl, hB, rfl⟩
  repeat (first | refine Run.seq ?_ | refine Run.region ?_ | refine Ops.nil ?_ | refine Run.skip ?_ | refine Run.cond_t rfl ?_ | refine Run.cond_f rfl ?_ | refine Ops.eqlStr rfl (by decide) rfl rfl ?_ | refine Ops.neqStr rfl (by decide) rfl rfl ?_ | refine Ops.pure T rfl (by decide) rfl ?_ | refine Ops.load 0 rfl (by decide) rfl rfl (T.aggOk rfl) rfl ?_ | refine Ops.load 1 rfl (by decide) rfl rfl (T.aggOk rfl) rfl ?_ | refine Ops.load 2 rfl (by decide) rfl rfl (T.aggOk rfl) rfl ?_ | refine Ops.load 3 rfl (by decide) rfl rfl (T.aggOk rfl) rfl ?_ | refine Ops.load 4 rfl (by decide) rfl rfl (T.aggOk rfl) rfl ?_ | refine Ops.load 5 rfl (by decide) rfl rfl (T.aggOk rfl) rfl ?_)
  refine Run.merge (fun env' L' I' => ∃ N, env' = [(1, .pointer (some ⟨b, 0, none⟩)), (3, .pointer (some ⟨b2, 0, none⟩))] ∧ L' = (b, blk ((Pf.mk arch os ver var).ds u v) 82) :: N ∧ Bld I' b2 (os ++ (if arch = [] then [] else 47 :: arch) ++ (if var = [] then [] else 47 :: var)) N ∧ I' = I) rfl ?_ ?_ ?_
  · intro h1 k' fin
    rw [h1]
    simp at h1
    repeat (first | refine Run.seq ?_ | refine Run.region ?_ | refine Ops.nil ?_ | refine Run.skip ?_ | refine Run.cond_t rfl ?_ | refine Run.cond_f rfl ?_ | refine Ops.eqlStr rfl (by decide) rfl rfl ?_ | refine Ops.neqStr rfl (by decide) rfl rfl ?_ | refine Ops.pure T rfl (by decide) rfl ?_ | refine Ops.load 0 rfl (by decide) rfl rfl (T.aggOk rfl) rfl ?_ | refine Ops.load 1 rfl (by decide) rfl rfl (T.aggOk rfl) rfl ?_ | refine Ops.load 2 rfl (by decide) rfl rfl (T.aggOk rfl) rfl ?_ | refine Ops.load 3 rfl (by decide) rfl rfl (T.aggOk rfl) rfl ?_ | refine Ops.load 4 rfl (by decide) rfl rfl (T.aggOk rfl) rfl ?_ | refine Ops.load 5 rfl (by decide) rfl rfl (T.aggOk rfl) rfl ?_)
    refine Ops.callP (N := [_]) (Builder_WriteString _ b2 _ _ _ hB (by simp; omega)) (.refl _) rfl (by decide) Proofs.Try.call68 rfl ?_
    rintro _ I M' _ ⟨rfl, rfl, hB'⟩
    replace hB := hB'
    clear hB'
    repeat (first | refine Run.seq ?_ | refine Run.region ?_ | refine Ops.nil ?_ | refine Run.skip ?_ | refine Run.cond_t rfl ?_ | refine Run.cond_f rfl ?_ | refine Ops.eqlStr rfl (by decide) rfl rfl ?_ | refine Ops.neqStr rfl (by decide) rfl rfl ?_ | refine Ops.pure T rfl (by decide) rfl ?_ | refine Ops.load 0 rfl (by decide) rfl rfl (T.aggOk rfl) rfl ?_ | refine Ops.load 1 rfl (by decide) rfl rfl (T.aggOk rfl) rfl ?_ | refine Ops.load 2 rfl (by decide) rfl rfl (T.aggOk rfl) rfl ?_ | refine Ops.load 3 rfl (by decide) rfl rfl (T.aggOk rfl) rfl ?_ | refine Ops.load 4 rfl (by decide) rfl rfl (T.aggOk rfl) rfl ?_ | refine Ops.load 5 rfl (by decide) rfl rfl (T.aggOk rfl) rfl ?_)
    refine Ops.callP (N := [_]) (Builder_WriteString _ b2 _ _ _ hB (by simp; omega)) (.refl _) rfl (by decide) Proofs.Try.call68 rfl ?_
    rintro _ I M' _ ⟨rfl, rfl, hB'⟩
    replace hB := hB'
    clear hB'
    repeat (first | refine Run.seq ?_ | refine Run.region ?_ | refine Ops.nil ?_ | refine Run.skip ?_ | refine Run.cond_t rfl ?_ | refine Run.cond_f rfl ?_ | refine Ops.eqlStr rfl (by decide) rfl rfl ?_ | refine Ops.neqStr rfl (by decide) rfl rfl ?_ | refine Ops.pure T rfl (by decide) rfl ?_ | refine Ops.load 0 rfl (by decide) rfl rfl (T.aggOk rfl) rfl ?_ | refine Ops.load 1 rfl (by decide) rfl rfl (T.aggOk rfl) rfl ?_ | refine Ops.load 2 rfl (by decide) rfl rfl (T.aggOk rfl) rfl ?_ | refine Ops.load 3 rfl (by decide) rfl rfl (T.aggOk rfl) rfl ?_ | refine Ops.load 4 rfl (by decide) rfl rfl (T.aggOk rfl) rfl ?_ | refine Ops.load 5 rfl (by decide) rfl rfl (T.aggOk rfl) rfl ?_)
    refine Run.keep [1, 3] [_, _] rfl ?_
    refine fin _ _ _ ⟨_, rfl, rfl, ?_, rfl⟩
    simp [h1]
    simpa using hB
  · intro h1 k' fin
    rw [h1]
    simp at h1
    repeat (first | refine Run.seq ?_ | refine Run.region ?_ | refine Ops.nil ?_ | refine Run.skip ?_ | refine Run.cond_t rfl ?_ | refine Run.cond_f rfl ?_ | refine Ops.eqlStr rfl (by decide) rfl rfl ?_ | refine Ops.neqStr rfl (by decide) rfl rfl ?_ | refine Ops.pure T rfl (by decide) rfl ?_ | refine Ops.load 0 rfl (by decide) rfl rfl (T.aggOk rfl) rfl ?_ | refine Ops.load 1 rfl (by decide) rfl rfl (T.aggOk rfl) rfl ?_ | refine Ops.load 2 rfl (by decide) rfl rfl (T.aggOk rfl) rfl ?_ | refine Ops.load 3 rfl (by decide) rfl rfl (T.aggOk rfl) rfl ?_ | refine Ops.load 4 rfl (by decide) rfl rfl (T.aggOk rfl) rfl ?_ | refine Ops.load 5 rfl (by decide) rfl rfl (T.aggOk rfl) rfl ?_)
    refine Run.keep [1, 3] [_, _] rfl ?_
    refine fin _ _ _ ⟨_, rfl, rfl, ?_, rfl⟩
    simpa [h1] using hB
  clear hB
  rintro env L I ⟨N, rfl, rfl, hB, rfl⟩
  repeat (first | refine Run.seq ?_ | refine Run.region ?_ | refine Ops.nil ?_ | refine Run.skip ?_ | refine Run.cond_t rfl ?_ | refine Run.cond_f rfl ?_ | refine Ops.eqlStr rfl (by decide) rfl rfl ?_ | refine Ops.neqStr rfl (by decide) rfl rfl ?_ | refine Ops.pure T rfl (by decide) rfl ?_ | refine Ops.load 0 rfl (by decide) rfl rfl (T.aggOk rfl) rfl ?_ | refine Ops.load 1 rfl (by decide) rfl rfl (T.aggOk rfl) rfl ?_ | refine Ops.load 2 rfl (by decide) rfl rfl (T.aggOk rfl) rfl ?_ | refine Ops.load 3 rfl (by decide) rfl rfl (T.aggOk rfl) rfl ?_ | refine Ops.load 4 rfl (by decide) rfl rfl (T.aggOk rfl) rfl ?_ | refine Ops.load 5 rfl (by decide) rfl rfl (T.aggOk rfl) rfl ?_)
  refine Run.merge (fun env' L' I' => ∃ N, env' = [(1, .pointer (some ⟨b, 0, none⟩)), (3, .pointer (some ⟨b2, 0, none⟩))] ∧ L' = (b, blk ((Pf.mk arch os ver var).ds u v) 82) :: N ∧ Bld I' b2 (os ++ (if arch = [] then [] else 47 :: arch) ++ (if var = [] then [] else 47 :: var) ++ (if ver = [] then [] else 58 :: ver)) N ∧ I' = I) rfl ?_ ?_ ?_
  · intro h1 k' fin
    rw [h1]
    simp at h1
    repeat (first | refine Run.seq ?_ | refine Run.region ?_ | refine Ops.nil ?_ | refine Run.skip ?_ | refine Run.cond_t rfl ?_ | refine Run.cond_f rfl ?_ | refine Ops.eqlStr rfl (by decide) rfl rfl ?_ | refine Ops.neqStr rfl (by decide) rfl rfl ?_ | refine Ops.pure T rfl (by decide) rfl ?_ | refine Ops.load 0 rfl (by decide) rfl rfl (T.aggOk rfl) rfl ?_ | refine Ops.load 1 rfl (by decide) rfl rfl (T.aggOk rfl) rfl ?_ | refine Ops.load 2 rfl (by decide) rfl rfl (T.aggOk rfl) rfl ?_ | refine Ops.load 3 rfl (by decide) rfl rfl (T.aggOk rfl) rfl ?_ | refine Ops.load 4 rfl (by decide) rfl rfl (T.aggOk rfl) rfl ?_ | refine Ops.load 5 rfl (by decide) rfl rfl (T.aggOk rfl) rfl ?_)
    refine Ops.callP (N := [_]) (Builder_WriteString _ b2 _ _ _ hB (by simp; omega)) (.refl _) rfl (by decide) Proofs.Try.call68 rfl ?_
    rintro _ I M' _ ⟨rfl, rfl, hB'⟩
    replace hB := hB'
    clear hB'
    repeat (first | refine Run.seq ?_ | refine Run.region ?_ | refine Ops.nil ?_ | refine Run.skip ?_ | refine Run.cond_t rfl ?_ | refine Run.cond_f rfl ?_ | refine Ops.eqlStr rfl (by decide) rfl rfl ?_ | refine Ops.neqStr rfl (by decide) rfl rfl ?_ | refine Ops.pure T rfl (by decide) rfl ?_ | refine Ops.load 0 rfl (by decide) rfl rfl (T.aggOk rfl) rfl ?_ | refine Ops.load 1 rfl (by decide) rfl rfl (T.aggOk rfl) rfl ?_ | refine Ops.load 2 rfl (by decide) rfl rfl (T.aggOk rfl) rfl ?_ | refine Ops.load 3 rfl (by decide) rfl rfl (T.aggOk rfl) rfl ?_ | refine Ops.load 4 rfl (by decide) rfl rfl (T.aggOk rfl) rfl ?_ | refine Ops.load 5 rfl (by decide) rfl rfl (T.aggOk rfl) rfl ?_)
    refine Ops.callP (N := [_]) (Builder_WriteString _ b2 _ _ _ hB (by simp; omega)) (.refl _) rfl (by decide) Proofs.Try.call68 rfl ?_
    rintro _ I M' _ ⟨rfl, rfl, hB'⟩
    replace hB := hB'
    clear hB'
    repeat (first | refine Run.seq ?_ | refine Run.region ?_ | refine Ops.nil ?_ | refine Run.skip ?_ | refine Run.cond_t rfl ?_ | refine Run.cond_f rfl ?_ | refine Ops.eqlStr rfl (by decide) rfl rfl ?_ | refine Ops.neqStr rfl (by decide) rfl rfl ?_ | refine Ops.pure T rfl (by decide) rfl ?_ | refine Ops.load 0 rfl (by decide) rfl rfl (T.aggOk rfl) rfl ?_ | refine Ops.load 1 rfl (by decide) rfl rfl (T.aggOk rfl) rfl ?_ | refine Ops.load 2 rfl (by decide) rfl rfl (T.aggOk rfl) rfl ?_ | refine Ops.load 3 rfl (by decide) rfl rfl (T.aggOk rfl) rfl ?_ | refine Ops.load 4 rfl (by decide) rfl rfl (T.aggOk rfl) rfl ?_ | refine Ops.load 5 rfl (by decide) rfl rfl (T.aggOk rfl) rfl ?_)
    refine Run.keep [1, 3] [_, _] rfl ?_
    refine fin _ _ _ ⟨_, rfl, rfl, ?_, rfl⟩
    simp [h1]
    simpa using hB
  · intro h1 k' fin
    rw [h1]
    simp at h1
    repeat (first | refine Run.seq ?_ | refine Run.region ?_ | refine Ops.nil ?_ | refine Run.skip ?_ | refine Run.cond_t rfl ?_ | refine Run.cond_f rfl ?_ | refine Ops.eqlStr rfl (by decide) rfl rfl ?_ | refine Ops.neqStr rfl (by decide) rfl rfl ?_ | refine Ops.pure T rfl (by decide) rfl ?_ | refine Ops.load 0 rfl (by decide) rfl rfl (T.aggOk rfl) rfl ?_ | refine Ops.load 1 rfl (by decide) rfl rfl (T.aggOk rfl) rfl ?_ | refine Ops.load 2 rfl (by decide) rfl rfl (T.aggOk rfl) rfl ?_ | refine Ops.load 3 rfl (by decide) rfl rfl (T.aggOk rfl) rfl ?_ | refine Ops.load 4 rfl (by decide) rfl rfl (T.aggOk rfl) rfl ?_ | refine Ops.load 5 rfl (by decide) rfl rfl (T.aggOk rfl) rfl ?_)
    refine Run.keep [1, 3] [_, _] rfl ?_
    refine fin _ _ _ ⟨_, rfl, rfl, ?_, rfl⟩
    simpa [h1] using hB
  clear hB
  rintro env L I ⟨N, rfl, rfl, hB, rfl⟩
  repeat (first | refine Run.seq ?_ | refine Run.region ?_ | refine Ops.nil ?_ | refine Run.skip ?_ | refine Run.cond_t rfl ?_ | refine Run.cond_f rfl ?_ | refine Ops.eqlStr rfl (by decide) rfl rfl ?_ | refine Ops.neqStr rfl (by decide) rfl rfl ?_ | refine Ops.pure T rfl (by decide) rfl ?_ | refine Ops.load 0 rfl (by decide) rfl rfl (T.aggOk rfl) rfl ?_ | refine Ops.load 1 rfl (by decide) rfl rfl (T.aggOk rfl) rfl ?_ | refine Ops.load 2 rfl (by decide) rfl rfl (T.aggOk rfl) rfl ?_ | refine Ops.load 3 rfl (by decide) rfl rfl (T.aggOk rfl) rfl ?_ | refine Ops.load 4 rfl (by decide) rfl rfl (T.aggOk rfl) rfl ?_ | refine Ops.load 5 rfl (by decide) rfl rfl (T.aggOk rfl) rfl ?_)
  refine Ops.callP (N := [_]) (Builder_String _ b2 _ _ hB (by simp [h0]) (by simp only [List.length_append]; omega)) (.refl _) rfl (by decide) Proofs.Try.call69 rfl ?_
  rintro _ I M' _ ⟨rfl, rfl⟩
  repeat (first | refine Run.seq ?_ | refine Run.region ?_ | refine Ops.nil ?_ | refine Run.skip ?_ | refine Run.cond_t rfl ?_ | refine Run.cond_f rfl ?_ | refine Ops.eqlStr rfl (by decide) rfl rfl ?_ | refine Ops.neqStr rfl (by decide) rfl rfl ?_ | refine Ops.pure T rfl (by decide) rfl ?_ | refine Ops.load 0 rfl (by decide) rfl rfl (T.aggOk rfl) rfl ?_ | refine Ops.load 1 rfl (by decide) rfl rfl (T.aggOk rfl) rfl ?_ | refine Ops.load 2 rfl (by decide) rfl rfl (T.aggOk rfl) rfl ?_ | refine Ops.load 3 rfl (by decide) rfl rfl (T.aggOk rfl) rfl ?_ | refine Ops.load 4 rfl (by decide) rfl rfl (T.aggOk rfl) rfl ?_ | refine Ops.load 5 rfl (by decide) rfl rfl (T.aggOk rfl) rfl ?_)
  refine Run.fin (Run.ret1 (by rw [hCf]; exact Proofs.Try.func52) Proofs.Try.results52 rfl (hR _ _ _ ?_))
  exact ⟨rfl, rfl⟩

theorem Platform_to (I : Imm) (p : Pf) (u v : Value) (f g : List (List UInt8)) (hf : Sl tStr I u f) (hg : Sl tStr I v g) (h1 : f.length ≤ 2147483647) (h2 : g.length ≤ 2147483647) :
    Pure Proofs.Try.prog 51 [.agg (p.cs u v).toArray] I fun w J => ∃ u' v', w = .agg (p.ds u' v').toArray ∧ Sl tStr J u' f ∧ Sl tStr J v' g := by
  refine Spec.enter 18 [(0, _)] Proofs.Try.func51 rfl Proofs.Try.ntmps51 (by simp) rfl ?_
  intro C hCf hR hCI
  repeat (first | refine Run.seq ?_ | refine Run.region ?_ | refine Ops.nil ?_ | refine Ops.pure T rfl (by decide) rfl ?_ | refine Ops.load 0 rfl (by decide) rfl rfl (T.aggOk rfl) rfl ?_ | refine Ops.load 1 rfl (by decide) rfl rfl (T.aggOk rfl) rfl ?_ | refine Ops.load 2 rfl (by decide) rfl rfl (T.aggOk rfl) rfl ?_ | refine Ops.load 3 rfl (by decide) rfl rfl (T.aggOk rfl) rfl ?_ | refine Ops.load 4 rfl (by decide) rfl rfl (T.aggOk rfl) rfl ?_ | refine Ops.load 5 rfl (by decide) rfl rfl (T.aggOk rfl) rfl ?_ | refine Ops.store 0 rfl rfl rfl rfl rfl (T.sizeOk rfl) rfl (Nat.le_of_ble_eq_true rfl) rfl rfl ?_ | refine Ops.store 1 rfl rfl rfl rfl rfl (T.sizeOk rfl) rfl (Nat.le_of_ble_eq_true rfl) rfl rfl ?_ | refine Ops.store 2 rfl rfl rfl rfl rfl (T.sizeOk rfl) rfl (Nat.le_of_ble_eq_true rfl) rfl rfl ?_ | refine Ops.store 3 rfl rfl rfl rfl rfl (T.sizeOk rfl) rfl (Nat.le_of_ble_eq_true rfl) rfl rfl ?_ | refine Ops.store 4 rfl rfl rfl rfl rfl (T.sizeOk rfl) rfl (Nat.le_of_ble_eq_true rfl) rfl rfl ?_ | refine Ops.store 5 rfl rfl rfl rfl rfl (T.sizeOk rfl) rfl (Nat.le_of_ble_eq_true rfl) rfl rfl ?_)
  obtain ⟨A, c, hu⟩ := hf.isSl
  obtain ⟨A', c', hv⟩ := hg.isSl
  subst hu
  subst hv
  refine Ops.box rfl (by decide) rfl rfl (fun b => ?_)
  repeat (first | refine Run.seq ?_ | refine Run.region ?_ | refine Ops.nil ?_ | refine Ops.pure T rfl (by decide) rfl ?_ | refine Ops.load 0 rfl (by decide) rfl rfl (T.aggOk rfl) rfl ?_ | refine Ops.load 1 rfl (by decide) rfl rfl (T.aggOk rfl) rfl ?_ | refine Ops.load 2 rfl (by decide) rfl rfl (T.aggOk rfl) rfl ?_ | refine Ops.load 3 rfl (by decide) rfl rfl (T.aggOk rfl) rfl ?_ | refine Ops.load 4 rfl (by decide) rfl rfl (T.aggOk rfl) rfl ?_ | refine Ops.load 5 rfl (by decide) rfl rfl (T.aggOk rfl) rfl ?_ | refine Ops.store 0 rfl rfl rfl rfl rfl (T.sizeOk rfl) rfl (Nat.le_of_ble_eq_true rfl) rfl rfl ?_ | refine Ops.store 1 rfl rfl rfl rfl rfl (T.sizeOk rfl) rfl (Nat.le_of_ble_eq_true rfl) rfl rfl ?_ | refine Ops.store 2 rfl rfl rfl rfl rfl (T.sizeOk rfl) rfl (Nat.le_of_ble_eq_true rfl) rfl rfl ?_ | refine Ops.store 3 rfl rfl rfl rfl rfl (T.sizeOk rfl) rfl (Nat.le_of_ble_eq_true rfl) rfl rfl ?_ | refine Ops.store 4 rfl rfl rfl rfl rfl (T.sizeOk rfl) rfl (Nat.le_of_ble_eq_true rfl) rfl rfl ?_ | refine Ops.store 5 rfl rfl rfl rfl rfl (T.sizeOk rfl) rfl (Nat.le_of_ble_eq_true rfl) rfl rfl ?_)
  refine Ops.alloc rfl (by decide) (T.zeroOk rfl) rfl (fun b2 => ?_)
  repeat (first | refine Run.seq ?_ | refine Run.region ?_ | refine Ops.nil ?_ | refine Ops.pure T rfl (by decide) rfl ?_ | refine Ops.load 0 rfl (by decide) rfl rfl (T.aggOk rfl) rfl ?_ | refine Ops.load 1 rfl (by decide) rfl rfl (T.aggOk rfl) rfl ?_ | refine Ops.load 2 rfl (by decide) rfl rfl (T.aggOk rfl) rfl ?_ | refine Ops.load 3 rfl (by decide) rfl rfl (T.aggOk rfl) rfl ?_ | refine Ops.load 4 rfl (by decide) rfl rfl (T.aggOk rfl) rfl ?_ | refine Ops.load 5 rfl (by decide) rfl rfl (T.aggOk rfl) rfl ?_ | refine Ops.store 0 rfl rfl rfl rfl rfl (T.sizeOk rfl) rfl (Nat.le_of_ble_eq_true rfl) rfl rfl ?_ | refine Ops.store 1 rfl rfl rfl rfl rfl (T.sizeOk rfl) rfl (Nat.le_of_ble_eq_true rfl) rfl rfl ?_ | refine Ops.store 2 rfl rfl rfl rfl rfl (T.sizeOk rfl) rfl (Nat.le_of_ble_eq_true rfl) rfl rfl ?_ | refine Ops.store 3 rfl rfl rfl rfl rfl (T.sizeOk rfl) rfl (Nat.le_of_ble_eq_true rfl) rfl rfl ?_ | refine Ops.store 4 rfl rfl rfl rfl rfl (T.sizeOk rfl) rfl (Nat.le_of_ble_eq_true rfl) rfl rfl ?_ | refine Ops.store 5 rfl rfl rfl rfl rfl (T.sizeOk rfl) rfl (Nat.le_of_ble_eq_true rfl) rfl rfl ?_)
  refine Run.regionAny (Holds I [(b, blk (p.cs (.slice A f.length c) (.slice A' g.length c')) 38)]) [false, false, false, false, false, false, false, false, false, false, false, false, false, false, false, false] (by kernel_rfl) rfl ?_
  refine RAny.takeD 0 [true, false, false, false, false, false, false, false, false, false, false, false, false, false, false, false] rfl (by kernel_rfl) (by kernel_rfl) (by kernel_rfl) rfl (by decide) (fun W h => h.holds (Le.refl _) (fun _ h => by first | exact h | (cases h; done) | (simp at h; subst h; simp))) (Yld.eval T rfl rfl) ?_
  refine RAny.takeD 1 [true, true, false, false, false, false, false, false, false, false, false, false, false, false, false, false] rfl (by kernel_rfl) (by kernel_rfl) (by kernel_rfl) rfl (by decide) (fun W h => h.holds (Le.refl _) (fun _ h => by first | exact h | (cases h; done) | (simp at h; subst h; simp))) (Yld.load 0 T rfl rfl rfl rfl rfl) ?_
  refine RAny.takeD 2 [true, true, true, false, false, false, false, false, false, false, false, false, false, false, false, false] rfl (by kernel_rfl) (by kernel_rfl) (by kernel_rfl) rfl (by decide) (fun W h => h.holds (Le.refl _) (fun _ h => by first | exact h | (cases h; done) | (simp at h; subst h; simp))) (Yld.eval T rfl rfl) ?_
  refine RAny.takeD 3 [true, true, true, true, false, false, false, false, false, false, false, false, false, false, false, false] rfl (by kernel_rfl) (by kernel_rfl) (by kernel_rfl) rfl (by decide) (fun W h => h.holds (Le.refl _) (fun _ h => by first | exact h | (cases h; done) | (simp at h; subst h; simp))) (Yld.load 0 T rfl rfl rfl rfl rfl) ?_
  refine RAny.takeD 4 [true, true, true, true, true, false, false, false, false, false, false, false, false, false, false, false] rfl (by kernel_rfl) (by kernel_rfl) (by kernel_rfl) rfl (by decide) (fun W h => h.holds (Le.refl _) (fun _ h => by first | exact h | (cases h; done) | (simp at h; subst h; simp))) (Yld.eval T rfl rfl) ?_
  refine RAny.takeD 5 [true, true, true, true, true, true, false, false, false, false, false, false, false, false, false, false] rfl (by kernel_rfl) (by kernel_rfl) (by kernel_rfl) rfl (by decide) (fun W h => h.holds (Le.refl _) (fun _ h => by first | exact h | (cases h; done) | (simp at h; subst h; simp))) (Yld.load 0 T rfl rfl rfl rfl rfl) ?_
  refine RAny.takeD 6 [true, true, true, true, true, true, true, false, false, false, false, false, false, false, false, false] rfl (by kernel_rfl) (by kernel_rfl) (by kernel_rfl) rfl (by decide) (fun W h => h.holds (Le.refl _) (fun _ h => by first | exact h | (cases h; done) | (simp at h; subst h; simp))) (Yld.eval T rfl rfl) ?_
  refine RAny.takeD 7 [true, true, true, true, true, true, true, true, false, false, false, false, false, false, false, false] rfl (by kernel_rfl) (by kernel_rfl) (by kernel_rfl) rfl (by decide) (fun W h => h.holds (Le.refl _) (fun _ h => by first | exact h | (cases h; done) | (simp at h; subst h; simp))) (Yld.load 0 T rfl rfl rfl rfl rfl) ?_
  refine RAny.takeD 8 [true, true, true, true, true, true, true, true, true, false, false, false, false, false, false, false] rfl (by kernel_rfl) (by kernel_rfl) (by kernel_rfl) rfl (by decide) (fun W h => h.holds (Le.refl _) (fun _ h => by first | exact h | (cases h; done) | (simp at h; subst h; simp))) (Yld.eval T rfl rfl) ?_
  refine RAny.takeD 9 [true, true, true, true, true, true, true, true, true, true, false, false, false, false, false, false] rfl (by kernel_rfl) (by kernel_rfl) (by kernel_rfl) rfl (by decide) (fun W h => h.holds (Le.refl _) (fun _ h => by first | exact h | (cases h; done) | (simp at h; subst h; simp))) (Yld.load 0 T rfl rfl rfl rfl rfl) ?_
  refine RAny.takeD 11 [true, true, true, true, true, true, true, true, true, true, false, true, false, false, false, false] rfl (by kernel_rfl) (by kernel_rfl) (by kernel_rfl) rfl (by decide) (fun W h => h.holds (Le.refl _) (fun _ h => by first | exact h | (cases h; done) | (simp at h; subst h; simp))) (Yld.eval T rfl rfl) ?_
  refine RAny.takeD 12 [true, true, true, true, true, true, true, true, true, true, false, true, true, false, false, false] rfl (by kernel_rfl) (by kernel_rfl) (by kernel_rfl) rfl (by decide) (fun W h => h.holds (Le.refl _) (fun _ h => by first | exact h | (cases h; done) | (simp at h; subst h; simp))) (Yld.load 0 T rfl rfl rfl rfl rfl) ?_
  refine RAny.oneD 10 [true, true, true, true, true, true, true, true, true, true, true, true, true, false, false, false] rfl (by kernel_rfl) rfl rfl (by decide) (Eff.call (impl_copied I f _ hf h1) Proofs.Try.call67 rfl fun u' J hle hu' => ⟨fun W h => h.holds hle (fun x h => by simp at h; subst h; simp), ?_⟩)
  refine RAny.oneD 13 [true, true, true, true, true, true, true, true, true, true, true, true, true, true, false, false] rfl (by kernel_rfl) rfl rfl (by decide) (Eff.call (impl_copied J g _ (hg.mono hle) h2) Proofs.Try.call67 rfl fun v' J2 hle2 hv' => ⟨fun W h => h.holds (hle.trans hle2) (fun x h => List.mem_cons_of_mem _ h), ?_⟩)
  obtain ⟨A2, c2, hu2⟩ := hu'.isSl
  obtain ⟨A3, c3, hv2⟩ := hv'.isSl
  subst hu2
  subst hv2
  refine RAny.takeD 14 [true, true, true, true, true, true, true, true, true, true, true, true, true, true, true, false] rfl (by kernel_rfl) (by kernel_rfl) (by kernel_rfl) rfl (by decide) (fun W h => h.holds (hle.trans hle2) (fun x h => by simp at h; subst h; simp)) (Yld.buildL bd82 rfl rfl rfl) ?_
  refine RAny.oneS 15 [true, true, true, true, true, true, true, true, true, true, true, true, true, true, true, true] rfl (by kernel_rfl) rfl rfl (Eff.store 0 rfl rfl rfl rfl (T.sizeOk rfl) rfl (Nat.le_of_ble_eq_true rfl) rfl rfl ⟨fun W h => h.holds (hle.trans hle2) (fun x h => List.mem_cons_of_mem _ h), ?_⟩)
  refine RAny.done _ (by kernel_rfl) ?_
  repeat (first | refine Run.seq ?_ | refine Run.region ?_ | refine Ops.nil ?_ | refine Ops.pure T rfl (by decide) rfl ?_ | refine Ops.load 0 rfl (by decide) rfl rfl (T.aggOk rfl) rfl ?_ | refine Ops.load 1 rfl (by decide) rfl rfl (T.aggOk rfl) rfl ?_ | refine Ops.load 2 rfl (by decide) rfl rfl (T.aggOk rfl) rfl ?_ | refine Ops.load 3 rfl (by decide) rfl rfl (T.aggOk rfl) rfl ?_ | refine Ops.load 4 rfl (by decide) rfl rfl (T.aggOk rfl) rfl ?_ | refine Ops.load 5 rfl (by decide) rfl rfl (T.aggOk rfl) rfl ?_ | refine Ops.store 0 rfl rfl rfl rfl rfl (T.sizeOk rfl) rfl (Nat.le_of_ble_eq_true rfl) rfl rfl ?_ | refine Ops.store 1 rfl rfl rfl rfl rfl (T.sizeOk rfl) rfl (Nat.le_of_ble_eq_true rfl) rfl rfl ?_ | refine Ops.store 2 rfl rfl rfl rfl rfl (T.sizeOk rfl) rfl (Nat.le_of_ble_eq_true rfl) rfl rfl ?_ | refine Ops.store 3 rfl rfl rfl rfl rfl (T.sizeOk rfl) rfl (Nat.le_of_ble_eq_true rfl) rfl rfl ?_ | refine Ops.store 4 rfl rfl rfl rfl rfl (T.sizeOk rfl) rfl (Nat.le_of_ble_eq_true rfl) rfl rfl ?_ | refine Ops.store 5 rfl rfl rfl rfl rfl (T.sizeOk rfl) rfl (Nat.le_of_ble_eq_true rfl) rfl rfl ?_)
  refine Run.retC T 0 (by rw [hCf]; exact Proofs.Try.func51) Proofs.Try.results51 rfl rfl rfl rfl rfl rfl (hR _ _ _ ?_)
  exact ⟨rfl, _, _, rfl, hu'.mono hle2, hv'⟩

theorem impl_PlatformText (I : Imm) (p : Pf) (u v : Value) (f g : List (List UInt8)) (hf : Sl tStr I u f) (hg : Sl tStr I v g) (h1 : f.length ≤ 2147483647) (h2 : g.length ≤ 2147483647) (ho : one [u, v] = true) (h : p.os.length + p.arch.length + p.var.length + p.ver.length ≤ 70368744177600) (h0 : p.os ≠ []) :
    Pure Proofs.Try.prog 25 [.agg (p.cs u v).toArray] I fun w J => w = str (pfText p) := by
  obtain ⟨A, c, hu⟩ := hf.isSl
  obtain ⟨A', c', hv⟩ := hg.isSl
  subst hu
  subst hv
  refine Spec.enter 6 [(0, _)] Proofs.Try.func25 rfl Proofs.Try.ntmps25 (by simp) rfl ?_
  intro C hCf hR hCI
  repeat (first | refine Run.seq ?_ | refine Run.region ?_ | refine Ops.nil ?_ | refine Ops.pure T rfl (by decide) rfl ?_ | refine Ops.loadN 0 rfl (by decide) rfl rfl (T.aggOk rfl) (T.sizeOk rfl) rfl rfl ?_ | refine Ops.loadN 1 rfl (by decide) rfl rfl (T.aggOk rfl) (T.sizeOk rfl) rfl rfl ?_ | refine Ops.loadN 2 rfl (by decide) rfl rfl (T.aggOk rfl) (T.sizeOk rfl) rfl rfl ?_ | refine Ops.loadN 3 rfl (by decide) rfl rfl (T.aggOk rfl) (T.sizeOk rfl) rfl rfl ?_ | refine Ops.loadN 4 rfl (by decide) rfl rfl (T.aggOk rfl) (T.sizeOk rfl) rfl rfl ?_ | refine Ops.loadN 5 rfl (by decide) rfl rfl (T.aggOk rfl) (T.sizeOk rfl) rfl rfl ?_)
  refine Ops.box rfl (by decide) rfl rfl (fun b => ?_)
  repeat (first | refine Run.seq ?_ | refine Run.region ?_ | refine Ops.nil ?_ | refine Ops.pure T rfl (by decide) rfl ?_ | refine Ops.loadN 0 rfl (by decide) rfl rfl (T.aggOk rfl) (T.sizeOk rfl) rfl rfl ?_ | refine Ops.loadN 1 rfl (by decide) rfl rfl (T.aggOk rfl) (T.sizeOk rfl) rfl rfl ?_ | refine Ops.loadN 2 rfl (by decide) rfl rfl (T.aggOk rfl) (T.sizeOk rfl) rfl rfl ?_ | refine Ops.loadN 3 rfl (by decide) rfl rfl (T.aggOk rfl) (T.sizeOk rfl) rfl rfl ?_ | refine Ops.loadN 4 rfl (by decide) rfl rfl (T.aggOk rfl) (T.sizeOk rfl) rfl rfl ?_ | refine Ops.loadN 5 rfl (by decide) rfl rfl (T.aggOk rfl) (T.sizeOk rfl) rfl rfl ?_)
  refine Ops.call ((Platform_to I p _ _ f g hf hg h1 h2)) rfl (by decide) Proofs.Try.call51 rfl ?_
  rintro _ J hle ⟨u', v', rfl, hu', hv'⟩
  obtain ⟨A2, c2, hu2⟩ := hu'.isSl
  obtain ⟨A3, c3, hv2⟩ := hv'.isSl
  subst hu2
  subst hv2
  refine Ops.call ((Platform_String J p _ _ rfl h h0)) rfl (by decide) Proofs.Try.call52 rfl ?_
  rintro _ J2 hle2 rfl
  repeat (first | refine Run.seq ?_ | refine Run.region ?_ | refine Ops.nil ?_ | refine Ops.pure T rfl (by decide) rfl ?_ | refine Ops.loadN 0 rfl (by decide) rfl rfl (T.aggOk rfl) (T.sizeOk rfl) rfl rfl ?_ | refine Ops.loadN 1 rfl (by decide) rfl rfl (T.aggOk rfl) (T.sizeOk rfl) rfl rfl ?_ | refine Ops.loadN 2 rfl (by decide) rfl rfl (T.aggOk rfl) (T.sizeOk rfl) rfl rfl ?_ | refine Ops.loadN 3 rfl (by decide) rfl rfl (T.aggOk rfl) (T.sizeOk rfl) rfl rfl ?_ | refine Ops.loadN 4 rfl (by decide) rfl rfl (T.aggOk rfl) (T.sizeOk rfl) rfl rfl ?_ | refine Ops.loadN 5 rfl (by decide) rfl rfl (T.aggOk rfl) (T.sizeOk rfl) rfl rfl ?_)
  refine Run.fin (Run.ret1 (by rw [hCf]; exact Proofs.Try.func25) Proofs.Try.results25 rfl (hR _ _ _ ?_))
  exact ⟨rfl, rfl⟩
end Go.V
