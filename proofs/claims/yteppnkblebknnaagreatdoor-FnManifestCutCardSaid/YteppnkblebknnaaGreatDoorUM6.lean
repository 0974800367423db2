import Derived.Test.YteppnkblebknnaaGreatDoorUM5
import Derived.MapKept
import Derived.Test.YteppnkblebknnaaGreatDoorUM4
set_option linter.unusedVariables false
set_option linter.unusedSimpArgs false
namespace Go.V
open Go.Proofs.Tryz
open Go.RowKit Go.MapKept
set_option maxRecDepth 10000
attribute [local irreducible] Run Ops QD
section
variable {P : Program} {n : Nat} {C : Cx} {k : List Item} {env : Env} {L : Own} {I : Imm} {ops : Array Oper} {i : Nat} {l : List Oper}
variable {ty : TypeId} {ps : String} {af : Array Edge} {g : Option (Nat × Bool)} {d : Nat}
theorem Ops.newMap {t : TypeId} (hg : want env ops g = some true) (hd : d < n)
  (next : ∀ b, Ops P n C ops (i + 1) l k ((d, .map (some b)) :: env) ((b, .map #[] 0) :: L) I) : Ops P n C ops i (⟨some d, .makeMap t none, ty, ps, af, g⟩ :: l) k env L I :=
 Ops.valW hg (dOk hd) fun a W he hi => ⟨.map (some W.heap.size), W.alloc (.map #[] 0), (W.heap.size, .map #[] 0) :: L, I,
  .inl (by
   have : ({ W with heap := W.heap.push (.map #[] 0) } : World) = W.alloc (.map #[] 0) := rfl
   simp [execOp, Instr.makeMap, newObj, Sem.run, this]; try rfl), hi.alloc _, next _⟩
theorem Ops.insC {t kt et : TypeId} {x y z : Operand} {b clock : Nat} {es : Array MapEntry} {key v : Value} {dk : TypeDesc} (j : Nat) (T : Tab P) (hg : want env ops g = some true) (hx : opnd env x = some (.map (some b))) (hy : opnd env y = some key) (hz : opnd env z = some v)
  (hL : L[j]? = some (b, .map es clock)) (hu : T.und t = some (.map kt et)) (hk : T.und kt = some dk) (hkey : IsKey dk key) (hf : Instr.findNow dk key es.toList 0 = some none)
  (next : Ops P n C ops (i + 1) l k env (upL L j (.map (es.push { key := key, val := v, born := clock }) (clock + 1))) I) : Ops P n C ops i (⟨none, .insert t x y z, ty, ps, af, g⟩ :: l) k env L I :=
 Ops.valW hg dNo fun a W he hi => by
  have hW := hi.fits.own b _ (List.mem_of_getElem? hL)
  obtain ⟨R, hp1, hp2⟩ := upL_perm L j b _ (.map (es.push { key := key, val := v, born := clock }) (clock + 1)) hL
  refine ⟨undef, _, _, I, .inr ⟨?_, rfl⟩, ((hi.perm hp1).setObj _).perm hp2.symm, next⟩
  have hu' := und_of_run (W := W) (T.undOk hu W)
  have hk' := und_of_run (W := W) (T.undOk hk W)
  have hgo := run_getObj (P := P) hW (fun _ _ _ h => by cases h)
  have hc : (Instr.checkKey false 10000 kt key).run P W = .ok () W := run_checkKey hk' hkey false 9999
  have hF := run_findKey (P := P) (w := W) hk' hf
  have hs := run_setObj (P := P) (o' := .map (es.push { key := key, val := v, born := clock }) (clock + 1)) hW (fun _ _ _ h => by cases h)
  have hr : (Instr.mapUpdate t (.map (some b)) key v).run P W = .ok () { W with heap := W.heap.setIfInBounds b (.map (es.push { key := key, val := v, born := clock }) (clock + 1)) } := by
   simp only [Instr.mapUpdate, Sem.run_bind, run_underlying hu', Result.andThen_ok, hgo, hc, hF, hs]
  simp only [execOp, eval_opnd he hx, eval_opnd he hy, eval_opnd he hz, Sem.run_bind, hr, Result.andThen_ok]; rfl
theorem Ops.lookC {t kt et : TypeId} {x y : Operand} {b clock q : Nat} {es : Array MapEntry} {key v : Value} {dk : TypeDesc} (j : Nat) (T : Tab P) (hg : want env ops g = some true) (hd : d < n) (hx : opnd env x = some (.map (some b))) (hy : opnd env y = some key)
  (hL : L[j]? = some (b, .map es clock)) (hu : T.und t = some (.map kt et)) (hk : T.und kt = some dk) (hkey : IsKey dk key) (hf : Instr.findNow dk key es.toList 0 = some (some (q, v)))
  (next : Ops P n C ops (i + 1) l k ((d, v) :: env) L I) : Ops P n C ops i (⟨some d, .lookup t x y false, ty, ps, af, g⟩ :: l) k env L I :=
 Ops.val hg (dOk hd) (fun a W he hi => by
  have hW := hi.fits.own b _ (List.mem_of_getElem? hL)
  have hu' := und_of_run (W := W) (T.undOk hu W)
  have hk' := und_of_run (W := W) (T.undOk hk W)
  have hgo := run_getObj (P := P) hW (fun _ _ _ h => by cases h)
  have hc : (Instr.checkKey es.isEmpty 10000 kt key).run P W = .ok () W := run_checkKey hk' hkey es.isEmpty 9999
  have hF := run_findKey (P := P) (w := W) hk' hf
  have hr : (Instr.lookup t (.map (some b)) key false).run P W = .ok v W := by
   simp only [Instr.lookup, Sem.run_bind, run_underlying hu', Result.andThen_ok, hgo, hc, hF, Sem.run_pure]; rfl
  simp only [execOp, eval_opnd he hx, eval_opnd he hy, Sem.run_bind, hr, Result.andThen_ok]; rfl) next
end
def quoI (b : Nat) (rs : List Nat) (m : Nat) (env : Env) (L : Own) (J : Imm) : Prop := ∃ u rest : List Nat, m = rest.length ∧ rs = u ++ rest ∧
  env = [(0, str (encs rs)), (3, str (34 :: u.flatMap quo1)), (7, .pointer (some ⟨b, 0, none⟩))] ∧ L = [(b, .stringIter (ba (encs rs)) (encs u).length)]
theorem encs_len_le4 : ∀ rs : List Nat, (encs rs).length ≤ 4 * rs.length
 | [] => by simp [encs]
 | r :: rs => by
  have := encs_len_le4 rs
  have := encR_pos r
  rw [encs_cons, List.length_append, List.length_cons]; omega
set_option maxHeartbeats 4000000 in
theorem spec_quoted (I : Imm) (rs : List Nat) (hg : ∀ r ∈ rs, goodR r) (hs : rs.length ≤ 137438953472) : Pure prog 89 [str (encs rs)] I fun w J => w = str (quo rs) := by
 refine Spec.enter 104 [(0, _)] func89 rfl ntmps89 (by simp) rfl ?_
 intro C hCf hR hCI
 refine Run.seq ?_
 refine Run.regionO (D := [some 2]) [true] rfl rfl rfl (fun Z hZ => ?_)
 refine q1 dc rfl rfl ?_
 refine QD.nil (hZ _ ?_)
 clear hZ Z
 refine Run.seq ?_
 refine Run.regionO (D := [some 3]) [true] rfl rfl rfl (fun Z hZ => ?_)
 refine q1 dc rfl rfl ?_
 refine QD.nil (hZ _ ?_)
 clear hZ Z
 repeat refine Run.seq ?_
 refine Run.regionP (D := [some 6, some 7]) [true] 1 rfl rfl rfl (by simp only [List.drop_succ_cons, List.drop_zero]; rfl) (fun Z hZ => ?_)
 refine q1 dc rfl rfl ?_
 refine QD.nil (hZ _ ?_)
 clear hZ Z
 refine Ops.rangeStr T rfl dc rfl rfl (fun b => ?_)
 refine Ops.nil ?_
 refine Run.block ?_
 refine Run.keep [0, 3, 7] [_, _, _] rfl ?_
 refine Run.rounds (quoI b rs) rs.length ⟨[], rs, rfl, rfl, rfl, rfl⟩ ?_
 rintro m env L J ⟨u, rest, rfl, hrs, rfl, rfl⟩ ih
 have hul := flat_len u fun r hr => hg r (by rw [hrs]; simp [hr])
 have hrl := congrArg List.length hrs
 rw [List.length_append] at hrl
 refine Run.seq ?_
 cases rest with
 | nil =>
  rw [List.append_nil] at hrs
  subst hrs
  refine Run.region ?_
  refine Ops.nextStrEnd 0 rfl dc rfl rfl (by omega) ?_
  refine Ops.pure T rfl dc rfl ?_
  refine Ops.nil ?_
  repeat (first | refine Run.seq ?_ | refine Run.exit rfl ?_ | refine Run.cond_f rfl ?_)
  refine Run.regionO (D := [some 102, some 103, some 2]) [true, true, true] rfl rfl rfl (fun Z hZ => ?_)
  refine q1 dc rfl rfl ?_
  refine QD.e ((Ev.catS rfl rfl (by simp only [List.length_append, List.length_cons, List.length_nil] at *; omega)).as (show _ = str (quo rs) from congrArg str (by unfold quo; simp))) dc rfl ?_
  refine q1 dc rfl rfl ?_
  refine QD.nil (hZ _ ?_)
  clear hZ Z
  skip
  refine Run.fin (Run.ret1 (by rw [hCf]; exact func89) results89 rfl (hR _ _ _ ?_))
  exact ⟨rfl, rfl⟩
 | cons c rest =>
  have g := hg c (by rw [hrs]; simp)
  have hgl := g
  unfold goodR at hgl
  have hep := encR_pos c
  have hlen := encR_len g
  have hgood := encR_good g
  have hse : encs rs = encs u ++ (encR (c : Int) ++ encs rest) := by rw [hrs, encs_append, encs_cons]
  have hrune : runeAt (encs rs) (encs u).length = (c, (encR (c : Int)).length) := by rw [hse]; exact runeAt_mid g _ _
  have hsl := congrArg List.length hse
  simp only [List.length_append] at hsl
  simp only [List.length_cons] at hrl
  have h4 := encs_len_le4 rs
  refine Run.region ?_
  refine Ops.nextStr 0 rfl dc rfl rfl (by omega) ?_
  rw [hrune]
  refine Ops.pure T rfl dc rfl ?_
  refine Ops.nil ?_
  repeat (first | refine Run.seq ?_ | refine Run.skip ?_ | refine Run.block ?_ | refine Run.cond_t rfl ?_)
  refine Run.regionO (D := [some 10, some 11, some 4, some 5]) [true, true, true, true] rfl rfl rfl (fun Z hZ => ?_)
  iterate 4 refine q1 dc rfl rfl ?_
  refine QD.nil (hZ _ ?_)
  clear hZ Z
  repeat (first | refine Run.seq ?_ | refine Run.block ?_)
  by_cases h34 : c = 34 ∨ c = 92
  ·have hq : quo1 c = 92 :: encR (c : Int) := by unfold quo1; rw [if_pos h34]
   rcases h34 with h34 | h34
   ·skip
    refine Run.regionO (D := [some 17, some 18, some 19, some 20, some 21, some 22, some 16]) [true, true, true, true, true, true, true] rfl rfl rfl (fun Z hZ => ?_)
    refine q1 dc rfl rfl ?_
    refine qt (Ev.eqlI rfl rfl) (by omega) dc rfl ?_
    refine q1 dc rfl rfl ?_
    iterate 2 refine QD.off dc rfl ?_
    iterate 2 refine q1 dc rfl rfl ?_
    refine QD.nil (hZ _ ?_)
    clear hZ Z
    refine Run.cond_t rfl ?_
    refine Run.regionO (D := [some 23, some 24, some 25, some 26, some 27, some 3]) [true, true, true, true, true, true] rfl rfl rfl (fun Z hZ => ?_)
    iterate 2 refine q1 dc rfl rfl ?_
    refine QD.e (Ev.convRune T rfl rfl rfl) dc rfl ?_
    refine QD.e (Ev.catS rfl rfl (by simp only [List.length_append, List.length_cons, List.length_nil] at *; omega)) dc rfl ?_
    refine QD.e ((Ev.catS rfl rfl (by simp only [List.length_append, List.length_cons, List.length_nil] at *; omega)).as (show _ = str (34 :: u.flatMap quo1 ++ quo1 c) from congrArg str (by rw [hq]; simp only [List.cons_append, List.nil_append]))) dc rfl ?_
    refine q1 dc rfl rfl ?_
    refine QD.nil (hZ _ ?_)
    clear hZ Z
    repeat refine Run.inBlock ?_
    refine Run.dropL (L' := [(b, _)]) (List.Sublist.refl _) ?_
    refine Run.keep [0, 3, 7] [_, _, _] rfl ?_
    exact ih rest.length _ _ _ (by simp only [List.length_cons]; omega) ⟨u ++ [c], rest, rfl, by rw [hrs]; simp, by rw [List.flatMap_append, List.flatMap_singleton]; rfl, by rw [encs_append, List.length_append]; simp [encs]⟩
   ·skip
    refine Run.regionO (D := [some 17, some 18, some 19, some 20, some 21, some 22, some 16]) [true, true, true, true, true, true, true] rfl rfl rfl (fun Z hZ => ?_)
    refine q1 dc rfl rfl ?_
    refine qf (Ev.eqlI rfl rfl) (by omega) dc rfl ?_
    iterate 2 refine q1 dc rfl rfl ?_
    refine qt (Ev.eqlI rfl rfl) (by omega) dc rfl ?_
    iterate 2 refine q1 dc rfl rfl ?_
    refine QD.nil (hZ _ ?_)
    clear hZ Z
    refine Run.cond_t rfl ?_
    refine Run.regionO (D := [some 23, some 24, some 25, some 26, some 27, some 3]) [true, true, true, true, true, true] rfl rfl rfl (fun Z hZ => ?_)
    iterate 2 refine q1 dc rfl rfl ?_
    refine QD.e (Ev.convRune T rfl rfl rfl) dc rfl ?_
    refine QD.e (Ev.catS rfl rfl (by simp only [List.length_append, List.length_cons, List.length_nil] at *; omega)) dc rfl ?_
    refine QD.e ((Ev.catS rfl rfl (by simp only [List.length_append, List.length_cons, List.length_nil] at *; omega)).as (show _ = str (34 :: u.flatMap quo1 ++ quo1 c) from congrArg str (by rw [hq]; simp only [List.cons_append, List.nil_append]))) dc rfl ?_
    refine q1 dc rfl rfl ?_
    refine QD.nil (hZ _ ?_)
    clear hZ Z
    repeat refine Run.inBlock ?_
    refine Run.dropL (L' := [(b, _)]) (List.Sublist.refl _) ?_
    refine Run.keep [0, 3, 7] [_, _, _] rfl ?_
    exact ih rest.length _ _ _ (by simp only [List.length_cons]; omega) ⟨u ++ [c], rest, rfl, by rw [hrs]; simp, by rw [List.flatMap_append, List.flatMap_singleton]; rfl, by rw [encs_append, List.length_append]; simp [encs]⟩
  have h34a : ¬ c = 34 := fun h => h34 (.inl h)
  have h34b : ¬ c = 92 := fun h => h34 (.inr h)
  refine Run.regionO (D := [some 17, some 18, some 19, some 20, some 21, some 22, some 16]) [true, true, true, true, true, true, true] rfl rfl rfl (fun Z hZ => ?_)
  refine q1 dc rfl rfl ?_
  refine qf (Ev.eqlI rfl rfl) (by omega) dc rfl ?_
  iterate 2 refine q1 dc rfl rfl ?_
  refine qf (Ev.eqlI rfl rfl) (by omega) dc rfl ?_
  iterate 2 refine q1 dc rfl rfl ?_
  refine QD.nil (hZ _ ?_)
  clear hZ Z
  repeat (first | refine Run.seq ?_ | refine Run.cond_f rfl ?_)
  by_cases h8 : c = 8
  ·subst h8
   refine Run.regionO (D := [some 29, some 30, some 31, some 32, some 33, some 34, some 35, some 36, some 37, some 38, some 39, some 40, some 41, some 42, some 43, some 44, some 45, some 46, some 28]) [true, true, true, true, true, true, true, true, true, true, true, true, true, true, true, true, true, true, true] rfl rfl rfl (fun Z hZ => ?_)
   refine q1 dc rfl rfl ?_
   refine qt (Ev.eqlI rfl rfl) (by omega) dc rfl ?_
   refine q1 dc rfl rfl ?_
   iterate 2 refine QD.off dc rfl ?_
   iterate 2 refine q1 dc rfl rfl ?_
   iterate 2 refine QD.off dc rfl ?_
   iterate 2 refine q1 dc rfl rfl ?_
   iterate 2 refine QD.off dc rfl ?_
   iterate 2 refine q1 dc rfl rfl ?_
   iterate 2 refine QD.off dc rfl ?_
   iterate 2 refine q1 dc rfl rfl ?_
   refine QD.nil (hZ _ ?_)
   clear hZ Z
   refine Run.cond_t rfl ?_
   have hkey : ∀ c : Int, IsKey (.int .i32) (.int .i32 c) := fun c => rfl
   refine Run.region ?_
   refine Ops.pure T rfl dc rfl ?_
   refine Ops.newMap rfl dc fun bm => ?_
   iterate 5 refine Ops.insC 0 T rfl rfl rfl rfl rfl rfl rfl (hkey _) rfl ?_
   iterate 2 refine Ops.pure T rfl dc rfl ?_
   refine Ops.lookC 0 T rfl dc rfl rfl rfl rfl rfl (hkey _) rfl ?_
   refine Ops.ev (Ev.catS rfl rfl dc) rfl dc ?_
   refine Ops.ev ((Ev.catS rfl rfl (by simp only [List.length_append, List.length_cons, List.length_nil] at *; omega)).as (show _ = str (34 :: u.flatMap quo1 ++ quo1 8) from congrArg str (by rw [show quo1 8 = [92, 98] from rfl]; rfl))) rfl dc ?_
   refine Ops.pure T rfl dc rfl ?_
   refine Ops.nil ?_
   repeat refine Run.inBlock ?_
   refine Run.dropL (L' := [(b, _)]) (List.sublist_cons_self _ _) ?_
   refine Run.keep [0, 3, 7] [_, _, _] rfl ?_
   exact ih rest.length _ _ _ (by simp only [List.length_cons]; omega) ⟨u ++ [8], rest, rfl, by rw [hrs]; simp, by rw [List.flatMap_append, List.flatMap_singleton]; rfl, by rw [encs_append, List.length_append]; simp [encs]⟩
  by_cases h12 : c = 12
  ·subst h12
   refine Run.regionO (D := [some 29, some 30, some 31, some 32, some 33, some 34, some 35, some 36, some 37, some 38, some 39, some 40, some 41, some 42, some 43, some 44, some 45, some 46, some 28]) [true, true, true, true, true, true, true, true, true, true, true, true, true, true, true, true, true, true, true] rfl rfl rfl (fun Z hZ => ?_)
   refine q1 dc rfl rfl ?_
   refine qf (Ev.eqlI rfl rfl) (by omega) dc rfl ?_
   iterate 2 refine q1 dc rfl rfl ?_
   refine qt (Ev.eqlI rfl rfl) (by omega) dc rfl ?_
   iterate 2 refine q1 dc rfl rfl ?_
   iterate 2 refine QD.off dc rfl ?_
   iterate 2 refine q1 dc rfl rfl ?_
   iterate 2 refine QD.off dc rfl ?_
   iterate 2 refine q1 dc rfl rfl ?_
   iterate 2 refine QD.off dc rfl ?_
   iterate 2 refine q1 dc rfl rfl ?_
   refine QD.nil (hZ _ ?_)
   clear hZ Z
   refine Run.cond_t rfl ?_
   have hkey : ∀ c : Int, IsKey (.int .i32) (.int .i32 c) := fun c => rfl
   refine Run.region ?_
   refine Ops.pure T rfl dc rfl ?_
   refine Ops.newMap rfl dc fun bm => ?_
   iterate 5 refine Ops.insC 0 T rfl rfl rfl rfl rfl rfl rfl (hkey _) rfl ?_
   iterate 2 refine Ops.pure T rfl dc rfl ?_
   refine Ops.lookC 0 T rfl dc rfl rfl rfl rfl rfl (hkey _) rfl ?_
   refine Ops.ev (Ev.catS rfl rfl dc) rfl dc ?_
   refine Ops.ev ((Ev.catS rfl rfl (by simp only [List.length_append, List.length_cons, List.length_nil] at *; omega)).as (show _ = str (34 :: u.flatMap quo1 ++ quo1 12) from congrArg str (by rw [show quo1 12 = [92, 102] from rfl]; rfl))) rfl dc ?_
   refine Ops.pure T rfl dc rfl ?_
   refine Ops.nil ?_
   repeat refine Run.inBlock ?_
   refine Run.dropL (L' := [(b, _)]) (List.sublist_cons_self _ _) ?_
   refine Run.keep [0, 3, 7] [_, _, _] rfl ?_
   exact ih rest.length _ _ _ (by simp only [List.length_cons]; omega) ⟨u ++ [12], rest, rfl, by rw [hrs]; simp, by rw [List.flatMap_append, List.flatMap_singleton]; rfl, by rw [encs_append, List.length_append]; simp [encs]⟩
  by_cases h10 : c = 10
  ·subst h10
   refine Run.regionO (D := [some 29, some 30, some 31, some 32, some 33, some 34, some 35, some 36, some 37, some 38, some 39, some 40, some 41, some 42, some 43, some 44, some 45, some 46, some 28]) [true, true, true, true, true, true, true, true, true, true, true, true, true, true, true, true, true, true, true] rfl rfl rfl (fun Z hZ => ?_)
   refine q1 dc rfl rfl ?_
   refine qf (Ev.eqlI rfl rfl) (by omega) dc rfl ?_
   iterate 2 refine q1 dc rfl rfl ?_
   refine qf (Ev.eqlI rfl rfl) (by omega) dc rfl ?_
   iterate 3 refine q1 dc rfl rfl ?_
   refine qt (Ev.eqlI rfl rfl) (by omega) dc rfl ?_
   iterate 2 refine q1 dc rfl rfl ?_
   iterate 2 refine QD.off dc rfl ?_
   iterate 2 refine q1 dc rfl rfl ?_
   iterate 2 refine QD.off dc rfl ?_
   iterate 2 refine q1 dc rfl rfl ?_
   refine QD.nil (hZ _ ?_)
   clear hZ Z
   refine Run.cond_t rfl ?_
   have hkey : ∀ c : Int, IsKey (.int .i32) (.int .i32 c) := fun c => rfl
   refine Run.region ?_
   refine Ops.pure T rfl dc rfl ?_
   refine Ops.newMap rfl dc fun bm => ?_
   iterate 5 refine Ops.insC 0 T rfl rfl rfl rfl rfl rfl rfl (hkey _) rfl ?_
   iterate 2 refine Ops.pure T rfl dc rfl ?_
   refine Ops.lookC 0 T rfl dc rfl rfl rfl rfl rfl (hkey _) rfl ?_
   refine Ops.ev (Ev.catS rfl rfl dc) rfl dc ?_
   refine Ops.ev ((Ev.catS rfl rfl (by simp only [List.length_append, List.length_cons, List.length_nil] at *; omega)).as (show _ = str (34 :: u.flatMap quo1 ++ quo1 10) from congrArg str (by rw [show quo1 10 = [92, 110] from rfl]; rfl))) rfl dc ?_
   refine Ops.pure T rfl dc rfl ?_
   refine Ops.nil ?_
   repeat refine Run.inBlock ?_
   refine Run.dropL (L' := [(b, _)]) (List.sublist_cons_self _ _) ?_
   refine Run.keep [0, 3, 7] [_, _, _] rfl ?_
   exact ih rest.length _ _ _ (by simp only [List.length_cons]; omega) ⟨u ++ [10], rest, rfl, by rw [hrs]; simp, by rw [List.flatMap_append, List.flatMap_singleton]; rfl, by rw [encs_append, List.length_append]; simp [encs]⟩
  by_cases h13 : c = 13
  ·subst h13
   refine Run.regionO (D := [some 29, some 30, some 31, some 32, some 33, some 34, some 35, some 36, some 37, some 38, some 39, some 40, some 41, some 42, some 43, some 44, some 45, some 46, some 28]) [true, true, true, true, true, true, true, true, true, true, true, true, true, true, true, true, true, true, true] rfl rfl rfl (fun Z hZ => ?_)
   refine q1 dc rfl rfl ?_
   refine qf (Ev.eqlI rfl rfl) (by omega) dc rfl ?_
   iterate 2 refine q1 dc rfl rfl ?_
   refine qf (Ev.eqlI rfl rfl) (by omega) dc rfl ?_
   iterate 3 refine q1 dc rfl rfl ?_
   refine qf (Ev.eqlI rfl rfl) (by omega) dc rfl ?_
   iterate 3 refine q1 dc rfl rfl ?_
   refine qt (Ev.eqlI rfl rfl) (by omega) dc rfl ?_
   iterate 2 refine q1 dc rfl rfl ?_
   iterate 2 refine QD.off dc rfl ?_
   iterate 2 refine q1 dc rfl rfl ?_
   refine QD.nil (hZ _ ?_)
   clear hZ Z
   refine Run.cond_t rfl ?_
   have hkey : ∀ c : Int, IsKey (.int .i32) (.int .i32 c) := fun c => rfl
   refine Run.region ?_
   refine Ops.pure T rfl dc rfl ?_
   refine Ops.newMap rfl dc fun bm => ?_
   iterate 5 refine Ops.insC 0 T rfl rfl rfl rfl rfl rfl rfl (hkey _) rfl ?_
   iterate 2 refine Ops.pure T rfl dc rfl ?_
   refine Ops.lookC 0 T rfl dc rfl rfl rfl rfl rfl (hkey _) rfl ?_
   refine Ops.ev (Ev.catS rfl rfl dc) rfl dc ?_
   refine Ops.ev ((Ev.catS rfl rfl (by simp only [List.length_append, List.length_cons, List.length_nil] at *; omega)).as (show _ = str (34 :: u.flatMap quo1 ++ quo1 13) from congrArg str (by rw [show quo1 13 = [92, 114] from rfl]; rfl))) rfl dc ?_
   refine Ops.pure T rfl dc rfl ?_
   refine Ops.nil ?_
   repeat refine Run.inBlock ?_
   refine Run.dropL (L' := [(b, _)]) (List.sublist_cons_self _ _) ?_
   refine Run.keep [0, 3, 7] [_, _, _] rfl ?_
   exact ih rest.length _ _ _ (by simp only [List.length_cons]; omega) ⟨u ++ [13], rest, rfl, by rw [hrs]; simp, by rw [List.flatMap_append, List.flatMap_singleton]; rfl, by rw [encs_append, List.length_append]; simp [encs]⟩
  by_cases h9 : c = 9
  ·subst h9
   refine Run.regionO (D := [some 29, some 30, some 31, some 32, some 33, some 34, some 35, some 36, some 37, some 38, some 39, some 40, some 41, some 42, some 43, some 44, some 45, some 46, some 28]) [true, true, true, true, true, true, true, true, true, true, true, true, true, true, true, true, true, true, true] rfl rfl rfl (fun Z hZ => ?_)
   refine q1 dc rfl rfl ?_
   refine qf (Ev.eqlI rfl rfl) (by omega) dc rfl ?_
   iterate 2 refine q1 dc rfl rfl ?_
   refine qf (Ev.eqlI rfl rfl) (by omega) dc rfl ?_
   iterate 3 refine q1 dc rfl rfl ?_
   refine qf (Ev.eqlI rfl rfl) (by omega) dc rfl ?_
   iterate 3 refine q1 dc rfl rfl ?_
   refine qf (Ev.eqlI rfl rfl) (by omega) dc rfl ?_
   iterate 3 refine q1 dc rfl rfl ?_
   refine qt (Ev.eqlI rfl rfl) (by omega) dc rfl ?_
   iterate 2 refine q1 dc rfl rfl ?_
   refine QD.nil (hZ _ ?_)
   clear hZ Z
   refine Run.cond_t rfl ?_
   have hkey : ∀ c : Int, IsKey (.int .i32) (.int .i32 c) := fun c => rfl
   refine Run.region ?_
   refine Ops.pure T rfl dc rfl ?_
   refine Ops.newMap rfl dc fun bm => ?_
   iterate 5 refine Ops.insC 0 T rfl rfl rfl rfl rfl rfl rfl (hkey _) rfl ?_
   iterate 2 refine Ops.pure T rfl dc rfl ?_
   refine Ops.lookC 0 T rfl dc rfl rfl rfl rfl rfl (hkey _) rfl ?_
   refine Ops.ev (Ev.catS rfl rfl dc) rfl dc ?_
   refine Ops.ev ((Ev.catS rfl rfl (by simp only [List.length_append, List.length_cons, List.length_nil] at *; omega)).as (show _ = str (34 :: u.flatMap quo1 ++ quo1 9) from congrArg str (by rw [show quo1 9 = [92, 116] from rfl]; rfl))) rfl dc ?_
   refine Ops.pure T rfl dc rfl ?_
   refine Ops.nil ?_
   repeat refine Run.inBlock ?_
   refine Run.dropL (L' := [(b, _)]) (List.sublist_cons_self _ _) ?_
   refine Run.keep [0, 3, 7] [_, _, _] rfl ?_
   exact ih rest.length _ _ _ (by simp only [List.length_cons]; omega) ⟨u ++ [9], rest, rfl, by rw [hrs]; simp, by rw [List.flatMap_append, List.flatMap_singleton]; rfl, by rw [encs_append, List.length_append]; simp [encs]⟩
  refine Run.regionO (D := [some 29, some 30, some 31, some 32, some 33, some 34, some 35, some 36, some 37, some 38, some 39, some 40, some 41, some 42, some 43, some 44, some 45, some 46, some 28]) [true, true, true, true, true, true, true, true, true, true, true, true, true, true, true, true, true, true, true] rfl rfl rfl (fun Z hZ => ?_)
  refine q1 dc rfl rfl ?_
  refine qf (Ev.eqlI rfl rfl) (by omega) dc rfl ?_
  iterate 2 refine q1 dc rfl rfl ?_
  refine qf (Ev.eqlI rfl rfl) (by omega) dc rfl ?_
  iterate 3 refine q1 dc rfl rfl ?_
  refine qf (Ev.eqlI rfl rfl) (by omega) dc rfl ?_
  iterate 3 refine q1 dc rfl rfl ?_
  refine qf (Ev.eqlI rfl rfl) (by omega) dc rfl ?_
  iterate 3 refine q1 dc rfl rfl ?_
  refine qf (Ev.eqlI rfl rfl) (by omega) dc rfl ?_
  iterate 2 refine q1 dc rfl rfl ?_
  refine QD.nil (hZ _ ?_)
  clear hZ Z
  repeat (first | refine Run.seq ?_ | refine Run.cond_f rfl ?_)
  by_cases hx : c < 32 ∨ c = 60 ∨ c = 62 ∨ c = 38 ∨ c = 8232 ∨ c = 8233
  ·have hq : quo1 c = [92, 117] ++ hexes c := by unfold quo1; rw [if_neg h34, if_neg h8, if_neg h12, if_neg h10, if_neg h13, if_neg h9, if_pos hx]
   by_cases hx0 : c < 32
   ·skip
    refine Run.regionO (D := [some 55, some 56, some 57, some 58, some 59, some 60, some 61, some 62, some 63, some 64, some 65, some 66, some 67, some 68, some 69, some 70, some 71, some 72, some 73, some 74, some 75, some 76, some 54]) [true, true, true, true, true, true, true, true, true, true, true, true, true, true, true, true, true, true, true, true, true, true, true] rfl rfl rfl (fun Z hZ => ?_)
    refine q1 dc rfl rfl ?_
    refine qt (Ev.lss rfl rfl) (by omega) dc rfl ?_
    refine q1 dc rfl rfl ?_
    iterate 2 refine QD.off dc rfl ?_
    iterate 2 refine q1 dc rfl rfl ?_
    iterate 2 refine QD.off dc rfl ?_
    iterate 2 refine q1 dc rfl rfl ?_
    iterate 2 refine QD.off dc rfl ?_
    iterate 2 refine q1 dc rfl rfl ?_
    iterate 2 refine QD.off dc rfl ?_
    iterate 2 refine q1 dc rfl rfl ?_
    iterate 2 refine QD.off dc rfl ?_
    iterate 2 refine q1 dc rfl rfl ?_
    refine QD.nil (hZ _ ?_)
    clear hZ Z
    refine Run.cond_t rfl ?_
    refine Run.regionP (D := [some 77, some 78, some 79, some 80, some 81, some 3]) [true, true] 2 rfl rfl rfl (by simp only [List.drop_succ_cons, List.drop_zero]; rfl) (fun Z hZ => ?_)
    iterate 2 refine q1 dc rfl rfl ?_
    refine QD.nil (hZ _ ?_)
    clear hZ Z
    refine Ops.call ((spec_hexes _ c (by omega))) rfl dc call124 rfl ?_
    rintro w J l rfl
    refine Ops.ev (Ev.catS rfl rfl (by simp [hexes])) rfl dc ?_
    refine Ops.ev ((Ev.catS rfl rfl (by simp only [List.length_append, List.length_cons, List.length_nil, hexes] at *; omega)).as (show _ = str (34 :: u.flatMap quo1 ++ quo1 c) from congrArg str (by rw [hq]))) rfl dc ?_
    refine Ops.pure T rfl dc rfl ?_
    refine Ops.nil ?_
    repeat refine Run.inBlock ?_
    refine Run.dropL (L' := [(b, _)]) (List.Sublist.refl _) ?_
    refine Run.keep [0, 3, 7] [_, _, _] rfl ?_
    exact ih rest.length _ _ _ (by simp only [List.length_cons]; omega) ⟨u ++ [c], rest, rfl, by rw [hrs]; simp, by rw [List.flatMap_append, List.flatMap_singleton]; rfl, by rw [encs_append, List.length_append]; simp [encs]⟩
   by_cases hx1 : c = 60
   ·skip
    refine Run.regionO (D := [some 55, some 56, some 57, some 58, some 59, some 60, some 61, some 62, some 63, some 64, some 65, some 66, some 67, some 68, some 69, some 70, some 71, some 72, some 73, some 74, some 75, some 76, some 54]) [true, true, true, true, true, true, true, true, true, true, true, true, true, true, true, true, true, true, true, true, true, true, true] rfl rfl rfl (fun Z hZ => ?_)
    refine q1 dc rfl rfl ?_
    refine qf (Ev.lss rfl rfl) (by omega) dc rfl ?_
    iterate 2 refine q1 dc rfl rfl ?_
    refine qt (Ev.eqlI rfl rfl) (by omega) dc rfl ?_
    iterate 2 refine q1 dc rfl rfl ?_
    iterate 2 refine QD.off dc rfl ?_
    iterate 2 refine q1 dc rfl rfl ?_
    iterate 2 refine QD.off dc rfl ?_
    iterate 2 refine q1 dc rfl rfl ?_
    iterate 2 refine QD.off dc rfl ?_
    iterate 2 refine q1 dc rfl rfl ?_
    iterate 2 refine QD.off dc rfl ?_
    iterate 2 refine q1 dc rfl rfl ?_
    refine QD.nil (hZ _ ?_)
    clear hZ Z
    refine Run.cond_t rfl ?_
    refine Run.regionP (D := [some 77, some 78, some 79, some 80, some 81, some 3]) [true, true] 2 rfl rfl rfl (by simp only [List.drop_succ_cons, List.drop_zero]; rfl) (fun Z hZ => ?_)
    iterate 2 refine q1 dc rfl rfl ?_
    refine QD.nil (hZ _ ?_)
    clear hZ Z
    refine Ops.call ((spec_hexes _ c (by omega))) rfl dc call124 rfl ?_
    rintro w J l rfl
    refine Ops.ev (Ev.catS rfl rfl (by simp [hexes])) rfl dc ?_
    refine Ops.ev ((Ev.catS rfl rfl (by simp only [List.length_append, List.length_cons, List.length_nil, hexes] at *; omega)).as (show _ = str (34 :: u.flatMap quo1 ++ quo1 c) from congrArg str (by rw [hq]))) rfl dc ?_
    refine Ops.pure T rfl dc rfl ?_
    refine Ops.nil ?_
    repeat refine Run.inBlock ?_
    refine Run.dropL (L' := [(b, _)]) (List.Sublist.refl _) ?_
    refine Run.keep [0, 3, 7] [_, _, _] rfl ?_
    exact ih rest.length _ _ _ (by simp only [List.length_cons]; omega) ⟨u ++ [c], rest, rfl, by rw [hrs]; simp, by rw [List.flatMap_append, List.flatMap_singleton]; rfl, by rw [encs_append, List.length_append]; simp [encs]⟩
   by_cases hx2 : c = 62
   ·skip
    refine Run.regionO (D := [some 55, some 56, some 57, some 58, some 59, some 60, some 61, some 62, some 63, some 64, some 65, some 66, some 67, some 68, some 69, some 70, some 71, some 72, some 73, some 74, some 75, some 76, some 54]) [true, true, true, true, true, true, true, true, true, true, true, true, true, true, true, true, true, true, true, true, true, true, true] rfl rfl rfl (fun Z hZ => ?_)
    refine q1 dc rfl rfl ?_
    refine qf (Ev.lss rfl rfl) (by omega) dc rfl ?_
    iterate 2 refine q1 dc rfl rfl ?_
    refine qf (Ev.eqlI rfl rfl) (by omega) dc rfl ?_
    iterate 3 refine q1 dc rfl rfl ?_
    refine qt (Ev.eqlI rfl rfl) (by omega) dc rfl ?_
    iterate 2 refine q1 dc rfl rfl ?_
    iterate 2 refine QD.off dc rfl ?_
    iterate 2 refine q1 dc rfl rfl ?_
    iterate 2 refine QD.off dc rfl ?_
    iterate 2 refine q1 dc rfl rfl ?_
    iterate 2 refine QD.off dc rfl ?_
    iterate 2 refine q1 dc rfl rfl ?_
    refine QD.nil (hZ _ ?_)
    clear hZ Z
    refine Run.cond_t rfl ?_
    refine Run.regionP (D := [some 77, some 78, some 79, some 80, some 81, some 3]) [true, true] 2 rfl rfl rfl (by simp only [List.drop_succ_cons, List.drop_zero]; rfl) (fun Z hZ => ?_)
    iterate 2 refine q1 dc rfl rfl ?_
    refine QD.nil (hZ _ ?_)
    clear hZ Z
    refine Ops.call ((spec_hexes _ c (by omega))) rfl dc call124 rfl ?_
    rintro w J l rfl
    refine Ops.ev (Ev.catS rfl rfl (by simp [hexes])) rfl dc ?_
    refine Ops.ev ((Ev.catS rfl rfl (by simp only [List.length_append, List.length_cons, List.length_nil, hexes] at *; omega)).as (show _ = str (34 :: u.flatMap quo1 ++ quo1 c) from congrArg str (by rw [hq]))) rfl dc ?_
    refine Ops.pure T rfl dc rfl ?_
    refine Ops.nil ?_
    repeat refine Run.inBlock ?_
    refine Run.dropL (L' := [(b, _)]) (List.Sublist.refl _) ?_
    refine Run.keep [0, 3, 7] [_, _, _] rfl ?_
    exact ih rest.length _ _ _ (by simp only [List.length_cons]; omega) ⟨u ++ [c], rest, rfl, by rw [hrs]; simp, by rw [List.flatMap_append, List.flatMap_singleton]; rfl, by rw [encs_append, List.length_append]; simp [encs]⟩
   by_cases hx3 : c = 38
   ·skip
    refine Run.regionO (D := [some 55, some 56, some 57, some 58, some 59, some 60, some 61, some 62, some 63, some 64, some 65, some 66, some 67, some 68, some 69, some 70, some 71, some 72, some 73, some 74, some 75, some 76, some 54]) [true, true, true, true, true, true, true, true, true, true, true, true, true, true, true, true, true, true, true, true, true, true, true] rfl rfl rfl (fun Z hZ => ?_)
    refine q1 dc rfl rfl ?_
    refine qf (Ev.lss rfl rfl) (by omega) dc rfl ?_
    iterate 2 refine q1 dc rfl rfl ?_
    refine qf (Ev.eqlI rfl rfl) (by omega) dc rfl ?_
    iterate 3 refine q1 dc rfl rfl ?_
    refine qf (Ev.eqlI rfl rfl) (by omega) dc rfl ?_
    iterate 3 refine q1 dc rfl rfl ?_
    refine qt (Ev.eqlI rfl rfl) (by omega) dc rfl ?_
    iterate 2 refine q1 dc rfl rfl ?_
    iterate 2 refine QD.off dc rfl ?_
    iterate 2 refine q1 dc rfl rfl ?_
    iterate 2 refine QD.off dc rfl ?_
    iterate 2 refine q1 dc rfl rfl ?_
    refine QD.nil (hZ _ ?_)
    clear hZ Z
    refine Run.cond_t rfl ?_
    refine Run.regionP (D := [some 77, some 78, some 79, some 80, some 81, some 3]) [true, true] 2 rfl rfl rfl (by simp only [List.drop_succ_cons, List.drop_zero]; rfl) (fun Z hZ => ?_)
    iterate 2 refine q1 dc rfl rfl ?_
    refine QD.nil (hZ _ ?_)
    clear hZ Z
    refine Ops.call ((spec_hexes _ c (by omega))) rfl dc call124 rfl ?_
    rintro w J l rfl
    refine Ops.ev (Ev.catS rfl rfl (by simp [hexes])) rfl dc ?_
    refine Ops.ev ((Ev.catS rfl rfl (by simp only [List.length_append, List.length_cons, List.length_nil, hexes] at *; omega)).as (show _ = str (34 :: u.flatMap quo1 ++ quo1 c) from congrArg str (by rw [hq]))) rfl dc ?_
    refine Ops.pure T rfl dc rfl ?_
    refine Ops.nil ?_
    repeat refine Run.inBlock ?_
    refine Run.dropL (L' := [(b, _)]) (List.Sublist.refl _) ?_
    refine Run.keep [0, 3, 7] [_, _, _] rfl ?_
    exact ih rest.length _ _ _ (by simp only [List.length_cons]; omega) ⟨u ++ [c], rest, rfl, by rw [hrs]; simp, by rw [List.flatMap_append, List.flatMap_singleton]; rfl, by rw [encs_append, List.length_append]; simp [encs]⟩
   by_cases hx4 : c = 8232
   ·skip
    refine Run.regionO (D := [some 55, some 56, some 57, some 58, some 59, some 60, some 61, some 62, some 63, some 64, some 65, some 66, some 67, some 68, some 69, some 70, some 71, some 72, some 73, some 74, some 75, some 76, some 54]) [true, true, true, true, true, true, true, true, true, true, true, true, true, true, true, true, true, true, true, true, true, true, true] rfl rfl rfl (fun Z hZ => ?_)
    refine q1 dc rfl rfl ?_
    refine qf (Ev.lss rfl rfl) (by omega) dc rfl ?_
    iterate 2 refine q1 dc rfl rfl ?_
    refine qf (Ev.eqlI rfl rfl) (by omega) dc rfl ?_
    iterate 3 refine q1 dc rfl rfl ?_
    refine qf (Ev.eqlI rfl rfl) (by omega) dc rfl ?_
    iterate 3 refine q1 dc rfl rfl ?_
    refine qf (Ev.eqlI rfl rfl) (by omega) dc rfl ?_
    iterate 3 refine q1 dc rfl rfl ?_
    refine qt (Ev.eqlI rfl rfl) (by omega) dc rfl ?_
    iterate 2 refine q1 dc rfl rfl ?_
    iterate 2 refine QD.off dc rfl ?_
    iterate 2 refine q1 dc rfl rfl ?_
    refine QD.nil (hZ _ ?_)
    clear hZ Z
    refine Run.cond_t rfl ?_
    refine Run.regionP (D := [some 77, some 78, some 79, some 80, some 81, some 3]) [true, true] 2 rfl rfl rfl (by simp only [List.drop_succ_cons, List.drop_zero]; rfl) (fun Z hZ => ?_)
    iterate 2 refine q1 dc rfl rfl ?_
    refine QD.nil (hZ _ ?_)
    clear hZ Z
    refine Ops.call ((spec_hexes _ c (by omega))) rfl dc call124 rfl ?_
    rintro w J l rfl
    refine Ops.ev (Ev.catS rfl rfl (by simp [hexes])) rfl dc ?_
    refine Ops.ev ((Ev.catS rfl rfl (by simp only [List.length_append, List.length_cons, List.length_nil, hexes] at *; omega)).as (show _ = str (34 :: u.flatMap quo1 ++ quo1 c) from congrArg str (by rw [hq]))) rfl dc ?_
    refine Ops.pure T rfl dc rfl ?_
    refine Ops.nil ?_
    repeat refine Run.inBlock ?_
    refine Run.dropL (L' := [(b, _)]) (List.Sublist.refl _) ?_
    refine Run.keep [0, 3, 7] [_, _, _] rfl ?_
    exact ih rest.length _ _ _ (by simp only [List.length_cons]; omega) ⟨u ++ [c], rest, rfl, by rw [hrs]; simp, by rw [List.flatMap_append, List.flatMap_singleton]; rfl, by rw [encs_append, List.length_append]; simp [encs]⟩
   ·skip
    refine Run.regionO (D := [some 55, some 56, some 57, some 58, some 59, some 60, some 61, some 62, some 63, some 64, some 65, some 66, some 67, some 68, some 69, some 70, some 71, some 72, some 73, some 74, some 75, some 76, some 54]) [true, true, true, true, true, true, true, true, true, true, true, true, true, true, true, true, true, true, true, true, true, true, true] rfl rfl rfl (fun Z hZ => ?_)
    refine q1 dc rfl rfl ?_
    refine qf (Ev.lss rfl rfl) (by omega) dc rfl ?_
    iterate 2 refine q1 dc rfl rfl ?_
    refine qf (Ev.eqlI rfl rfl) (by omega) dc rfl ?_
    iterate 3 refine q1 dc rfl rfl ?_
    refine qf (Ev.eqlI rfl rfl) (by omega) dc rfl ?_
    iterate 3 refine q1 dc rfl rfl ?_
    refine qf (Ev.eqlI rfl rfl) (by omega) dc rfl ?_
    iterate 3 refine q1 dc rfl rfl ?_
    refine qf (Ev.eqlI rfl rfl) (by omega) dc rfl ?_
    iterate 3 refine q1 dc rfl rfl ?_
    refine qt (Ev.eqlI rfl rfl) (by omega) dc rfl ?_
    iterate 2 refine q1 dc rfl rfl ?_
    refine QD.nil (hZ _ ?_)
    clear hZ Z
    refine Run.cond_t rfl ?_
    refine Run.regionP (D := [some 77, some 78, some 79, some 80, some 81, some 3]) [true, true] 2 rfl rfl rfl (by simp only [List.drop_succ_cons, List.drop_zero]; rfl) (fun Z hZ => ?_)
    iterate 2 refine q1 dc rfl rfl ?_
    refine QD.nil (hZ _ ?_)
    clear hZ Z
    refine Ops.call ((spec_hexes _ c (by omega))) rfl dc call124 rfl ?_
    rintro w J l rfl
    refine Ops.ev (Ev.catS rfl rfl (by simp [hexes])) rfl dc ?_
    refine Ops.ev ((Ev.catS rfl rfl (by simp only [List.length_append, List.length_cons, List.length_nil, hexes] at *; omega)).as (show _ = str (34 :: u.flatMap quo1 ++ quo1 c) from congrArg str (by rw [hq]))) rfl dc ?_
    refine Ops.pure T rfl dc rfl ?_
    refine Ops.nil ?_
    repeat refine Run.inBlock ?_
    refine Run.dropL (L' := [(b, _)]) (List.Sublist.refl _) ?_
    refine Run.keep [0, 3, 7] [_, _, _] rfl ?_
    exact ih rest.length _ _ _ (by simp only [List.length_cons]; omega) ⟨u ++ [c], rest, rfl, by rw [hrs]; simp, by rw [List.flatMap_append, List.flatMap_singleton]; rfl, by rw [encs_append, List.length_append]; simp [encs]⟩
  ·have hq : quo1 c = encR (c : Int) := by unfold quo1; rw [if_neg h34, if_neg h8, if_neg h12, if_neg h10, if_neg h13, if_neg h9, if_neg hx]
   refine Run.regionO (D := [some 55, some 56, some 57, some 58, some 59, some 60, some 61, some 62, some 63, some 64, some 65, some 66, some 67, some 68, some 69, some 70, some 71, some 72, some 73, some 74, some 75, some 76, some 54]) [true, true, true, true, true, true, true, true, true, true, true, true, true, true, true, true, true, true, true, true, true, true, true] rfl rfl rfl (fun Z hZ => ?_)
   refine q1 dc rfl rfl ?_
   refine qf (Ev.lss rfl rfl) (by omega) dc rfl ?_
   iterate 2 refine q1 dc rfl rfl ?_
   refine qf (Ev.eqlI rfl rfl) (by omega) dc rfl ?_
   iterate 3 refine q1 dc rfl rfl ?_
   refine qf (Ev.eqlI rfl rfl) (by omega) dc rfl ?_
   iterate 3 refine q1 dc rfl rfl ?_
   refine qf (Ev.eqlI rfl rfl) (by omega) dc rfl ?_
   iterate 3 refine q1 dc rfl rfl ?_
   refine qf (Ev.eqlI rfl rfl) (by omega) dc rfl ?_
   iterate 3 refine q1 dc rfl rfl ?_
   refine qf (Ev.eqlI rfl rfl) (by omega) dc rfl ?_
   iterate 2 refine q1 dc rfl rfl ?_
   refine QD.nil (hZ _ ?_)
   clear hZ Z
   repeat (first | refine Run.seq ?_ | refine Run.cond_f rfl ?_)
   by_cases hfd : c = 65533
   ·have h3l : (encR (c : Int)).length = 3 := by rw [hlen, if_neg (by omega), if_neg (by omega), if_pos (by omega)]
    have h3e : encR (c : Int) = [239, 191, 189] := by rw [hfd]; rfl
    refine Run.regionO (D := [some 83, some 84, some 85, some 86, some 87, some 88, some 89, some 90, some 91, some 92, some 93, some 94, some 95, some 96, some 97, some 98, some 99, some 82]) [true, true, true, true, true, true, true, true, true, true, true, true, true, true, true, true, true, true] rfl rfl rfl (fun Z hZ => ?_)
    refine q1 dc rfl rfl ?_
    refine qt (Ev.eqlI rfl rfl) (by omega) dc rfl ?_
    iterate 2 refine q1 dc rfl rfl ?_
    refine QD.e (Ev.addK (r := (((encs u).length + 3 : Nat) : Int)) rfl rfl (by rw [wI (by omega) (by omega)]; omega)) dc rfl ?_
    refine q1 dc rfl rfl ?_
    refine QD.e (Ev.lenS T rfl rfl) dc rfl ?_
    refine qf (Ev.gtr rfl rfl) (by omega) dc rfl ?_
    iterate 4 refine q1 dc rfl rfl ?_
    refine QD.e (Ev.addK (r := (((encs u).length + 3 : Nat) : Int)) rfl rfl (by rw [wI (by omega) (by omega)]; omega)) dc rfl ?_
    refine QD.e ((Ev.cutS T rfl rfl rfl rfl (by omega) (by omega) (by omega)).as (show _ = str [239, 191, 189] from congrArg str (by rw [hse, h3e, Int.toNat_natCast, Int.toNat_natCast]; simp [List.take_append]))) dc rfl ?_
    refine QD.e ((Ev.neqS rfl rfl).as (show _ = Value.bool false from rfl)) dc rfl ?_
    iterate 3 refine q1 dc rfl rfl ?_
    refine QD.nil (hZ _ ?_)
    clear hZ Z
    refine Run.cond_f rfl ?_
    refine Run.regionO (D := [some 12, some 13, some 14, some 15, some 3]) [true, true, true, true, true] rfl rfl rfl (fun Z hZ => ?_)
    iterate 2 refine q1 dc rfl rfl ?_
    refine QD.e (Ev.convRune T rfl rfl rfl) dc rfl ?_
    refine QD.e ((Ev.catS rfl rfl (by simp only [List.length_append, List.length_cons, List.length_nil] at *; omega)).as (show _ = str (34 :: u.flatMap quo1 ++ quo1 c) from congrArg str (by rw [hq]))) dc rfl ?_
    refine q1 dc rfl rfl ?_
    refine QD.nil (hZ _ ?_)
    clear hZ Z
    repeat refine Run.inBlock ?_
    refine Run.dropL (L' := [(b, _)]) (List.Sublist.refl _) ?_
    refine Run.keep [0, 3, 7] [_, _, _] rfl ?_
    exact ih rest.length _ _ _ (by simp only [List.length_cons]; omega) ⟨u ++ [c], rest, rfl, by rw [hrs]; simp, by rw [List.flatMap_append, List.flatMap_singleton]; rfl, by rw [encs_append, List.length_append]; simp [encs]⟩
   ·skip
    refine Run.regionO (D := [some 83, some 84, some 85, some 86, some 87, some 88, some 89, some 90, some 91, some 92, some 93, some 94, some 95, some 96, some 97, some 98, some 99, some 82]) [true, true, true, true, true, true, true, true, true, true, true, true, true, true, true, true, true, true] rfl rfl rfl (fun Z hZ => ?_)
    refine q1 dc rfl rfl ?_
    refine qf (Ev.eqlI rfl rfl) (by omega) dc rfl ?_
    refine q1 dc rfl rfl ?_
    iterate 13 refine QD.off dc rfl ?_
    iterate 2 refine q1 dc rfl rfl ?_
    refine QD.nil (hZ _ ?_)
    clear hZ Z
    refine Run.cond_f rfl ?_
    refine Run.regionO (D := [some 12, some 13, some 14, some 15, some 3]) [true, true, true, true, true] rfl rfl rfl (fun Z hZ => ?_)
    iterate 2 refine q1 dc rfl rfl ?_
    refine QD.e (Ev.convRune T rfl rfl rfl) dc rfl ?_
    refine QD.e ((Ev.catS rfl rfl (by simp only [List.length_append, List.length_cons, List.length_nil] at *; omega)).as (show _ = str (34 :: u.flatMap quo1 ++ quo1 c) from congrArg str (by rw [hq]))) dc rfl ?_
    refine q1 dc rfl rfl ?_
    refine QD.nil (hZ _ ?_)
    clear hZ Z
    repeat refine Run.inBlock ?_
    refine Run.dropL (L' := [(b, _)]) (List.Sublist.refl _) ?_
    refine Run.keep [0, 3, 7] [_, _, _] rfl ?_
    exact ih rest.length _ _ _ (by simp only [List.length_cons]; omega) ⟨u ++ [c], rest, rfl, by rw [hrs]; simp, by rw [List.flatMap_append, List.flatMap_singleton]; rfl, by rw [encs_append, List.length_append]; simp [encs]⟩
end Go.V
namespace Go.V
open Go.Proofs.Tryz
open Go.RowKit
set_option maxRecDepth 10000
attribute [local irreducible] Run Ops QD
theorem tk_lt {n : Nat} (hn : 0 < n) (w : Bs) : (tk n w).1 < n := by
 cases w with
 | nil => exact hn
 | cons b t => exact Nat.mod_lt _ hn
theorem wrune_len {c : Nat} (g : goodR c) (n : Nat) : (wrune c n).length ≤ 12 := by
 have h := encR_pos c
 have h2 := quo1_len g
 unfold wrune hexes
 repeat' split
 all_goals simp <;> omega
theorem wtext_len : ∀ (rs : List Nat) (w : Bs), (∀ r ∈ rs, goodR r) → (wtext rs w).1.length ≤ 12 * rs.length
 | [], _, _ => by simp [wtext]
 | r :: rs, w, h => by
  have := wtext_len rs (tk 8 w).2 fun x hx => h x (by simp [hx])
  have := wrune_len (h r (by simp)) (tk 8 w).1
  simp only [wtext, List.length_append, List.length_cons]; omega
def txtI (b p : Nat) (rs : List Nat) (w : Bs) (m : Nat) (env : Env) (L : Own) (J : Imm) : Prop := ∃ (u rest : List Nat) (acc w' : Bs) (o : Obj), m = rest.length ∧ rs = u ++ rest ∧ acc ++ (wtext rest w').1 = (wtext rs w).1 ∧ (wtext rest w').2 = (wtext rs w).2 ∧
  env = [(0, .pointer (some ⟨p, 0, none⟩)), (5, str (34 :: acc)), (11, .pointer (some ⟨b, 0, none⟩))] ∧ L = [(b, .stringIter (ba (encs rs)) (encs u).length), (p, o)] ∧ Wy J w' o
set_option maxHeartbeats 4000000 in
theorem way_text (I : Imm) (rs : List Nat) (hg : ∀ r ∈ rs, goodR r) (w : Bs) (p : Nat) (o : Obj) (hW : Wy I w o) (hs : rs.length ≤ 34359738368) :
  Spec prog 87 [.pointer (some ⟨p, 0, none⟩), str (encs rs)] I [(p, o)] fun v J M => v = str (wquo (encs rs) w).1 ∧ ∃ o', M = [(p, o')] ∧ Wy J (wquo (encs rs) w).2 o' := by
 have hwl := wtext_len rs w hg
 unfold wquo
 rw [runesOf_encs hg]
 refine Spec.enter 83 [(0, _), (1, _)] func87 rfl ntmps87 (by simp) rfl ?_
 intro C hCf hR hCI
 refine Run.seq ?_
 refine Run.regionO (D := [some 4]) [true] rfl rfl rfl (fun Z hZ => ?_)
 refine q1 dc rfl rfl ?_
 refine QD.nil (hZ _ ?_)
 clear hZ Z
 refine Run.seq ?_
 refine Run.regionO (D := [some 5]) [true] rfl rfl rfl (fun Z hZ => ?_)
 refine q1 dc rfl rfl ?_
 refine QD.nil (hZ _ ?_)
 clear hZ Z
 repeat refine Run.seq ?_
 refine Run.regionP (D := [some 10, some 11]) [true] 1 rfl rfl rfl (by simp only [List.drop_succ_cons, List.drop_zero]; rfl) (fun Z hZ => ?_)
 refine q1 dc rfl rfl ?_
 refine QD.nil (hZ _ ?_)
 clear hZ Z
 refine Ops.rangeStr T rfl dc rfl rfl (fun b => ?_)
 refine Ops.nil ?_
 refine Run.block ?_
 refine Run.keep [0, 5, 11] [_, _, _] rfl ?_
 refine Run.rounds (txtI b p rs w) rs.length ⟨[], rs, [], w, o, rfl, rfl, rfl, rfl, rfl, rfl, hW⟩ ?_
 rintro m env L J ⟨u, rest, acc, w', o, rfl, hrs, hacc, hrem, rfl, rfl, hWy⟩ ih
 have hrl := congrArg List.length hrs
 rw [List.length_append] at hrl
 have hal := congrArg List.length hacc
 rw [List.length_append] at hal
 have h4 := encs_len_le4 rs
 refine Run.seq ?_
 cases rest with
 | nil =>
  rw [List.append_nil] at hrs
  subst hrs
  simp only [wtext, List.append_nil] at hacc hrem
  subst hacc
  refine Run.region ?_
  refine Ops.nextStrEnd 0 rfl dc rfl rfl (by omega) ?_
  refine Ops.pure T rfl dc rfl ?_
  refine Ops.nil ?_
  repeat (first | refine Run.seq ?_ | refine Run.exit rfl ?_ | refine Run.cond_f rfl ?_)
  refine Run.regionO (D := [some 81, some 82, some 4]) [true, true, true] rfl rfl rfl (fun Z hZ => ?_)
  refine q1 dc rfl rfl ?_
  refine QD.e ((Ev.catS rfl rfl (by simp only [List.length_append, List.length_cons, List.length_nil] at *; omega)).as (show _ = str ([34] ++ (wtext rs w).1 ++ [34]) from congrArg str (by simp))) dc rfl ?_
  refine q1 dc rfl rfl ?_
  refine QD.nil (hZ _ ?_)
  clear hZ Z
  skip
  refine Run.dropL (L' := [(p, o)]) (List.sublist_cons_self _ _) ?_
  refine Run.ret1 (by rw [hCf]; exact func87) results87 rfl (hR _ _ _ ?_)
  exact ⟨rfl, o, rfl, by rw [← hrem]; exact hWy⟩
 | cons c rest =>
  have g := hg c (by rw [hrs]; simp)
  have hgl := g
  unfold goodR at hgl
  have hep := encR_pos c
  have hlen := encR_len g
  have hse : encs rs = encs u ++ (encR (c : Int) ++ encs rest) := by rw [hrs, encs_append, encs_cons]
  have hrune : runeAt (encs rs) (encs u).length = (c, (encR (c : Int)).length) := by rw [hse]; exact runeAt_mid g _ _
  have hsl := congrArg List.length hse
  simp only [List.length_append] at hsl
  simp only [List.length_cons] at hrl
  have hnl := tk_lt (n := 8) (by decide) w'
  simp only [wtext] at hacc hrem hal
  rw [List.length_append] at hal
  refine Run.region ?_
  refine Ops.nextStr 0 rfl dc rfl rfl (by omega) ?_
  rw [hrune]
  refine Ops.pure T rfl dc rfl ?_
  refine Ops.nil ?_
  repeat (first | refine Run.seq ?_ | refine Run.skip ?_ | refine Run.block ?_ | refine Run.cond_t rfl ?_)
  refine Run.regionO (D := [some 14, some 7]) [true, true] rfl rfl rfl (fun Z hZ => ?_)
  iterate 2 refine q1 dc rfl rfl ?_
  refine QD.nil (hZ _ ?_)
  clear hZ Z
  refine Run.seq ?_
  refine Run.regionP (D := [some 15, some 16, some 8]) [true] 1 rfl rfl rfl (by simp only [List.drop_succ_cons, List.drop_zero]; rfl) (fun Z hZ => ?_)
  refine q1 dc rfl rfl ?_
  refine QD.nil (hZ _ ?_)
  clear hZ Z
  refine Ops.callM (M := [_]) (N := _ :: _) ((way_take J w' p 8 o hWy dc dc)) (List.Perm.swap _ _ _) rfl dc call88 rfl ?_
  rintro v J1 M1 l1 ⟨rfl, o', rfl, hW'⟩
  refine Ops.perm (List.Perm.swap _ _ _) ?_
  refine Ops.pure T rfl dc rfl ?_
  refine Ops.nil ?_
  repeat (first | refine Run.seq ?_ | refine Run.block ?_)
  obtain ⟨n, hn⟩ : ∃ n, n = (tk 8 w').1 := ⟨_, rfl⟩
  rw [← hn] at hnl hacc hal ⊢
  by_cases h47 : c = 47 ∧ n = 1
  ·have hw : wrune c n = [92, 47] := by unfold wrune; rw [if_pos h47]
   obtain ⟨h471, h472⟩ := h47
   refine Run.regionO (D := [some 28, some 29, some 30, some 31, some 32, some 33, some 27]) [true, true, true, true, true, true, true] rfl rfl rfl (fun Z hZ => ?_)
   refine q1 dc rfl rfl ?_
   refine qt (Ev.eqlI rfl rfl) (by omega) dc rfl ?_
   iterate 2 refine q1 dc rfl rfl ?_
   refine qt (Ev.eqlI rfl rfl) (by omega) dc rfl ?_
   iterate 2 refine q1 dc rfl rfl ?_
   refine QD.nil (hZ _ ?_)
   clear hZ Z
   refine Run.cond_t rfl ?_
   refine Run.regionO (D := [some 34, some 35, some 5]) [true, true, true] rfl rfl rfl (fun Z hZ => ?_)
   refine q1 dc rfl rfl ?_
   refine QD.e ((Ev.catS rfl rfl (by simp only [List.length_append, List.length_cons, List.length_nil] at *; omega)).as (show _ = str (34 :: (acc ++ wrune c n)) from congrArg str (by rw [hw]; rfl))) dc rfl ?_
   refine q1 dc rfl rfl ?_
   refine QD.nil (hZ _ ?_)
   clear hZ Z
   repeat refine Run.inBlock ?_
   refine Run.keep [0, 5, 11] [_, _, _] rfl ?_
   exact ih rest.length _ _ _ (by simp only [List.length_cons]; omega) ⟨u ++ [c], rest, acc ++ wrune c n, (tk 8 w').2, o', rfl, by rw [hrs]; simp, by rw [List.append_assoc]; exact hacc, hrem, by rfl, by rw [encs_append, List.length_append]; simp [encs], hW'⟩
  have hnw : ∀ x, (¬ (c = 47 ∧ n = 1)) → wrune c n = x → wrune c n = x := fun _ _ h => h
  by_cases hc47 : c = 47
  ·have hn1 : ¬ n = 1 := fun h => h47 ⟨hc47, h⟩
   refine Run.regionO (D := [some 28, some 29, some 30, some 31, some 32, some 33, some 27]) [true, true, true, true, true, true, true] rfl rfl rfl (fun Z hZ => ?_)
   refine q1 dc rfl rfl ?_
   refine qt (Ev.eqlI rfl rfl) (by omega) dc rfl ?_
   iterate 2 refine q1 dc rfl rfl ?_
   refine qf (Ev.eqlI rfl rfl) (by omega) dc rfl ?_
   iterate 2 refine q1 dc rfl rfl ?_
   refine QD.nil (hZ _ ?_)
   clear hZ Z
   repeat (first | refine Run.seq ?_ | refine Run.cond_f rfl ?_)
   by_cases hn2 : n = 2
   ·have hw : wrune c n = [92, 117] ++ hexes c := by unfold wrune; rw [if_neg h47, if_pos ⟨hn2, by omega⟩]
    refine Run.regionO (D := [some 37, some 38, some 39, some 40, some 41, some 42, some 36]) [true, true, true, true, true, true, true] rfl rfl rfl (fun Z hZ => ?_)
    refine q1 dc rfl rfl ?_
    refine qt (Ev.eqlI rfl rfl) (by omega) dc rfl ?_
    iterate 2 refine q1 dc rfl rfl ?_
    refine qt (Ev.lss rfl rfl) (by omega) dc rfl ?_
    iterate 2 refine q1 dc rfl rfl ?_
    refine QD.nil (hZ _ ?_)
    clear hZ Z
    refine Run.cond_t rfl ?_
    refine Run.regionP (D := [some 43, some 44, some 45, some 46, some 47, some 5]) [true, true] 2 rfl rfl rfl (by simp only [List.drop_succ_cons, List.drop_zero]; rfl) (fun Z hZ => ?_)
    iterate 2 refine q1 dc rfl rfl ?_
    refine QD.nil (hZ _ ?_)
    clear hZ Z
    refine Ops.call ((spec_hexes _ c (by omega))) rfl dc call124 rfl ?_
    rintro x J2 l2 rfl
    refine Ops.ev (Ev.catS rfl rfl (by simp [hexes])) rfl dc ?_
    refine Ops.ev ((Ev.catS rfl rfl (by simp only [List.length_append, List.length_cons, List.length_nil, hexes] at *; omega)).as (show _ = str (34 :: (acc ++ wrune c n)) from congrArg str (by rw [hw]; simp))) rfl dc ?_
    refine Ops.pure T rfl dc rfl ?_
    refine Ops.nil ?_
    repeat refine Run.inBlock ?_
    refine Run.keep [0, 5, 11] [_, _, _] rfl ?_
    exact ih rest.length _ _ _ (by simp only [List.length_cons]; omega) ⟨u ++ [c], rest, acc ++ wrune c n, (tk 8 w').2, o', rfl, by rw [hrs]; simp, by rw [List.append_assoc]; exact hacc, hrem, by rfl, by rw [encs_append, List.length_append]; simp [encs], (hW'.mono l2)⟩
   ·have hw : wrune c n = quo1 c := by unfold wrune; rw [if_neg h47, if_neg (fun h => hn2 h.1), if_neg hn2, if_neg (by omega)]
    refine Run.regionO (D := [some 37, some 38, some 39, some 40, some 41, some 42, some 36]) [true, true, true, true, true, true, true] rfl rfl rfl (fun Z hZ => ?_)
    refine q1 dc rfl rfl ?_
    refine qf (Ev.eqlI rfl rfl) (by omega) dc rfl ?_
    refine q1 dc rfl rfl ?_
    iterate 2 refine QD.off dc rfl ?_
    iterate 2 refine q1 dc rfl rfl ?_
    refine QD.nil (hZ _ ?_)
    clear hZ Z
    repeat (first | refine Run.seq ?_ | refine Run.cond_f rfl ?_)
    refine Run.regionO (D := [some 49, some 50, some 48]) [true, true, true] rfl rfl rfl (fun Z hZ => ?_)
    refine q1 dc rfl rfl ?_
    refine qf (Ev.eqlI rfl rfl) (by omega) dc rfl ?_
    refine q1 dc rfl rfl ?_
    refine QD.nil (hZ _ ?_)
    clear hZ Z
    repeat (first | refine Run.seq ?_ | refine Run.cond_f rfl ?_)
    refine Run.regionO (D := [some 67, some 68, some 69, some 70, some 71, some 72, some 73, some 74, some 75, some 76, some 66]) [true, true, true, true, true, true, true, true, true, true, true] rfl rfl rfl (fun Z hZ => ?_)
    refine q1 dc rfl rfl ?_
    refine qf (Ev.eqlI rfl rfl) (by omega) dc rfl ?_
    iterate 2 refine q1 dc rfl rfl ?_
    refine qf (Ev.eqlI rfl rfl) (by omega) dc rfl ?_
    iterate 3 refine q1 dc rfl rfl ?_
    refine qf (Ev.eqlI rfl rfl) (by omega) dc rfl ?_
    iterate 2 refine q1 dc rfl rfl ?_
    refine QD.nil (hZ _ ?_)
    clear hZ Z
    repeat (first | refine Run.seq ?_ | refine Run.cond_f rfl ?_)
    have hqc : quo [c] = 34 :: (quo1 c ++ [34]) := by unfold quo; simp
    have hQ := fun J => spec_quoted J [c] (by intro r hr; rw [List.mem_singleton.1 hr]; exact g) (by simp)
    rw [show encs [c] = encR (c : Int) by simp [encs], hqc] at hQ
    have hql := quo1_len g
    refine Run.regionP (D := [some 17, some 18, some 19, some 9]) [true] 1 rfl rfl rfl (by simp only [List.drop_succ_cons, List.drop_zero]; rfl) (fun Z hZ => ?_)
    refine q1 dc rfl rfl ?_
    refine QD.nil (hZ _ ?_)
    clear hZ Z
    refine Ops.ev (Ev.convRune T rfl rfl rfl) rfl dc ?_
    refine Ops.call ((hQ _)) rfl dc call89 rfl ?_
    rintro x J2 l2 rfl
    refine Ops.pure T rfl dc rfl ?_
    refine Ops.nil ?_
    skip
    refine Run.regionO (D := [some 20, some 21, some 22, some 23, some 24, some 25, some 26, some 5]) [true, true, true, true, true, true, true, true] rfl rfl rfl (fun Z hZ => ?_)
    iterate 3 refine q1 dc rfl rfl ?_
    refine QD.e (Ev.lenS T rfl rfl) dc rfl ?_
    refine QD.e (Ev.subK (r := (((quo1 c).length + 1 : Nat) : Int)) rfl rfl (by simp only [List.length_append, List.length_cons, List.length_nil]; rw [wI (by omega) (by omega)]; omega)) dc rfl ?_
    refine QD.e ((Ev.cutS T rfl rfl rfl rfl dc (by omega) (by simp only [List.length_append, List.length_cons, List.length_nil]; omega)).as (show _ = str (quo1 c) from congrArg str (by rw [Int.toNat_natCast]; simp))) dc rfl ?_
    refine QD.e ((Ev.catS rfl rfl (by simp only [List.length_append, List.length_cons, List.length_nil] at *; omega)).as (show _ = str (34 :: (acc ++ wrune c n)) from congrArg str (by rw [hw]; rfl))) dc rfl ?_
    refine q1 dc rfl rfl ?_
    refine QD.nil (hZ _ ?_)
    clear hZ Z
    repeat refine Run.inBlock ?_
    refine Run.keep [0, 5, 11] [_, _, _] rfl ?_
    exact ih rest.length _ _ _ (by simp only [List.length_cons]; omega) ⟨u ++ [c], rest, acc ++ wrune c n, (tk 8 w').2, o', rfl, by rw [hrs]; simp, by rw [List.append_assoc]; exact hacc, hrem, by rfl, by rw [encs_append, List.length_append]; simp [encs], (hW'.mono l2)⟩
  refine Run.regionO (D := [some 28, some 29, some 30, some 31, some 32, some 33, some 27]) [true, true, true, true, true, true, true] rfl rfl rfl (fun Z hZ => ?_)
  refine q1 dc rfl rfl ?_
  refine qf (Ev.eqlI rfl rfl) (by omega) dc rfl ?_
  refine q1 dc rfl rfl ?_
  iterate 2 refine QD.off dc rfl ?_
  iterate 2 refine q1 dc rfl rfl ?_
  refine QD.nil (hZ _ ?_)
  clear hZ Z
  repeat (first | refine Run.seq ?_ | refine Run.cond_f rfl ?_)
  by_cases hn2 : n = 2
  ·by_cases hbig : c < 65536
   ·have hw : wrune c n = [92, 117] ++ hexes c := by unfold wrune; rw [if_neg h47, if_pos ⟨hn2, hbig⟩]
    refine Run.regionO (D := [some 37, some 38, some 39, some 40, some 41, some 42, some 36]) [true, true, true, true, true, true, true] rfl rfl rfl (fun Z hZ => ?_)
    refine q1 dc rfl rfl ?_
    refine qt (Ev.eqlI rfl rfl) (by omega) dc rfl ?_
    iterate 2 refine q1 dc rfl rfl ?_
    refine qt (Ev.lss rfl rfl) (by omega) dc rfl ?_
    iterate 2 refine q1 dc rfl rfl ?_
    refine QD.nil (hZ _ ?_)
    clear hZ Z
    refine Run.cond_t rfl ?_
    refine Run.regionP (D := [some 43, some 44, some 45, some 46, some 47, some 5]) [true, true] 2 rfl rfl rfl (by simp only [List.drop_succ_cons, List.drop_zero]; rfl) (fun Z hZ => ?_)
    iterate 2 refine q1 dc rfl rfl ?_
    refine QD.nil (hZ _ ?_)
    clear hZ Z
    refine Ops.call ((spec_hexes _ c (by omega))) rfl dc call124 rfl ?_
    rintro x J2 l2 rfl
    refine Ops.ev (Ev.catS rfl rfl (by simp [hexes])) rfl dc ?_
    refine Ops.ev ((Ev.catS rfl rfl (by simp only [List.length_append, List.length_cons, List.length_nil, hexes] at *; omega)).as (show _ = str (34 :: (acc ++ wrune c n)) from congrArg str (by rw [hw]; simp))) rfl dc ?_
    refine Ops.pure T rfl dc rfl ?_
    refine Ops.nil ?_
    repeat refine Run.inBlock ?_
    refine Run.keep [0, 5, 11] [_, _, _] rfl ?_
    exact ih rest.length _ _ _ (by simp only [List.length_cons]; omega) ⟨u ++ [c], rest, acc ++ wrune c n, (tk 8 w').2, o', rfl, by rw [hrs]; simp, by rw [List.append_assoc]; exact hacc, hrem, by rfl, by rw [encs_append, List.length_append]; simp [encs], (hW'.mono l2)⟩
   ·have hw : wrune c n = [92, 117] ++ hexes (55296 + (c - 65536) / 1024) ++ [92, 117] ++ hexes (56320 + (c - 65536) % 1024) := by unfold wrune; rw [if_neg h47, if_neg (fun h => hbig h.2), if_pos hn2]
    refine Run.regionO (D := [some 37, some 38, some 39, some 40, some 41, some 42, some 36]) [true, true, true, true, true, true, true] rfl rfl rfl (fun Z hZ => ?_)
    refine q1 dc rfl rfl ?_
    refine qt (Ev.eqlI rfl rfl) (by omega) dc rfl ?_
    iterate 2 refine q1 dc rfl rfl ?_
    refine qf (Ev.lss rfl rfl) (by omega) dc rfl ?_
    iterate 2 refine q1 dc rfl rfl ?_
    refine QD.nil (hZ _ ?_)
    clear hZ Z
    repeat (first | refine Run.seq ?_ | refine Run.cond_f rfl ?_)
    refine Run.regionO (D := [some 49, some 50, some 48]) [true, true, true] rfl rfl rfl (fun Z hZ => ?_)
    refine q1 dc rfl rfl ?_
    refine qt (Ev.eqlI rfl rfl) (by omega) dc rfl ?_
    refine q1 dc rfl rfl ?_
    refine QD.nil (hZ _ ?_)
    clear hZ Z
    refine Run.cond_t rfl ?_
    have e1 : (c - 65536) / 2 ^ 10 = (c - 65536) / 1024 := rfl
    refine Run.regionP (D := [some 51, some 52, some 53, some 54, some 55, some 56, some 57, some 58, some 59, some 60, some 61, some 62, some 63, some 64, some 65, some 5]) [true, true, true, true, true] 5 rfl rfl rfl (by simp only [List.drop_succ_cons, List.drop_zero]; rfl) (fun Z hZ => ?_)
    iterate 2 refine q1 dc rfl rfl ?_
    refine QD.e (Ev.subK (r := ((c - 65536 : Nat) : Int)) rfl rfl (by rw [wrapI32 (by omega) (by omega)]; omega)) dc rfl ?_
    refine QD.e (Ev.shrK (r := (((c - 65536) / 1024 : Nat) : Int)) rfl rfl dc dc (shrL (c - 65536) 10)) dc rfl ?_
    refine QD.e (Ev.addK (r := ((55296 + (c - 65536) / 1024 : Nat) : Int)) rfl rfl (by rw [wrapI32 (by omega) (by omega)]; omega)) dc rfl ?_
    refine QD.nil (hZ _ ?_)
    clear hZ Z
    refine Ops.call ((spec_hexes _ (55296 + (c - 65536) / 1024) (by omega))) rfl dc call124 rfl ?_
    rintro x J2 l2 rfl
    iterate 2 refine Ops.ev (Ev.catS rfl rfl (by simp [hexes])) rfl dc ?_
    refine Ops.pure T rfl dc rfl ?_
    refine Ops.ev (Ev.subK (r := ((c - 65536 : Nat) : Int)) rfl rfl (by rw [wrapI32 (by omega) (by omega)]; omega)) rfl dc ?_
    refine Ops.ev (Ev.andK (a := c - 65536) (b := 1023) (c := (c - 65536) % 1024) rfl rfl (by show _ < 4294967296; omega) dc (Nat.and_two_pow_sub_one_eq_mod (c - 65536) 10) (wrapI32 (by omega) (by omega))) rfl dc ?_
    refine Ops.ev (Ev.addK (r := ((56320 + (c - 65536) % 1024 : Nat) : Int)) rfl rfl (by rw [wrapI32 (by omega) (by omega)]; omega)) rfl dc ?_
    refine Ops.call ((spec_hexes _ (56320 + (c - 65536) % 1024) (by omega))) rfl dc call124 rfl ?_
    rintro x J3 l3 rfl
    refine Ops.ev (Ev.catS rfl rfl (by simp [hexes])) rfl dc ?_
    refine Ops.ev ((Ev.catS rfl rfl (by simp only [List.length_append, List.length_cons, List.length_nil, hexes] at *; omega)).as (show _ = str (34 :: (acc ++ wrune c n)) from congrArg str (by rw [hw]; simp))) rfl dc ?_
    refine Ops.pure T rfl dc rfl ?_
    refine Ops.nil ?_
    repeat refine Run.inBlock ?_
    refine Run.keep [0, 5, 11] [_, _, _] rfl ?_
    exact ih rest.length _ _ _ (by simp only [List.length_cons]; omega) ⟨u ++ [c], rest, acc ++ wrune c n, (tk 8 w').2, o', rfl, by rw [hrs]; simp, by rw [List.append_assoc]; exact hacc, hrem, by rfl, by rw [encs_append, List.length_append]; simp [encs], ((hW'.mono l2).mono l3)⟩
  refine Run.regionO (D := [some 37, some 38, some 39, some 40, some 41, some 42, some 36]) [true, true, true, true, true, true, true] rfl rfl rfl (fun Z hZ => ?_)
  refine q1 dc rfl rfl ?_
  refine qf (Ev.eqlI rfl rfl) (by omega) dc rfl ?_
  refine q1 dc rfl rfl ?_
  iterate 2 refine QD.off dc rfl ?_
  iterate 2 refine q1 dc rfl rfl ?_
  refine QD.nil (hZ _ ?_)
  clear hZ Z
  repeat (first | refine Run.seq ?_ | refine Run.cond_f rfl ?_)
  refine Run.regionO (D := [some 49, some 50, some 48]) [true, true, true] rfl rfl rfl (fun Z hZ => ?_)
  refine q1 dc rfl rfl ?_
  refine qf (Ev.eqlI rfl rfl) (by omega) dc rfl ?_
  refine q1 dc rfl rfl ?_
  refine QD.nil (hZ _ ?_)
  clear hZ Z
  repeat (first | refine Run.seq ?_ | refine Run.cond_f rfl ?_)
  by_cases h60 : c = 60
  ·have hw : wrune c n = encR (c : Int) := by unfold wrune; rw [if_neg h47, if_neg (fun h => hn2 h.1), if_neg hn2, if_pos (by omega)]
   refine Run.regionO (D := [some 67, some 68, some 69, some 70, some 71, some 72, some 73, some 74, some 75, some 76, some 66]) [true, true, true, true, true, true, true, true, true, true, true] rfl rfl rfl (fun Z hZ => ?_)
   refine q1 dc rfl rfl ?_
   refine qt (Ev.eqlI rfl rfl) (by omega) dc rfl ?_
   refine q1 dc rfl rfl ?_
   iterate 2 refine QD.off dc rfl ?_
   iterate 2 refine q1 dc rfl rfl ?_
   iterate 2 refine QD.off dc rfl ?_
   iterate 2 refine q1 dc rfl rfl ?_
   refine QD.nil (hZ _ ?_)
   clear hZ Z
   refine Run.cond_t rfl ?_
   refine Run.regionO (D := [some 77, some 78, some 79, some 80, some 5]) [true, true, true, true, true] rfl rfl rfl (fun Z hZ => ?_)
   iterate 2 refine q1 dc rfl rfl ?_
   refine QD.e (Ev.convRune T rfl rfl rfl) dc rfl ?_
   refine QD.e ((Ev.catS rfl rfl (by simp only [List.length_append, List.length_cons, List.length_nil] at *; omega)).as (show _ = str (34 :: (acc ++ wrune c n)) from congrArg str (by rw [hw]; rfl))) dc rfl ?_
   refine q1 dc rfl rfl ?_
   refine QD.nil (hZ _ ?_)
   clear hZ Z
   repeat refine Run.inBlock ?_
   refine Run.keep [0, 5, 11] [_, _, _] rfl ?_
   exact ih rest.length _ _ _ (by simp only [List.length_cons]; omega) ⟨u ++ [c], rest, acc ++ wrune c n, (tk 8 w').2, o', rfl, by rw [hrs]; simp, by rw [List.append_assoc]; exact hacc, hrem, by rfl, by rw [encs_append, List.length_append]; simp [encs], hW'⟩
  by_cases h62 : c = 62
  ·have hw : wrune c n = encR (c : Int) := by unfold wrune; rw [if_neg h47, if_neg (fun h => hn2 h.1), if_neg hn2, if_pos (by omega)]
   refine Run.regionO (D := [some 67, some 68, some 69, some 70, some 71, some 72, some 73, some 74, some 75, some 76, some 66]) [true, true, true, true, true, true, true, true, true, true, true] rfl rfl rfl (fun Z hZ => ?_)
   refine q1 dc rfl rfl ?_
   refine qf (Ev.eqlI rfl rfl) (by omega) dc rfl ?_
   iterate 2 refine q1 dc rfl rfl ?_
   refine qt (Ev.eqlI rfl rfl) (by omega) dc rfl ?_
   iterate 2 refine q1 dc rfl rfl ?_
   iterate 2 refine QD.off dc rfl ?_
   iterate 2 refine q1 dc rfl rfl ?_
   refine QD.nil (hZ _ ?_)
   clear hZ Z
   refine Run.cond_t rfl ?_
   refine Run.regionO (D := [some 77, some 78, some 79, some 80, some 5]) [true, true, true, true, true] rfl rfl rfl (fun Z hZ => ?_)
   iterate 2 refine q1 dc rfl rfl ?_
   refine QD.e (Ev.convRune T rfl rfl rfl) dc rfl ?_
   refine QD.e ((Ev.catS rfl rfl (by simp only [List.length_append, List.length_cons, List.length_nil] at *; omega)).as (show _ = str (34 :: (acc ++ wrune c n)) from congrArg str (by rw [hw]; rfl))) dc rfl ?_
   refine q1 dc rfl rfl ?_
   refine QD.nil (hZ _ ?_)
   clear hZ Z
   repeat refine Run.inBlock ?_
   refine Run.keep [0, 5, 11] [_, _, _] rfl ?_
   exact ih rest.length _ _ _ (by simp only [List.length_cons]; omega) ⟨u ++ [c], rest, acc ++ wrune c n, (tk 8 w').2, o', rfl, by rw [hrs]; simp, by rw [List.append_assoc]; exact hacc, hrem, by rfl, by rw [encs_append, List.length_append]; simp [encs], hW'⟩
  by_cases h38 : c = 38
  ·have hw : wrune c n = encR (c : Int) := by unfold wrune; rw [if_neg h47, if_neg (fun h => hn2 h.1), if_neg hn2, if_pos (by omega)]
   refine Run.regionO (D := [some 67, some 68, some 69, some 70, some 71, some 72, some 73, some 74, some 75, some 76, some 66]) [true, true, true, true, true, true, true, true, true, true, true] rfl rfl rfl (fun Z hZ => ?_)
   refine q1 dc rfl rfl ?_
   refine qf (Ev.eqlI rfl rfl) (by omega) dc rfl ?_
   iterate 2 refine q1 dc rfl rfl ?_
   refine qf (Ev.eqlI rfl rfl) (by omega) dc rfl ?_
   iterate 3 refine q1 dc rfl rfl ?_
   refine qt (Ev.eqlI rfl rfl) (by omega) dc rfl ?_
   iterate 2 refine q1 dc rfl rfl ?_
   refine QD.nil (hZ _ ?_)
   clear hZ Z
   refine Run.cond_t rfl ?_
   refine Run.regionO (D := [some 77, some 78, some 79, some 80, some 5]) [true, true, true, true, true] rfl rfl rfl (fun Z hZ => ?_)
   iterate 2 refine q1 dc rfl rfl ?_
   refine QD.e (Ev.convRune T rfl rfl rfl) dc rfl ?_
   refine QD.e ((Ev.catS rfl rfl (by simp only [List.length_append, List.length_cons, List.length_nil] at *; omega)).as (show _ = str (34 :: (acc ++ wrune c n)) from congrArg str (by rw [hw]; rfl))) dc rfl ?_
   refine q1 dc rfl rfl ?_
   refine QD.nil (hZ _ ?_)
   clear hZ Z
   repeat refine Run.inBlock ?_
   refine Run.keep [0, 5, 11] [_, _, _] rfl ?_
   exact ih rest.length _ _ _ (by simp only [List.length_cons]; omega) ⟨u ++ [c], rest, acc ++ wrune c n, (tk 8 w').2, o', rfl, by rw [hrs]; simp, by rw [List.append_assoc]; exact hacc, hrem, by rfl, by rw [encs_append, List.length_append]; simp [encs], hW'⟩
  ·have hw : wrune c n = quo1 c := by unfold wrune; rw [if_neg h47, if_neg (fun h => hn2 h.1), if_neg hn2, if_neg (by omega)]
   refine Run.regionO (D := [some 67, some 68, some 69, some 70, some 71, some 72, some 73, some 74, some 75, some 76, some 66]) [true, true, true, true, true, true, true, true, true, true, true] rfl rfl rfl (fun Z hZ => ?_)
   refine q1 dc rfl rfl ?_
   refine qf (Ev.eqlI rfl rfl) (by omega) dc rfl ?_
   iterate 2 refine q1 dc rfl rfl ?_
   refine qf (Ev.eqlI rfl rfl) (by omega) dc rfl ?_
   iterate 3 refine q1 dc rfl rfl ?_
   refine qf (Ev.eqlI rfl rfl) (by omega) dc rfl ?_
   iterate 2 refine q1 dc rfl rfl ?_
   refine QD.nil (hZ _ ?_)
   clear hZ Z
   repeat (first | refine Run.seq ?_ | refine Run.cond_f rfl ?_)
   have hqc : quo [c] = 34 :: (quo1 c ++ [34]) := by unfold quo; simp
   have hQ := fun J => spec_quoted J [c] (by intro r hr; rw [List.mem_singleton.1 hr]; exact g) (by simp)
   rw [show encs [c] = encR (c : Int) by simp [encs], hqc] at hQ
   have hql := quo1_len g
   refine Run.regionP (D := [some 17, some 18, some 19, some 9]) [true] 1 rfl rfl rfl (by simp only [List.drop_succ_cons, List.drop_zero]; rfl) (fun Z hZ => ?_)
   refine q1 dc rfl rfl ?_
   refine QD.nil (hZ _ ?_)
   clear hZ Z
   refine Ops.ev (Ev.convRune T rfl rfl rfl) rfl dc ?_
   refine Ops.call ((hQ _)) rfl dc call89 rfl ?_
   rintro x J2 l2 rfl
   refine Ops.pure T rfl dc rfl ?_
   refine Ops.nil ?_
   skip
   refine Run.regionO (D := [some 20, some 21, some 22, some 23, some 24, some 25, some 26, some 5]) [true, true, true, true, true, true, true, true] rfl rfl rfl (fun Z hZ => ?_)
   iterate 3 refine q1 dc rfl rfl ?_
   refine QD.e (Ev.lenS T rfl rfl) dc rfl ?_
   refine QD.e (Ev.subK (r := (((quo1 c).length + 1 : Nat) : Int)) rfl rfl (by simp only [List.length_append, List.length_cons, List.length_nil]; rw [wI (by omega) (by omega)]; omega)) dc rfl ?_
   refine QD.e ((Ev.cutS T rfl rfl rfl rfl dc (by omega) (by simp only [List.length_append, List.length_cons, List.length_nil]; omega)).as (show _ = str (quo1 c) from congrArg str (by rw [Int.toNat_natCast]; simp))) dc rfl ?_
   refine QD.e ((Ev.catS rfl rfl (by simp only [List.length_append, List.length_cons, List.length_nil] at *; omega)).as (show _ = str (34 :: (acc ++ wrune c n)) from congrArg str (by rw [hw]; rfl))) dc rfl ?_
   refine q1 dc rfl rfl ?_
   refine QD.nil (hZ _ ?_)
   clear hZ Z
   repeat refine Run.inBlock ?_
   refine Run.keep [0, 5, 11] [_, _, _] rfl ?_
   exact ih rest.length _ _ _ (by simp only [List.length_cons]; omega) ⟨u ++ [c], rest, acc ++ wrune c n, (tk 8 w').2, o', rfl, by rw [hrs]; simp, by rw [List.append_assoc]; exact hacc, hrem, by rfl, by rw [encs_append, List.length_append]; simp [encs], (hW'.mono l2)⟩
end Go.V
