import Derived.Test.YtcegjgmmbbojdaaGreatDoorAW
import Derived.Test.YtcegjgmmbbojdaaGreatDoorAM5
import Derived.Test.YtcegjgmmbbojdaaGreatDoorAM4
set_option linter.unusedVariables false
set_option linter.unusedSimpArgs false
namespace Go.V
open Go.Proofs.Tryz
open Go.RowKit
set_option maxRecDepth 10000
attribute [local irreducible] Run Ops QD
theorem tk_lt {n : Nat} (hn : 0 < n) (w : Bs) : (tk n w).1 < n := by
 cases w with
 | nil => exact hn
 | cons b t => exact Nat.mod_lt _ hn
theorem wrune_len {c : Nat} (g : goodR c) (n : Nat) : (wrune c n).length <= 12 := by
 have h := encR_pos c
 have h2 := quo1_len g
 unfold wrune hexes
 repeat' split
 all_goals simp <;> omega
theorem wtext_len : ∀ (rs : List Nat) (w : Bs), (∀ r ∈ rs, goodR r) -> (wtext rs w).1.length <= 12 * rs.length
 | [], _, _ => by simp [wtext]
 | r :: rs, w, h => by
  have := wtext_len rs (tk 8 w).2 fun x hx => h x (by simp [hx])
  have := wrune_len (h r (by simp)) (tk 8 w).1
  simp only [wtext, List.length_append, List.length_cons]; omega
def txtI (b p : Nat) (rs : List Nat) (w : Bs) (m : Nat) (env : Env) (L : Own) (J : Imm) : Prop := ∃ (u rest : List Nat) (acc w' : Bs) (o : Obj), m = rest.length /\ rs = u ++ rest /\ acc ++ (wtext rest w').1 = (wtext rs w).1 /\ (wtext rest w').2 = (wtext rs w).2 /\
  env = [(0, .pointer (some ⟨p, 0, none⟩)), (5, str (34 :: acc)), (11, .pointer (some ⟨b, 0, none⟩))] /\ L = [(b, .stringIter (ba (encs rs)) (encs u).length), (p, o)] /\ Wy J w' o
set_option maxHeartbeats 4000000 in
theorem way_text (I : Imm) (rs : List Nat) (hg : ∀ r ∈ rs, goodR r) (w : Bs) (p : Nat) (o : Obj) (hW : Wy I w o) (hs : rs.length <= 34359738368) :
  Spec prog 36 [.pointer (some ⟨p, 0, none⟩), str (encs rs)] I [(p, o)] fun v J M => v = str (wquo (encs rs) w).1 /\ ∃ o', M = [(p, o')] /\ Wy J (wquo (encs rs) w).2 o' := by
 have hwl := wtext_len rs w hg
 unfold wquo
 rw [runesOf_encs hg]
 refine Spec.enter 83 [(0, _), (1, _)] func36 rfl ntmps36 (by simp) rfl ?_
 intro C hCf hR hCI
 refine rS ?_
 refine rO (fun Z hZ => (eE rfl (zN hZ ((rS (rO (fun Z hZ => (eE rfl (zN hZ ?_)))))))))
 repeat refine rS ?_
 refine rP 1 (fun Z hZ => (eE rfl (zN hZ ((Ops.rangeStr T rfl dc rfl rfl (fun b => (Ops.nil (rB (Run.keep [0, 5, 11] [_, _, _] rfl (Run.rounds (txtI b p rs w) rs.length ⟨[], rs, [], w, o, rfl, rfl, rfl, rfl, rfl, rfl, hW⟩ ?_))))))))))
 rintro m env L J ⟨u, rest, acc, w', o, rfl, hrs, hacc, hrem, rfl, rfl, hWy⟩ ih
 have hrl := congrArg List.length hrs
 rw [List.length_append] at hrl
 have hal := congrArg List.length hacc
 rw [List.length_append] at hal
 have h4 := encs_len_le4 rs
 refine rS ?_
 cases rest with
 | nil =>
  rw [List.append_nil] at hrs
  subst hrs
  simp only [wtext, List.append_nil] at hacc hrem
  subst hacc
  refine Run.region (Ops.nextStrEnd 0 rfl dc rfl rfl (by omega) (oP rfl (Ops.nil ?_)))
  repeat (first | refine rS ?_ | refine Run.exit rfl ?_ | refine rF rfl ?_)
  refine rO (fun Z hZ => (eE rfl (fE ((Ev.catS rfl rfl (by simp only [List.length_append, List.length_cons, List.length_nil] at *; omega)).as (show _ = str ([34] ++ (wtext rs w).1 ++ [34]) from congrArg str (by simp))) (eE rfl (zN hZ ?_)))))
  skip
  refine Run.dropL (L' := [(p, o)]) (List.sublist_cons_self _ _) ?_
  refine Run.ret1 (by rw [hCf]; exact func36) results36 rfl (hR _ _ _ ?_)
  exact ⟨rfl, o, rfl, by rw [<- hrem]; exact hWy⟩
 | cons c rest =>
  have g := hg c (by rw [hrs]; simp)
  have hgl := g
  unfold goodR at hgl
  have hep := encR_pos c
  have hlen := encR_len g
  have hse : encs rs = encs u ++ (encR (c : Int) ++ encs rest) := by rw [hrs, encs_append, encs_cons]
  have hrune : runeAt (encs rs) (encs u).length = (c, (encR (c : Int)).length) := by rw [hse]; exact runeAt_mid g _ _
  have hsl := congrArg List.length hse
  simp only [List.length_append] at hsl
  simp only [List.length_cons] at hrl
  have hnl := tk_lt (n := 8) (by decide) w'
  simp only [wtext] at hacc hrem hal
  rw [List.length_append] at hal
  refine Run.region (Ops.nextStr 0 rfl dc rfl rfl (by omega) ?_)
  rw [hrune]
  refine oP rfl (Ops.nil ?_)
  repeat (first | refine rS ?_ | refine rK ?_ | refine rB ?_ | refine rT rfl ?_)
  refine rO (fun Z hZ => (eE rfl (eE rfl (zN hZ ((rS (rP 1 (fun Z hZ => (eE rfl (zN hZ ((Ops.callM (M := [_]) (N := _ :: _) ((way_take J w' p 8 o hWy dc dc)) (List.Perm.swap _ _ _) rfl dc call37 rfl ?_))))))))))))
  rintro v J1 M1 l1 ⟨rfl, o', rfl, hW'⟩
  refine Ops.perm (List.Perm.swap _ _ _) (oP rfl (Ops.nil ?_))
  repeat (first | refine rS ?_ | refine rB ?_)
  obtain ⟨n, hn⟩ : ∃ n, n = (tk 8 w').1 := ⟨_, rfl⟩
  rw [<- hn] at hnl hacc hal ⊢
  by_cases h47 : c = 47 /\ n = 1
  ·have hw : wrune c n = [92, 47] := by unfold wrune; rw [if_pos h47]
   obtain ⟨h471, h472⟩ := h47
   refine rO (fun Z hZ => (eE rfl (kT (Ev.eqlI rfl rfl) (by omega) (eE rfl (eE rfl (kT (Ev.eqlI rfl rfl) (by omega) (eE rfl (eE rfl (zN hZ ((rT rfl (rO (fun Z hZ => (eE rfl (fE ((Ev.catS rfl rfl (by simp only [List.length_append, List.length_cons, List.length_nil] at *; omega)).as (show _ = str (34 :: (acc ++ wrune c n)) from congrArg str (by rw [hw]; rfl))) (eE rfl (zN hZ ?_)))))))))))))))))
   repeat refine rI ?_
   refine Run.keep [0, 5, 11] [_, _, _] rfl ?_
   exact ih rest.length _ _ _ (by simp only [List.length_cons]; omega) ⟨u ++ [c], rest, acc ++ wrune c n, (tk 8 w').2, o', rfl, by rw [hrs]; simp, by rw [List.append_assoc]; exact hacc, hrem, by rfl, by rw [encs_append, List.length_append]; simp [encs], hW'⟩
  have hnw : ∀ x, (¬ (c = 47 /\ n = 1)) -> wrune c n = x -> wrune c n = x := fun _ _ h => h
  by_cases hc47 : c = 47
  ·have hn1 : ¬ n = 1 := fun h => h47 ⟨hc47, h⟩
   refine rO (fun Z hZ => (eE rfl (kT (Ev.eqlI rfl rfl) (by omega) (eE rfl (eE rfl (kF (Ev.eqlI rfl rfl) (by omega) (eE rfl (eE rfl (zN hZ ?_)))))))))
   repeat (first | refine rS ?_ | refine rF rfl ?_)
   by_cases hn2 : n = 2
   ·have hw : wrune c n = [92, 117] ++ hexes c := by unfold wrune; rw [if_neg h47, if_pos ⟨hn2, by omega⟩]
    refine rO (fun Z hZ => (eE rfl (kT (Ev.eqlI rfl rfl) (by omega) (eE rfl (eE rfl (kT (Ev.lss rfl rfl) (by omega) (eE rfl (eE rfl (zN hZ ((rT rfl (rP 2 (fun Z hZ => (eE rfl (eE rfl (zN hZ ((Ops.call ((spec_hexes _ c (by omega))) rfl dc call52 rfl ?_))))))))))))))))))
    rintro x J2 l2 rfl
    refine Ops.ev (Ev.catS rfl rfl (by simp [hexes])) rfl dc (Ops.ev ((Ev.catS rfl rfl (by simp only [List.length_append, List.length_cons, List.length_nil, hexes] at *; omega)).as (show _ = str (34 :: (acc ++ wrune c n)) from congrArg str (by rw [hw]; simp))) rfl dc (oP rfl (Ops.nil ?_)))
    repeat refine rI ?_
    refine Run.keep [0, 5, 11] [_, _, _] rfl ?_
    exact ih rest.length _ _ _ (by simp only [List.length_cons]; omega) ⟨u ++ [c], rest, acc ++ wrune c n, (tk 8 w').2, o', rfl, by rw [hrs]; simp, by rw [List.append_assoc]; exact hacc, hrem, by rfl, by rw [encs_append, List.length_append]; simp [encs], (hW'.mono l2)⟩
   ·have hw : wrune c n = quo1 c := by unfold wrune; rw [if_neg h47, if_neg (fun h => hn2 h.1), if_neg hn2, if_neg (by omega)]
    refine rO (fun Z hZ => (eE rfl (kF (Ev.eqlI rfl rfl) (by omega) (eE rfl (oF (oF (eE rfl (eE rfl (zN hZ ?_)))))))))
    repeat (first | refine rS ?_ | refine rF rfl ?_)
    refine rO (fun Z hZ => (eE rfl (kF (Ev.eqlI rfl rfl) (by omega) (eE rfl (zN hZ ?_)))))
    repeat (first | refine rS ?_ | refine rF rfl ?_)
    refine rO (fun Z hZ => (eE rfl (kF (Ev.eqlI rfl rfl) (by omega) (eE rfl (eE rfl (kF (Ev.eqlI rfl rfl) (by omega) (eE rfl (eE rfl (eE rfl (kF (Ev.eqlI rfl rfl) (by omega) (eE rfl (eE rfl (zN hZ ?_)))))))))))))
    repeat (first | refine rS ?_ | refine rF rfl ?_)
    have hqc : quo [c] = 34 :: (quo1 c ++ [34]) := by unfold quo; simp
    have hQ := fun J => spec_quoted J [c] (by intro r hr; rw [List.mem_singleton.1 hr]; exact g) (by simp)
    rw [show encs [c] = encR (c : Int) by simp [encs], hqc] at hQ
    have hql := quo1_len g
    refine rP 1 (fun Z hZ => (eE rfl (zN hZ ((Ops.ev (Ev.convRune T rfl rfl rfl) rfl dc (Ops.call ((hQ _)) rfl dc call48 rfl ?_))))))
    rintro x J2 l2 rfl
    refine oP rfl (Ops.nil ?_)
    skip
    refine rO (fun Z hZ => (eE rfl (eE rfl (eE rfl (fE (Ev.lenS T rfl rfl) (fE (Ev.subK (r := (((quo1 c).length + 1 : Nat) : Int)) rfl rfl (by simp only [List.length_append, List.length_cons, List.length_nil]; rw [wI (by omega) (by omega)]; omega)) (fE ((Ev.cutS T rfl rfl rfl rfl dc (by omega) (by simp only [List.length_append, List.length_cons, List.length_nil]; omega)).as (show _ = str (quo1 c) from congrArg str (by rw [Int.toNat_natCast]; simp))) (fE ((Ev.catS rfl rfl (by simp only [List.length_append, List.length_cons, List.length_nil] at *; omega)).as (show _ = str (34 :: (acc ++ wrune c n)) from congrArg str (by rw [hw]; rfl))) (eE rfl (zN hZ ?_))))))))))
    repeat refine rI ?_
    refine Run.keep [0, 5, 11] [_, _, _] rfl ?_
    exact ih rest.length _ _ _ (by simp only [List.length_cons]; omega) ⟨u ++ [c], rest, acc ++ wrune c n, (tk 8 w').2, o', rfl, by rw [hrs]; simp, by rw [List.append_assoc]; exact hacc, hrem, by rfl, by rw [encs_append, List.length_append]; simp [encs], (hW'.mono l2)⟩
  refine rO (fun Z hZ => (eE rfl (kF (Ev.eqlI rfl rfl) (by omega) (eE rfl (oF (oF (eE rfl (eE rfl (zN hZ ?_)))))))))
  repeat (first | refine rS ?_ | refine rF rfl ?_)
  by_cases hn2 : n = 2
  ·by_cases hbig : c < 65536
   ·have hw : wrune c n = [92, 117] ++ hexes c := by unfold wrune; rw [if_neg h47, if_pos ⟨hn2, hbig⟩]
    refine rO (fun Z hZ => (eE rfl (kT (Ev.eqlI rfl rfl) (by omega) (eE rfl (eE rfl (kT (Ev.lss rfl rfl) (by omega) (eE rfl (eE rfl (zN hZ ((rT rfl (rP 2 (fun Z hZ => (eE rfl (eE rfl (zN hZ ((Ops.call ((spec_hexes _ c (by omega))) rfl dc call52 rfl ?_))))))))))))))))))
    rintro x J2 l2 rfl
    refine Ops.ev (Ev.catS rfl rfl (by simp [hexes])) rfl dc (Ops.ev ((Ev.catS rfl rfl (by simp only [List.length_append, List.length_cons, List.length_nil, hexes] at *; omega)).as (show _ = str (34 :: (acc ++ wrune c n)) from congrArg str (by rw [hw]; simp))) rfl dc (oP rfl (Ops.nil ?_)))
    repeat refine rI ?_
    refine Run.keep [0, 5, 11] [_, _, _] rfl ?_
    exact ih rest.length _ _ _ (by simp only [List.length_cons]; omega) ⟨u ++ [c], rest, acc ++ wrune c n, (tk 8 w').2, o', rfl, by rw [hrs]; simp, by rw [List.append_assoc]; exact hacc, hrem, by rfl, by rw [encs_append, List.length_append]; simp [encs], (hW'.mono l2)⟩
   ·have hw : wrune c n = [92, 117] ++ hexes (55296 + (c - 65536) / 1024) ++ [92, 117] ++ hexes (56320 + (c - 65536) % 1024) := by unfold wrune; rw [if_neg h47, if_neg (fun h => hbig h.2), if_pos hn2]
    refine rO (fun Z hZ => (eE rfl (kT (Ev.eqlI rfl rfl) (by omega) (eE rfl (eE rfl (kF (Ev.lss rfl rfl) (by omega) (eE rfl (eE rfl (zN hZ ?_)))))))))
    repeat (first | refine rS ?_ | refine rF rfl ?_)
    refine rO (fun Z hZ => (eE rfl (kT (Ev.eqlI rfl rfl) (by omega) (eE rfl (zN hZ ((rT rfl ?_)))))))
    have e1 : (c - 65536) / 2 ^ 10 = (c - 65536) / 1024 := rfl
    refine rP 5 (fun Z hZ => (eE rfl (eE rfl (fE (Ev.subK (r := ((c - 65536 : Nat) : Int)) rfl rfl (by rw [wrapI32 (by omega) (by omega)]; omega)) (fE (Ev.shrK (r := (((c - 65536) / 1024 : Nat) : Int)) rfl rfl dc dc (shrL (c - 65536) 10)) (fE (Ev.addK (r := ((55296 + (c - 65536) / 1024 : Nat) : Int)) rfl rfl (by rw [wrapI32 (by omega) (by omega)]; omega)) (zN hZ ((Ops.call ((spec_hexes _ (55296 + (c - 65536) / 1024) (by omega))) rfl dc call52 rfl ?_)))))))))
    rintro x J2 l2 rfl
    iterate 2 refine Ops.ev (Ev.catS rfl rfl (by simp [hexes])) rfl dc ?_
    refine oP rfl (Ops.ev (Ev.subK (r := ((c - 65536 : Nat) : Int)) rfl rfl (by rw [wrapI32 (by omega) (by omega)]; omega)) rfl dc (Ops.ev (Ev.andK (a := c - 65536) (b := 1023) (c := (c - 65536) % 1024) rfl rfl (by show _ < 4294967296; omega) dc (Nat.and_two_pow_sub_one_eq_mod (c - 65536) 10) (wrapI32 (by omega) (by omega))) rfl dc (Ops.ev (Ev.addK (r := ((56320 + (c - 65536) % 1024 : Nat) : Int)) rfl rfl (by rw [wrapI32 (by omega) (by omega)]; omega)) rfl dc (Ops.call ((spec_hexes _ (56320 + (c - 65536) % 1024) (by omega))) rfl dc call52 rfl ?_))))
    rintro x J3 l3 rfl
    refine Ops.ev (Ev.catS rfl rfl (by simp [hexes])) rfl dc (Ops.ev ((Ev.catS rfl rfl (by simp only [List.length_append, List.length_cons, List.length_nil, hexes] at *; omega)).as (show _ = str (34 :: (acc ++ wrune c n)) from congrArg str (by rw [hw]; simp))) rfl dc (oP rfl (Ops.nil ?_)))
    repeat refine rI ?_
    refine Run.keep [0, 5, 11] [_, _, _] rfl ?_
    exact ih rest.length _ _ _ (by simp only [List.length_cons]; omega) ⟨u ++ [c], rest, acc ++ wrune c n, (tk 8 w').2, o', rfl, by rw [hrs]; simp, by rw [List.append_assoc]; exact hacc, hrem, by rfl, by rw [encs_append, List.length_append]; simp [encs], ((hW'.mono l2).mono l3)⟩
  refine rO (fun Z hZ => (eE rfl (kF (Ev.eqlI rfl rfl) (by omega) (eE rfl (oF (oF (eE rfl (eE rfl (zN hZ ?_)))))))))
  repeat (first | refine rS ?_ | refine rF rfl ?_)
  refine rO (fun Z hZ => (eE rfl (kF (Ev.eqlI rfl rfl) (by omega) (eE rfl (zN hZ ?_)))))
  repeat (first | refine rS ?_ | refine rF rfl ?_)
  by_cases h60 : c = 60
  ·have hw : wrune c n = encR (c : Int) := by unfold wrune; rw [if_neg h47, if_neg (fun h => hn2 h.1), if_neg hn2, if_pos (by omega)]
   refine rO (fun Z hZ => (eE rfl (kT (Ev.eqlI rfl rfl) (by omega) (eE rfl (oF (oF (eE rfl (eE rfl (oF (oF (eE rfl (eE rfl (zN hZ ((rT rfl (rO (fun Z hZ => (eE rfl (eE rfl (fE (Ev.convRune T rfl rfl rfl) (fE ((Ev.catS rfl rfl (by simp only [List.length_append, List.length_cons, List.length_nil] at *; omega)).as (show _ = str (34 :: (acc ++ wrune c n)) from congrArg str (by rw [hw]; rfl))) (eE rfl (zN hZ ?_)))))))))))))))))))))))
   repeat refine rI ?_
   refine Run.keep [0, 5, 11] [_, _, _] rfl ?_
   exact ih rest.length _ _ _ (by simp only [List.length_cons]; omega) ⟨u ++ [c], rest, acc ++ wrune c n, (tk 8 w').2, o', rfl, by rw [hrs]; simp, by rw [List.append_assoc]; exact hacc, hrem, by rfl, by rw [encs_append, List.length_append]; simp [encs], hW'⟩
  by_cases h62 : c = 62
  ·have hw : wrune c n = encR (c : Int) := by unfold wrune; rw [if_neg h47, if_neg (fun h => hn2 h.1), if_neg hn2, if_pos (by omega)]
   refine rO (fun Z hZ => (eE rfl (kF (Ev.eqlI rfl rfl) (by omega) (eE rfl (eE rfl (kT (Ev.eqlI rfl rfl) (by omega) (eE rfl (eE rfl (oF (oF (eE rfl (eE rfl (zN hZ ((rT rfl (rO (fun Z hZ => (eE rfl (eE rfl (fE (Ev.convRune T rfl rfl rfl) (fE ((Ev.catS rfl rfl (by simp only [List.length_append, List.length_cons, List.length_nil] at *; omega)).as (show _ = str (34 :: (acc ++ wrune c n)) from congrArg str (by rw [hw]; rfl))) (eE rfl (zN hZ ?_)))))))))))))))))))))))
   repeat refine rI ?_
   refine Run.keep [0, 5, 11] [_, _, _] rfl ?_
   exact ih rest.length _ _ _ (by simp only [List.length_cons]; omega) ⟨u ++ [c], rest, acc ++ wrune c n, (tk 8 w').2, o', rfl, by rw [hrs]; simp, by rw [List.append_assoc]; exact hacc, hrem, by rfl, by rw [encs_append, List.length_append]; simp [encs], hW'⟩
  by_cases h38 : c = 38
  ·have hw : wrune c n = encR (c : Int) := by unfold wrune; rw [if_neg h47, if_neg (fun h => hn2 h.1), if_neg hn2, if_pos (by omega)]
   refine rO (fun Z hZ => (eE rfl (kF (Ev.eqlI rfl rfl) (by omega) (eE rfl (eE rfl (kF (Ev.eqlI rfl rfl) (by omega) (eE rfl (eE rfl (eE rfl (kT (Ev.eqlI rfl rfl) (by omega) (eE rfl (eE rfl (zN hZ ((rT rfl (rO (fun Z hZ => (eE rfl (eE rfl (fE (Ev.convRune T rfl rfl rfl) (fE ((Ev.catS rfl rfl (by simp only [List.length_append, List.length_cons, List.length_nil] at *; omega)).as (show _ = str (34 :: (acc ++ wrune c n)) from congrArg str (by rw [hw]; rfl))) (eE rfl (zN hZ ?_)))))))))))))))))))))))
   repeat refine rI ?_
   refine Run.keep [0, 5, 11] [_, _, _] rfl ?_
   exact ih rest.length _ _ _ (by simp only [List.length_cons]; omega) ⟨u ++ [c], rest, acc ++ wrune c n, (tk 8 w').2, o', rfl, by rw [hrs]; simp, by rw [List.append_assoc]; exact hacc, hrem, by rfl, by rw [encs_append, List.length_append]; simp [encs], hW'⟩
  ·have hw : wrune c n = quo1 c := by unfold wrune; rw [if_neg h47, if_neg (fun h => hn2 h.1), if_neg hn2, if_neg (by omega)]
   refine rO (fun Z hZ => (eE rfl (kF (Ev.eqlI rfl rfl) (by omega) (eE rfl (eE rfl (kF (Ev.eqlI rfl rfl) (by omega) (eE rfl (eE rfl (eE rfl (kF (Ev.eqlI rfl rfl) (by omega) (eE rfl (eE rfl (zN hZ ?_)))))))))))))
   repeat (first | refine rS ?_ | refine rF rfl ?_)
   have hqc : quo [c] = 34 :: (quo1 c ++ [34]) := by unfold quo; simp
   have hQ := fun J => spec_quoted J [c] (by intro r hr; rw [List.mem_singleton.1 hr]; exact g) (by simp)
   rw [show encs [c] = encR (c : Int) by simp [encs], hqc] at hQ
   have hql := quo1_len g
   refine rP 1 (fun Z hZ => (eE rfl (zN hZ ((Ops.ev (Ev.convRune T rfl rfl rfl) rfl dc (Ops.call ((hQ _)) rfl dc call48 rfl ?_))))))
   rintro x J2 l2 rfl
   refine oP rfl (Ops.nil ?_)
   skip
   refine rO (fun Z hZ => (eE rfl (eE rfl (eE rfl (fE (Ev.lenS T rfl rfl) (fE (Ev.subK (r := (((quo1 c).length + 1 : Nat) : Int)) rfl rfl (by simp only [List.length_append, List.length_cons, List.length_nil]; rw [wI (by omega) (by omega)]; omega)) (fE ((Ev.cutS T rfl rfl rfl rfl dc (by omega) (by simp only [List.length_append, List.length_cons, List.length_nil]; omega)).as (show _ = str (quo1 c) from congrArg str (by rw [Int.toNat_natCast]; simp))) (fE ((Ev.catS rfl rfl (by simp only [List.length_append, List.length_cons, List.length_nil] at *; omega)).as (show _ = str (34 :: (acc ++ wrune c n)) from congrArg str (by rw [hw]; rfl))) (eE rfl (zN hZ ?_))))))))))
   repeat refine rI ?_
   refine Run.keep [0, 5, 11] [_, _, _] rfl ?_
   exact ih rest.length _ _ _ (by simp only [List.length_cons]; omega) ⟨u ++ [c], rest, acc ++ wrune c n, (tk 8 w').2, o', rfl, by rw [hrs]; simp, by rw [List.append_assoc]; exact hacc, hrem, by rfl, by rw [encs_append, List.length_append]; simp [encs], (hW'.mono l2)⟩
end Go.V
namespace Go.V
open Go.Proofs.Tryz
open Go.RowKit
set_option maxRecDepth 10000
attribute [local irreducible] Run Ops QD
def tJs0 : Ty Js := ⟨3, fun _ _ _ => False, fun h => h.elim, fun h _ => h⟩
def tJss (t : Ty Js) : Ty Js := ⟨3, fun I cs j => ∃ vk, cs = [.int .u8 (j.kind.toNat : Int), str j.text, vk] /\ Sl t I vk j.kids,
 fun ⟨vk, h, _⟩ => by subst h; rfl, fun ⟨vk, h, h1⟩ hle => ⟨vk, h, h1.mono hle⟩⟩
def tJs : Nat -> Ty Js
 | 0 => tJs0
 | d + 1 => tJss (tJs d)
theorem tJs_size : ∀ d, (tJs d).size = 3
 | 0 => rfl
 | _ + 1 => rfl
theorem joinC_mono (a b : List Bs) : (joinC a).length <= (joinC (a ++ b)).length := by
 induction a with
 | nil => simp [joinC]
 | cons t a ih =>
  rw [List.cons_append, joinC_cons, joinC_cons]
  by_cases h : a = []
  ·subst h
   rw [if_pos rfl]
   split
   ·exact Nat.le_refl _
   ·rw [List.length_append]; omega
  ·rw [if_neg h, if_neg (by simp [h])]
   simp only [List.length_append, List.length_cons]; omega
theorem quo1_pos (c : Nat) : 1 <= (quo1 c).length := by
 have h := (encR_pos c).1
 unfold quo1
 repeat' split
 all_goals (try simp only [List.length_append, List.length_cons, List.length_nil])
 all_goals omega
theorem wrune_pos (c n : Nat) : 1 <= (wrune c n).length := by
 have h := (encR_pos c).1
 have h2 := quo1_pos c
 unfold wrune
 repeat' split
 all_goals (try simp only [List.length_append, List.length_cons, List.length_nil])
 all_goals omega
theorem wquo_runes {s : Bs} (h : GoodT s) (w : Bs) : ∃ rs, s = encs rs /\ (∀ r ∈ rs, goodR r) /\ rs.length <= (wquo s w).1.length := by
 obtain ⟨rs, rfl, hg⟩ := h
 refine ⟨rs, rfl, hg, ?_⟩
 unfold wquo
 rw [runesOf_encs hg]
 have : ∀ (rs : List Nat) (w : Bs), (∀ r ∈ rs, goodR r) -> rs.length <= (wtext rs w).1.length := by
  intro rs
  induction rs with
  | nil => intro w _; simp
  | cons r rs ih =>
   intro w h
   have h1 := ih (tk 8 w).2 fun x hx => h x (by simp [hx])
   have h2 : 1 <= (wrune r (tk 8 w).1).length := wrune_pos r _
   simp only [wtext, List.length_append, List.length_cons]; omega
 have := this rs w hg
 simp only [List.length_append]; omega
def WSpec (d : Nat) : Prop := ∀ (I : Imm) (cs : List Value) (j : Js) (fixed : Bool) (w : Bs) (p : Nat) (o : Obj), (tJs d).rel I cs j -> Fine d j -> Wy I w o -> (wval d j fixed w).1.length <= 34359738368 ->
 Spec prog 17 [.pointer (some ⟨p, 0, none⟩), .agg cs.toArray, .bool fixed] I [(p, o)] fun v J M => v = str (wval d j fixed w).1 /\ ∃ o', M = [(p, o')] /\ Wy J (wval d j fixed w).2 o'
set_option maxHeartbeats 1000000 in
theorem wv_str (d : Nat) (I : Imm) (cs : List Value) (j : Js) (fixed : Bool) (w : Bs) (p : Nat) (o : Obj) (hrel : (tJs (d + 1)).rel I cs j) (hF : Fine (d + 1) j) (hW : Wy I w o) (hl : (wval (d + 1) j fixed w).1.length <= 34359738368) (hs : j.kind = 115) :
  Spec prog 17 [.pointer (some ⟨p, 0, none⟩), .agg cs.toArray, .bool fixed] I [(p, o)] fun v J M => v = str (wval (d + 1) j fixed w).1 /\ ∃ o', M = [(p, o')] /\ Wy J (wval (d + 1) j fixed w).2 o' := by
 unfold Fine at hF
 rw [if_pos hs] at hF
 unfold wval at hl ⊢
 simp only [if_pos hs] at hl ⊢
 simp only [List.length_append] at hl
 obtain ⟨rs, hrs, hg, hrl⟩ := wquo_runes hF (blk5 w).2
 obtain ⟨vk, rfl, hK⟩ := hrel
 refine Spec.enter 189 [(0, _), (1, _), (2, _)] func17 rfl ntmps17 (by simp) rfl ?_
 intro C hCf hR hCI
 refine rS ?_
 refine Run.region (Ops.box rfl dc rfl rfl (fun b4 => (oP rfl (Ops.nil (rS (rP 1 (fun Z hZ => (eE rfl (zN hZ ((Ops.callM (M := [_]) (N := _ :: _) ((way_blank I w p o hW)) (List.Perm.swap _ _ _) rfl dc call35 rfl ?_)))))))))))
 rintro v J1 M1 l1 ⟨rfl, o1, rfl, hW1⟩
 refine Ops.perm (List.Perm.swap _ _ _) (oP rfl (Ops.nil ?_))
 repeat refine rS ?_
 refine rO (fun Z hZ => (eE rfl (gY (Yv.load 0 T rfl rfl rfl rfl) (zN hZ ?_))))
 repeat (first | refine rS ?_ | refine rB ?_)
 obtain ⟨kk, hkk⟩ : ∃ kk : Nat, kk = j.kind.toNat := ⟨_, rfl⟩
 rw [<- hkk]
 have hk : kk = 115 := by rw [hkk, hs]; rfl
 refine rO (fun Z hZ => (kT (Ev.eqlI rfl rfl) (by omega) (eE rfl (zN hZ ?_))))
 repeat (first | refine rS ?_ | refine rT rfl ?_)
 refine rP 4 (fun Z hZ => (eE rfl (eE rfl (eE rfl (gY (Yv.load 0 T rfl rfl rfl rfl) (zN hZ ?_))))))
 have hT := way_text J1 rs hg (blk5 w).2 p o1 hW1 (by omega)
 rw [<- hrs] at hT
 refine Ops.callM (M := [_]) (N := _ :: _) ((hT)) (List.Perm.swap _ _ _) rfl dc call36 rfl ?_
 rintro v2 J2 M2 l2 ⟨rfl, o2, rfl, hW2⟩
 refine Ops.perm (List.Perm.swap _ _ _) (Ops.ev (Ev.catS rfl rfl (by omega)) rfl dc (oP rfl (Ops.callM (M := [_]) (N := _ :: _) ((way_blank J2 _ p o2 hW2)) (List.Perm.swap _ _ _) rfl dc call35 rfl ?_)))
 rintro v3 J3 M3 l3 ⟨rfl, o3, rfl, hW3⟩
 refine Ops.perm (List.Perm.swap _ _ _) (Ops.ev (Ev.catS rfl rfl (by rw [List.length_append]; omega)) rfl dc (oP rfl (Ops.nil ?_)))
 skip
 refine Run.dropL (L' := [(p, o3)]) (List.sublist_cons_self _ _) ?_
 refine Run.ret1 (by rw [hCf]; exact func17) results17 rfl (hR _ _ _ ?_)
 exact ⟨rfl, o3, rfl, hW3⟩
set_option maxHeartbeats 1000000 in
theorem wv_lit (d : Nat) (I : Imm) (cs : List Value) (j : Js) (fixed : Bool) (w : Bs) (p : Nat) (o : Obj) (hrel : (tJs (d + 1)).rel I cs j) (hW : Wy I w o) (hl : (wval (d + 1) j fixed w).1.length <= 34359738368) (hs : j.kind ≠ 115) (h2 : j.kind ≠ 108) (h3 : j.kind ≠ 111) :
  Spec prog 17 [.pointer (some ⟨p, 0, none⟩), .agg cs.toArray, .bool fixed] I [(p, o)] fun v J M => v = str (wval (d + 1) j fixed w).1 /\ ∃ o', M = [(p, o')] /\ Wy J (wval (d + 1) j fixed w).2 o' := by
 unfold wval at hl ⊢
 simp only [if_neg hs, if_neg h2, if_neg h3] at hl ⊢
 simp only [List.length_append] at hl
 have k1 : j.kind.toNat ≠ 115 := fun h => hs (UInt8.toNat_inj.1 h)
 have k2 : j.kind.toNat ≠ 108 := fun h => h2 (UInt8.toNat_inj.1 h)
 have k3 : j.kind.toNat ≠ 111 := fun h => h3 (UInt8.toNat_inj.1 h)
 obtain ⟨vk, rfl, hK⟩ := hrel
 refine Spec.enter 189 [(0, _), (1, _), (2, _)] func17 rfl ntmps17 (by simp) rfl ?_
 intro C hCf hR hCI
 refine rS ?_
 refine Run.region (Ops.box rfl dc rfl rfl (fun b4 => (oP rfl (Ops.nil (rS (rP 1 (fun Z hZ => (eE rfl (zN hZ ((Ops.callM (M := [_]) (N := _ :: _) ((way_blank I w p o hW)) (List.Perm.swap _ _ _) rfl dc call35 rfl ?_)))))))))))
 rintro v J1 M1 l1 ⟨rfl, o1, rfl, hW1⟩
 refine Ops.perm (List.Perm.swap _ _ _) (oP rfl (Ops.nil ?_))
 repeat refine rS ?_
 refine rO (fun Z hZ => (eE rfl (gY (Yv.load 0 T rfl rfl rfl rfl) (zN hZ ?_))))
 repeat (first | refine rS ?_ | refine rB ?_)
 obtain ⟨kk, hkk⟩ : ∃ kk : Nat, kk = j.kind.toNat := ⟨_, rfl⟩
 rw [<- hkk]
 rw [<- hkk] at k1 k2 k3
 refine rO (fun Z hZ => (kF (Ev.eqlI rfl rfl) (by omega) (eE rfl (zN hZ ?_))))
 repeat (first | refine rS ?_ | refine rF rfl ?_)
 refine rO (fun Z hZ => (kF (Ev.eqlI rfl rfl) (by omega) (eE rfl (zN hZ ?_))))
 repeat (first | refine rS ?_ | refine rF rfl ?_)
 refine rO (fun Z hZ => (kF (Ev.eqlI rfl rfl) (by omega) (eE rfl (zN hZ ?_))))
 repeat (first | refine rS ?_ | refine rK ?_ | refine rI ?_ | refine rF rfl ?_)
 refine Run.regionAny (Holds J1 [(b4, blk [.int .u8 (kk : Int), str j.text, vk] 38)]) (bl 8 0) (by kernel_rfl) (by kernel_rfl) (RAny.tk 0 (bl 8 1) rfl (by kernel_rfl) dc (fun W h => h.holds (Le.refl _) (by first | exact mp rfl | exact mq rfl)) (Yld.eval T rfl rfl) (RAny.tk 1 (bl 8 3) rfl (by kernel_rfl) dc (fun W h => h.holds (Le.refl _) (by first | exact mp rfl | exact mq rfl)) (Yld.eval T rfl rfl) (RAny.tk 2 (bl 8 7) rfl (by kernel_rfl) dc (fun W h => h.holds (Le.refl _) (by first | exact mp rfl | exact mq rfl)) (Yld.load 0 T rfl rfl rfl rfl rfl) (RAny.tk 3 (bl 8 15) rfl (by kernel_rfl) dc (fun W h => h.holds (Le.refl _) (by first | exact mp rfl | exact mq rfl)) (Yld.ev (Ev.catS rfl rfl (by omega)) rfl) (RAny.tk 4 (bl 8 31) rfl (by kernel_rfl) dc (fun W h => h.holds (Le.refl _) (by first | exact mp rfl | exact mq rfl)) (Yld.eval T rfl rfl) ?_)))))
 refine RAny.on 5 (bl 8 63) rfl (by kernel_rfl) rfl dc (Eff.callM (M := [_]) (N := _ :: _) (way_blank J1 _ p o1 hW1) (List.Perm.swap _ _ _) call35 rfl fun v J2 M2 l2 hv => ⟨fun W h => h.holds l2 (by intro x hx; rcases List.mem_singleton.1 hx with rfl; simp), ?_⟩)
 obtain ⟨rfl, o2, rfl, hW2⟩ := hv
 skip
 refine RAny.perm (List.Perm.swap _ _ _) (RAny.tk 6 (bl 8 127) rfl (by kernel_rfl) dc (fun W h => h.holds l2 (by first | exact mp rfl | exact mq rfl)) (Yld.ev (Ev.catS rfl rfl (by rw [List.length_append]; omega)) rfl) (RAny.tk 7 (bl 8 255) rfl (by kernel_rfl) dc (fun W h => h.holds l2 (by first | exact mp rfl | exact mq rfl)) (Yld.eval T rfl rfl) (RAny.done _ (by kernel_rfl) ?_)))
 skip
 refine Run.dropL (L' := [(p, o2)]) (List.sublist_cons_self _ _) ?_
 refine Run.ret1 (by rw [hCf]; exact func17) results17 rfl (hR _ _ _ ?_)
 exact ⟨rfl, o2, rfl, hW2⟩
end Go.V
namespace Go.V
open Go.Proofs.Tryz
open Go.RowKit
set_option maxRecDepth 10000
attribute [local irreducible] Run Ops QD
theorem tJs_shape {d : Nat} {I : Imm} {cs : List Value} {j : Js} (h : (tJs d).rel I cs j) : ∃ A n c, cs = [.int .u8 (j.kind.toNat : Int), str j.text, .slice A n c] := by
 cases d with
 | zero => exact h.elim
 | succ d =>
  obtain ⟨vk, rfl, hS⟩ := h
  obtain ⟨A, c, rfl⟩ := hS.isSl
  exact ⟨_, _, _, rfl⟩
theorem wlist_len (val : Js -> Bs -> Bs × Bs) : ∀ (js : List Js) (w : Bs), (wlist val js w).1.length = js.length
 | [], _ => rfl
 | j :: js, w => by simp [wlist, wlist_len val js]
def elI (val : Js -> Bs -> Bs × Bs) (p b4 : Nat) (fixed : Bool) (cb : List Value) (A : Option Addr) (c : Nat) (kids : List Js) (ts : List Bs) (we : Bs) (X : Bs) (I : Imm) (m : Nat) (env : Env) (L : Own) (J : Imm) : Prop :=
 ∃ (done : List Bs) (pre rest : List Js) (w' : Bs) (o : Obj), m = rest.length /\ kids = pre ++ rest /\ pre.length = done.length /\ done ++ (wlist val rest w').1 = ts /\ (wlist val rest w').2 = we /\
  env = [(0, .pointer (some ⟨p, 0, none⟩)), (2, .bool fixed), (4, .pointer (some ⟨b4, 0, none⟩)), (7, str (X ++ joinC done)), (38, .slice A kids.length c), (39, .int .i64 kids.length), (40, .int .i64 done.length)] /\
  L = [(b4, blk cb 38), (p, o)] /\ Wy J w' o /\ Le I J
set_option maxHeartbeats 2000000 in
theorem wv_list (d : Nat) (hWS : WSpec d) (I : Imm) (cs : List Value) (j : Js) (fixed : Bool) (w : Bs) (p : Nat) (o : Obj) (hrel : (tJs (d + 1)).rel I cs j) (hF : Fine (d + 1) j) (hW : Wy I w o) (hl : (wval (d + 1) j fixed w).1.length <= 34359738368) (hs : j.kind = 108) :
  Spec prog 17 [.pointer (some ⟨p, 0, none⟩), .agg cs.toArray, .bool fixed] I [(p, o)] fun v J M => v = str (wval (d + 1) j fixed w).1 /\ ∃ o', M = [(p, o')] /\ Wy J (wval (d + 1) j fixed w).2 o' := by
 have hns : j.kind ≠ 115 := by rw [hs]; decide
 unfold Fine at hF
 rw [if_neg hns, if_pos hs] at hF
 unfold wval at hl ⊢
 simp only [if_neg hns, if_pos hs] at hl ⊢
 simp only [List.length_append] at hl
 have htl := wlist_len (fun x w => wval d x fixed w) j.kids (blk5 w).2
 have hjl := joinC_len (wlist (fun x w => wval d x fixed w) j.kids (blk5 w).2).1
 rw [htl] at hjl
 have hFk := hF
 obtain ⟨vk, rfl, hK⟩ := hrel
 refine Spec.enter 189 [(0, _), (1, _), (2, _)] func17 rfl ntmps17 (by simp) rfl ?_
 intro C hCf hR hCI
 refine rS ?_
 refine Run.region (Ops.box rfl dc rfl rfl (fun b4 => (oP rfl (Ops.nil (rS (rP 1 (fun Z hZ => (eE rfl (zN hZ ((Ops.callM (M := [_]) (N := _ :: _) ((way_blank I w p o hW)) (List.Perm.swap _ _ _) rfl dc call35 rfl ?_)))))))))))
 rintro v J1 M1 l1 ⟨rfl, o1, rfl, hW1⟩
 refine Ops.perm (List.Perm.swap _ _ _) (oP rfl (Ops.nil ?_))
 repeat refine rS ?_
 refine rO (fun Z hZ => (eE rfl (gY (Yv.load 0 T rfl rfl rfl rfl) (zN hZ ?_))))
 repeat (first | refine rS ?_ | refine rB ?_)
 obtain ⟨kk, hkk⟩ : ∃ kk : Nat, kk = j.kind.toNat := ⟨_, rfl⟩
 rw [<- hkk]
 have hk : kk = 108 := by rw [hkk, hs]; rfl
 obtain ⟨ts, hts⟩ : ∃ ts, ts = (wlist (fun x w => wval d x fixed w) j.kids (blk5 w).2).1 := ⟨_, rfl⟩
 obtain ⟨we, hwe⟩ : ∃ we, we = (wlist (fun x w => wval d x fixed w) j.kids (blk5 w).2).2 := ⟨_, rfl⟩
 rw [<- hts] at hl hjl htl
 rw [<- hwe] at hl
 rw [<- hts, <- hwe] at hR
 obtain ⟨A, c, rfl⟩ := hK.isSl
 refine rO (fun Z hZ => (kF (Ev.eqlI rfl rfl) (by omega) (eE rfl (zN hZ ?_))))
 repeat (first | refine rS ?_ | refine rF rfl ?_)
 refine rO (fun Z hZ => (kT (Ev.eqlI rfl rfl) (by omega) (eE rfl (zN hZ ?_))))
 repeat (first | refine rS ?_ | refine rT rfl ?_)
 obtain ⟨X, hX⟩ : ∃ X, X = (blk5 w).1 ++ [91] := ⟨_, rfl⟩
 rw [<- hX] at hR
 have hXl := congrArg List.length hX
 rw [List.length_append, List.length_singleton] at hXl
 refine rO (fun Z hZ => (eE rfl (fE ((Ev.catS rfl rfl (by simp only [List.length_cons, List.length_nil]; omega)).as (show _ = str (X ++ joinC []) from congrArg str (by rw [hX]; simp [joinC]))) (eE rfl (zN hZ ?_)))))
 repeat refine rS ?_
 refine rO (fun Z hZ => (eE rfl (gY (Yv.load 0 T rfl rfl rfl rfl) (eE rfl (eE rfl (zN hZ ((rB (Run.keep [0, 2, 4, 7, 38, 39, 40] [_, _, _, _, _, _, _] rfl (Run.rounds (elI (fun x w => wval d x fixed w) p b4 fixed [.int .u8 (kk : Int), str j.text, .slice A j.kids.length c] A c j.kids ts we X J1) j.kids.length ⟨[], [], j.kids, (blk5 w).2, o1, rfl, rfl, rfl, by rw [hts]; rfl, by rw [hwe], rfl, rfl, hW1, Le.refl _⟩ ?_))))))))))
 rintro m env L J ⟨done, pre, rest, w', o, rfl, hkids, hpl, hdone, hrem, rfl, rfl, hWy, hle⟩ ih
 have hkl := congrArg List.length hkids
 rw [List.length_append] at hkl
 refine rS ?_
 cases rest with
 | nil =>
  simp only [wlist, List.append_nil] at hdone hrem
  simp only [List.length_nil] at hkl
  subst hdone
  subst hrem
  refine rO (fun Z hZ => (kF (Ev.lss rfl rfl) (by omega) (zN hZ ?_)))
  repeat (first | refine rS ?_ | refine Run.exit rfl ?_ | refine rF rfl ?_)
  refine rP 2 (fun Z hZ => (eE rfl (eE rfl (zN hZ ((Ops.callM (M := [_]) (N := _ :: _) ((way_blank J _ p o hWy)) (List.Perm.swap _ _ _) rfl dc call35 rfl ?_))))))
  rintro v2 J2 M2 l2 ⟨rfl, o2, rfl, hW2⟩
  refine Ops.perm (List.Perm.swap _ _ _) (Ops.ev (Ev.catS rfl rfl (by rw [List.length_append]; omega)) rfl dc (Ops.ev (Ev.catS rfl rfl (by simp only [List.length_append, List.length_cons, List.length_nil]; omega)) rfl dc (oP rfl (Ops.callM (M := [_]) (N := _ :: _) ((way_blank J2 _ p o2 hW2)) (List.Perm.swap _ _ _) rfl dc call35 rfl ?_))))
  rintro v3 J3 M3 l3 ⟨rfl, o3, rfl, hW3⟩
  refine Ops.perm (List.Perm.swap _ _ _) (Ops.ev (Ev.catS rfl rfl (by simp only [List.length_append, List.length_cons, List.length_nil]; omega)) rfl dc (oP rfl (Ops.nil ?_)))
  skip
  refine Run.dropL (L' := [(p, o3)]) (List.sublist_cons_self _ _) ?_
  refine Run.ret1 (by rw [hCf]; exact func17) results17 rfl (hR _ _ _ ?_)
  exact ⟨rfl, o3, rfl, hW3⟩
 | cons x rest =>
  simp only [wlist] at hdone hrem
  simp only [List.length_cons] at hkl
  have hms := joinC_mono (done ++ [(wval d x fixed w').1]) (wlist (fun x w => wval d x fixed w) rest (wval d x fixed w').2).1
  rw [List.append_assoc, List.singleton_append, hdone, joinC_snoc] at hms
  refine rO (fun Z hZ => (kT (Ev.lss rfl rfl) (by omega) (zN hZ ?_)))
  repeat (first | refine rS ?_ | refine rK ?_ | refine rB ?_ | refine rT rfl ?_)
  refine Run.region (oP rfl (Ops.indexSl (j := (done.length : Int)) (hK.mono (l1.trans hle)) rfl dc rfl rfl (T.undOk rfl) (by rw [tJs_size]; exact T.sizeOk rfl) (by omega) (by omega) fun bb off q cq hq hr hA => ?_))
  rw [Int.toNat_natCast] at hq
  obtain rfl : x = q := by
   rw [hkids, <- hpl, List.getElem?_append_right (Nat.le_refl _)] at hq
   simpa using hq
  obtain ⟨A2, n2, c2, rfl⟩ := tJs_shape hr
  refine Ops.loadIN rfl dc rfl hA (T.aggOk rfl) (T.sizeOk rfl) rfl (Ops.alloc rfl dc (T.zeroOk rfl) rfl (fun b9 => (oP rfl (Ops.store 0 rfl rfl rfl rfl rfl (T.sizeOk rfl) rfl (lb rfl) rfl rfl (Ops.nil ?_)))))
  repeat refine rS ?_
  by_cases h0 : done = []
  ·skip
   refine rO (fun Z hZ => (eE rfl (kF (Ev.gtr rfl rfl) (by rw [h0]; decide) (zN hZ ?_))))
   repeat (first | refine rK ?_ | refine rF rfl ?_)
   rw [if_pos h0] at hms
   have hj0 : joinC done = [] := by rw [h0]; rfl
   have hj0l : (joinC done).length = 0 := by rw [hj0]; rfl
   refine rP 4 (fun Z hZ => (eE rfl (eE rfl (gY (Yv.loadN 0 T rfl rfl rfl rfl rfl rfl) (eE rfl (zN hZ ((Ops.callM (M := [(p, o)]) (N := [(b9, _), (b4, _)]) (hWS _ _ x fixed w' p o hr (hFk x (by rw [hkids]; simp)) hWy (by omega)) (List.perm_append_comm (l₁ := [_, _]) (l₂ := [_])) rfl dc call17 rfl ?_))))))))
   rintro v3 J3 M3 l3 ⟨rfl, o3, rfl, hW3⟩
   refine Ops.ev ((Ev.catS rfl rfl (by simp only [List.length_append, List.length_cons, List.length_nil] at *; omega)).as (show _ = str (X ++ joinC (done ++ [(wval d x fixed w').1])) from congrArg str (by rw [joinC_snoc, if_pos h0, hj0]; simp))) rfl dc (oP rfl (Ops.nil (rI (rO (fun Z hZ => (fE (Ev.addK (r := (((done ++ [(wval d x fixed w').1]).length : Nat) : Int)) rfl rfl (by rw [wI (by omega) (by omega)]; simp)) (eE rfl (zN hZ ?_))))))))
   skip
   refine Run.perm (L' := [(b9, _), (b4, _), (p, o3)]) (List.perm_append_comm (l₁ := [_]) (l₂ := [_, _])) ?_
   refine Run.dropL (L' := [(b4, _), (p, o3)]) (List.sublist_cons_self _ _) ?_
   refine Run.keep [0, 2, 4, 7, 38, 39, 40] [_, _, _, _, _, _, _] rfl ?_
   exact ih rest.length _ _ _ (by simp only [List.length_cons]; omega) ⟨done ++ [(wval d x fixed w').1], pre ++ [x], rest, (wval d x fixed w').2, o3, rfl, by rw [hkids]; simp, by simp [hpl], by rw [<- hdone]; simp, hrem, rfl, rfl, hW3, hle.trans l3⟩
  ·have h0l : 0 < done.length := List.length_pos_iff.2 h0
   rw [if_neg h0, List.length_append, List.length_cons] at hms
   refine rO (fun Z hZ => (eE rfl (kT (Ev.gtr rfl rfl) (by omega) (zN hZ ((rT rfl (rO (fun Z hZ => (eE rfl (fE (Ev.catS rfl rfl (by simp only [List.length_append, List.length_cons, List.length_nil]; omega)) (eE rfl (zN hZ ?_))))))))))))
   skip
   refine rP 4 (fun Z hZ => (eE rfl (eE rfl (gY (Yv.loadN 0 T rfl rfl rfl rfl rfl rfl) (eE rfl (zN hZ ((Ops.callM (M := [(p, o)]) (N := [(b9, _), (b4, _)]) (hWS _ _ x fixed w' p o hr (hFk x (by rw [hkids]; simp)) hWy (by omega)) (List.perm_append_comm (l₁ := [_, _]) (l₂ := [_])) rfl dc call17 rfl ?_))))))))
   rintro v3 J3 M3 l3 ⟨rfl, o3, rfl, hW3⟩
   refine Ops.ev ((Ev.catS rfl rfl (by simp only [List.length_append, List.length_cons, List.length_nil] at *; omega)).as (show _ = str (X ++ joinC (done ++ [(wval d x fixed w').1])) from congrArg str (by rw [joinC_snoc, if_neg h0]; simp))) rfl dc (oP rfl (Ops.nil (rI (rO (fun Z hZ => (fE (Ev.addK (r := (((done ++ [(wval d x fixed w').1]).length : Nat) : Int)) rfl rfl (by rw [wI (by omega) (by omega)]; simp)) (eE rfl (zN hZ ?_))))))))
   skip
   refine Run.perm (L' := [(b9, _), (b4, _), (p, o3)]) (List.perm_append_comm (l₁ := [_]) (l₂ := [_, _])) ?_
   refine Run.dropL (L' := [(b4, _), (p, o3)]) (List.sublist_cons_self _ _) ?_
   refine Run.keep [0, 2, 4, 7, 38, 39, 40] [_, _, _, _, _, _, _] rfl ?_
   exact ih rest.length _ _ _ (by simp only [List.length_cons]; omega) ⟨done ++ [(wval d x fixed w').1], pre ++ [x], rest, (wval d x fixed w').2, o3, rfl, by rw [hkids]; simp, by simp [hpl], by rw [<- hdone]; simp, hrem, rfl, rfl, hW3, hle.trans l3⟩
end Go.V
namespace Go.V
open Go.RowKit
set_option maxRecDepth 10000
attribute [local irreducible] Run Ops QD
theorem Cells.str_eq {I : Imm} {cs : List Value} {xs : List Bs} (h : Cells tStr I cs xs) : cs = xs.map str := by
 obtain ⟨css, rfl, h2, h3⟩ := h
 have : css = xs.map fun x => [str x] := by
  refine List.ext_getElem (by simp [h2]) fun i h1 h2' => ?_
  have hi : i < xs.length := by simpa using h2'
  have := h3 i xs[i] css[i] (List.getElem?_eq_getElem hi) (List.getElem?_eq_getElem h1)
  rw [List.getElem_map]; exact this
 rw [this]
 clear this h2 h3
 induction xs with
 | nil => rfl
 | cons x xs ih => simp only [List.map_cons, List.flatten_cons, List.singleton_append, ih]
theorem Gr.strs {I : Imm} {e : TypeId} {v : Value} {xs : List Bs} {M : Own} (h : Gr tStr I e v xs M) : (v = .slice none 0 0 /\ xs = [] /\ M = []) \/ ∃ b cap cur, v = .slice (some ⟨b, 0, none⟩) xs.length cap /\ M = [(b, blk cur e)] /\ xs.length <= cap /\ cur.length = cap /\ cur.take xs.length = xs.map str := by
 obtain ⟨cs, ⟨hlen, hG⟩, hC⟩ := h
 rcases hG with ⟨rfl, h0, rfl⟩ | ⟨b, cap, cur, rfl, rfl, hmc, hcs, htake⟩
 ·exact .inl ⟨rfl, List.eq_nil_of_length_eq_zero h0, rfl⟩
 ·have e1 : tStr.size = 1 := rfl
  rw [e1, Nat.mul_one] at hcs htake
  exact .inr ⟨b, cap, cur.toList, rfl, by simp [blk], hmc, by simpa using hcs, by rw [htake]; exact hC.str_eq⟩
theorem Gr.mkStrs {I : Imm} {e : TypeId} {xs : List Bs} {b cap : Nat} {cur : List Value} (h1 : xs.length <= cap) (h2 : cur.length = cap) (h3 : cur.take xs.length = xs.map str) : Gr tStr I e (.slice (some ⟨b, 0, none⟩) xs.length cap) xs [(b, blk cur e)] := by
 have e1 : tStr.size = 1 := rfl
 exact ⟨xs.map str, ⟨by rw [e1, List.length_map, Nat.mul_one], .inr ⟨b, cap, cur.toArray, rfl, rfl, h1, by rw [e1, Nat.mul_one]; simpa using h2, by rw [e1, Nat.mul_one]; exact h3⟩⟩, Cells.strs xs⟩
theorem setAt_one {cs : List Value} {i : Nat} {v : Value} (h : i < cs.length) : setAt cs i [v] = cs.set i v := by
 unfold setAt
 rw [List.set_eq_take_append_cons_drop, if_pos h]; simp
theorem swap_take {cur : List Value} {xs : List Bs} {i k : Nat} (hi : i < xs.length) (hk : k < xs.length) (h : cur.take xs.length = xs.map str) :
  ((cur.set i (str (xs.getD k []))).set k (str (xs.getD i []))).take (swapL xs i k).length = (swapL xs i k).map str := by
 have e : swapL xs i k = (xs.set i (xs.getD k [])).set k (xs.getD i []) := by
  unfold swapL
  rw [List.getElem?_eq_getElem hi, List.getElem?_eq_getElem hk]
  simp [List.getD_eq_getElem?_getD, hi, hk]
 rw [e, List.length_set, List.length_set, List.take_set, List.take_set, h, List.map_set, List.map_set]
theorem cur_get {cur : List Value} {xs : List Bs} {i : Nat} (hi : i < xs.length) (h : cur.take xs.length = xs.map str) : cur[i]? = some (str (xs.getD i [])) := by
 have : (cur.take xs.length)[i]? = some (str (xs.getD i [])) := by
  rw [h, List.getElem?_map, List.getElem?_eq_getElem hi]
  simp [List.getD_eq_getElem?_getD, hi]
 rw [List.getElem?_take, if_pos hi] at this
 exact this
theorem swapL_len {α : Type} (l : List α) (i k : Nat) : (swapL l i k).length = l.length := (swapL_perm l i k).length_eq.symm
theorem mem_joinC {x : Bs} : ∀ {l : List Bs}, x ∈ l -> x.length <= (joinC l).length
 | [], h => by cases h
 | t :: r, h => by
  rw [joinC_cons]
  rcases List.mem_cons.1 h with rfl | h
  ·split
   ·exact Nat.le_refl _
   ·rw [List.length_append]; omega
  ·rw [if_neg (fun e => by rw [e] at h; cases h)]
   have := mem_joinC h
   rw [List.length_append, List.length_cons]; omega
theorem wfix_mem (fixed : Bool) (ps : List Bs) (w : Bs) : ps.length <= (wfix fixed ps w).1.length /\ ∀ x ∈ ps, x ∈ (wfix fixed ps w).1 := by
 unfold wfix
 cases fixed with
 | false => exact ⟨Nat.le_refl _, fun x h => h⟩
 | true =>
  simp only [if_true]
  split
  ·have hp := shuf_perm ((ps ++ [unkT]).length - 1) (ps ++ [unkT]) (tk 4 w).2
   exact ⟨by rw [<- hp.length_eq]; simp, fun x h => hp.subset (by simp [h])⟩
  ·have hp := shuf_perm (ps.length - 1) ps (tk 4 w).2
   exact ⟨by rw [<- hp.length_eq]; exact Nat.le_refl _, fun x h => hp.subset h⟩
end Go.V
