import Derived.Test.YteppnkblebknnaaGreatDoorUM6
set_option linter.unusedVariables false
set_option linter.unusedSimpArgs false
namespace Go.V
open Go.Proofs.Tryz
open Go.RowKit
set_option maxRecDepth 10000
attribute [local irreducible] Run Ops QD
def tJs0 : Ty Js := ⟨3, fun _ _ _ => False, fun h => h.elim, fun h _ => h⟩
def tJss (t : Ty Js) : Ty Js := ⟨3, fun I cs j => ∃ vk, cs = [.int .u8 (j.kind.toNat : Int), str j.text, vk] ∧ Sl t I vk j.kids,
 fun ⟨vk, h, _⟩ => by subst h; rfl, fun ⟨vk, h, h1⟩ hle => ⟨vk, h, h1.mono hle⟩⟩
def tJs : Nat → Ty Js
 | 0 => tJs0
 | d + 1 => tJss (tJs d)
theorem tJs_size : ∀ d, (tJs d).size = 3
 | 0 => rfl
 | _ + 1 => rfl
theorem joinC_mono (a b : List Bs) : (joinC a).length ≤ (joinC (a ++ b)).length := by
 induction a with
 | nil => simp [joinC]
 | cons t a ih =>
  rw [List.cons_append, joinC_cons, joinC_cons]
  by_cases h : a = []
  ·subst h
   rw [if_pos rfl]
   split
   ·exact Nat.le_refl _
   ·rw [List.length_append]; omega
  ·rw [if_neg h, if_neg (by simp [h])]
   simp only [List.length_append, List.length_cons]; omega
theorem quo1_pos (c : Nat) : 1 ≤ (quo1 c).length := by
 have h := (encR_pos c).1
 unfold quo1
 repeat' split
 all_goals (try simp only [List.length_append, List.length_cons, List.length_nil])
 all_goals omega
theorem wrune_pos (c n : Nat) : 1 ≤ (wrune c n).length := by
 have h := (encR_pos c).1
 have h2 := quo1_pos c
 unfold wrune
 repeat' split
 all_goals (try simp only [List.length_append, List.length_cons, List.length_nil])
 all_goals omega
theorem wquo_runes {s : Bs} (h : GoodT s) (w : Bs) : ∃ rs, s = encs rs ∧ (∀ r ∈ rs, goodR r) ∧ rs.length ≤ (wquo s w).1.length := by
 obtain ⟨rs, rfl, hg⟩ := h
 refine ⟨rs, rfl, hg, ?_⟩
 unfold wquo
 rw [runesOf_encs hg]
 have : ∀ (rs : List Nat) (w : Bs), (∀ r ∈ rs, goodR r) → rs.length ≤ (wtext rs w).1.length := by
  intro rs
  induction rs with
  | nil => intro w _; simp
  | cons r rs ih =>
   intro w h
   have h1 := ih (tk 8 w).2 fun x hx => h x (by simp [hx])
   have h2 : 1 ≤ (wrune r (tk 8 w).1).length := wrune_pos r _
   simp only [wtext, List.length_append, List.length_cons]; omega
 have := this rs w hg
 simp only [List.length_append]; omega
def WSpec (d : Nat) : Prop := ∀ (I : Imm) (cs : List Value) (j : Js) (fixed : Bool) (w : Bs) (p : Nat) (o : Obj), (tJs d).rel I cs j → Fine d j → Wy I w o → (wval d j fixed w).1.length ≤ 34359738368 →
 Spec prog 42 [.pointer (some ⟨p, 0, none⟩), .agg cs.toArray, .bool fixed] I [(p, o)] fun v J M => v = str (wval d j fixed w).1 ∧ ∃ o', M = [(p, o')] ∧ Wy J (wval d j fixed w).2 o'
set_option maxHeartbeats 1000000 in
theorem wv_str (d : Nat) (I : Imm) (cs : List Value) (j : Js) (fixed : Bool) (w : Bs) (p : Nat) (o : Obj) (hrel : (tJs (d + 1)).rel I cs j) (hF : Fine (d + 1) j) (hW : Wy I w o) (hl : (wval (d + 1) j fixed w).1.length ≤ 34359738368) (hs : j.kind = 115) :
  Spec prog 42 [.pointer (some ⟨p, 0, none⟩), .agg cs.toArray, .bool fixed] I [(p, o)] fun v J M => v = str (wval (d + 1) j fixed w).1 ∧ ∃ o', M = [(p, o')] ∧ Wy J (wval (d + 1) j fixed w).2 o' := by
 unfold Fine at hF
 rw [if_pos hs] at hF
 unfold wval at hl ⊢
 simp only [if_pos hs] at hl ⊢
 simp only [List.length_append] at hl
 obtain ⟨rs, hrs, hg, hrl⟩ := wquo_runes hF (blk5 w).2
 obtain ⟨vk, rfl, hK⟩ := hrel
 refine Spec.enter 189 [(0, _), (1, _), (2, _)] func42 rfl ntmps42 (by simp) rfl ?_
 intro C hCf hR hCI
 refine Run.seq ?_
 refine Run.region ?_
 refine Ops.box rfl dc rfl rfl (fun b4 => ?_)
 refine Ops.pure T rfl dc rfl ?_
 refine Ops.nil ?_
 refine Run.seq ?_
 refine Run.regionP (D := [some 18, some 19, some 7]) [true] 1 rfl rfl rfl (by simp only [List.drop_succ_cons, List.drop_zero]; rfl) (fun Z hZ => ?_)
 refine q1 dc rfl rfl ?_
 refine QD.nil (hZ _ ?_)
 clear hZ Z
 refine Ops.callM (M := [_]) (N := _ :: _) ((way_blank I w p o hW)) (List.Perm.swap _ _ _) rfl dc call86 rfl ?_
 rintro v J1 M1 l1 ⟨rfl, o1, rfl, hW1⟩
 refine Ops.perm (List.Perm.swap _ _ _) ?_
 refine Ops.pure T rfl dc rfl ?_
 refine Ops.nil ?_
 repeat refine Run.seq ?_
 refine Run.regionO (D := [some 20, some 21]) [true, true] rfl rfl rfl (fun Z hZ => ?_)
 refine q1 dc rfl rfl ?_
 refine QD.yv dc rfl (Yv.load 0 T rfl rfl rfl rfl) ?_
 refine QD.nil (hZ _ ?_)
 clear hZ Z
 repeat (first | refine Run.seq ?_ | refine Run.block ?_)
 obtain ⟨kk, hkk⟩ : ∃ kk : Nat, kk = j.kind.toNat := ⟨_, rfl⟩
 rw [← hkk]
 have hk : kk = 115 := by rw [hkk, hs]; rfl
 refine Run.regionO (D := [some 23, some 22]) [true, true] rfl rfl rfl (fun Z hZ => ?_)
 refine qt (Ev.eqlI rfl rfl) (by omega) dc rfl ?_
 refine q1 dc rfl rfl ?_
 refine QD.nil (hZ _ ?_)
 clear hZ Z
 repeat (first | refine Run.seq ?_ | refine Run.cond_t rfl ?_)
 refine Run.regionP (D := [some 24, some 25, some 26, some 27, some 28, some 29, some 30, some 31, some 32, some 6]) [true, true, true, true] 4 rfl rfl rfl (by simp only [List.drop_succ_cons, List.drop_zero]; rfl) (fun Z hZ => ?_)
 iterate 3 refine q1 dc rfl rfl ?_
 refine QD.yv dc rfl (Yv.load 0 T rfl rfl rfl rfl) ?_
 refine QD.nil (hZ _ ?_)
 clear hZ Z
 have hT := way_text J1 rs hg (blk5 w).2 p o1 hW1 (by omega)
 rw [← hrs] at hT
 refine Ops.callM (M := [_]) (N := _ :: _) ((hT)) (List.Perm.swap _ _ _) rfl dc call87 rfl ?_
 rintro v2 J2 M2 l2 ⟨rfl, o2, rfl, hW2⟩
 refine Ops.perm (List.Perm.swap _ _ _) ?_
 refine Ops.ev (Ev.catS rfl rfl (by omega)) rfl dc ?_
 refine Ops.pure T rfl dc rfl ?_
 refine Ops.callM (M := [_]) (N := _ :: _) ((way_blank J2 _ p o2 hW2)) (List.Perm.swap _ _ _) rfl dc call86 rfl ?_
 rintro v3 J3 M3 l3 ⟨rfl, o3, rfl, hW3⟩
 refine Ops.perm (List.Perm.swap _ _ _) ?_
 refine Ops.ev (Ev.catS rfl rfl (by rw [List.length_append]; omega)) rfl dc ?_
 refine Ops.pure T rfl dc rfl ?_
 refine Ops.nil ?_
 skip
 refine Run.dropL (L' := [(p, o3)]) (List.sublist_cons_self _ _) ?_
 refine Run.ret1 (by rw [hCf]; exact func42) results42 rfl (hR _ _ _ ?_)
 exact ⟨rfl, o3, rfl, hW3⟩
set_option maxHeartbeats 1000000 in
theorem wv_lit (d : Nat) (I : Imm) (cs : List Value) (j : Js) (fixed : Bool) (w : Bs) (p : Nat) (o : Obj) (hrel : (tJs (d + 1)).rel I cs j) (hW : Wy I w o) (hl : (wval (d + 1) j fixed w).1.length ≤ 34359738368) (hs : j.kind ≠ 115) (h2 : j.kind ≠ 108) (h3 : j.kind ≠ 111) :
  Spec prog 42 [.pointer (some ⟨p, 0, none⟩), .agg cs.toArray, .bool fixed] I [(p, o)] fun v J M => v = str (wval (d + 1) j fixed w).1 ∧ ∃ o', M = [(p, o')] ∧ Wy J (wval (d + 1) j fixed w).2 o' := by
 unfold wval at hl ⊢
 simp only [if_neg hs, if_neg h2, if_neg h3] at hl ⊢
 simp only [List.length_append] at hl
 have k1 : j.kind.toNat ≠ 115 := fun h => hs (UInt8.toNat_inj.1 h)
 have k2 : j.kind.toNat ≠ 108 := fun h => h2 (UInt8.toNat_inj.1 h)
 have k3 : j.kind.toNat ≠ 111 := fun h => h3 (UInt8.toNat_inj.1 h)
 obtain ⟨vk, rfl, hK⟩ := hrel
 refine Spec.enter 189 [(0, _), (1, _), (2, _)] func42 rfl ntmps42 (by simp) rfl ?_
 intro C hCf hR hCI
 refine Run.seq ?_
 refine Run.region ?_
 refine Ops.box rfl dc rfl rfl (fun b4 => ?_)
 refine Ops.pure T rfl dc rfl ?_
 refine Ops.nil ?_
 refine Run.seq ?_
 refine Run.regionP (D := [some 18, some 19, some 7]) [true] 1 rfl rfl rfl (by simp only [List.drop_succ_cons, List.drop_zero]; rfl) (fun Z hZ => ?_)
 refine q1 dc rfl rfl ?_
 refine QD.nil (hZ _ ?_)
 clear hZ Z
 refine Ops.callM (M := [_]) (N := _ :: _) ((way_blank I w p o hW)) (List.Perm.swap _ _ _) rfl dc call86 rfl ?_
 rintro v J1 M1 l1 ⟨rfl, o1, rfl, hW1⟩
 refine Ops.perm (List.Perm.swap _ _ _) ?_
 refine Ops.pure T rfl dc rfl ?_
 refine Ops.nil ?_
 repeat refine Run.seq ?_
 refine Run.regionO (D := [some 20, some 21]) [true, true] rfl rfl rfl (fun Z hZ => ?_)
 refine q1 dc rfl rfl ?_
 refine QD.yv dc rfl (Yv.load 0 T rfl rfl rfl rfl) ?_
 refine QD.nil (hZ _ ?_)
 clear hZ Z
 repeat (first | refine Run.seq ?_ | refine Run.block ?_)
 obtain ⟨kk, hkk⟩ : ∃ kk : Nat, kk = j.kind.toNat := ⟨_, rfl⟩
 rw [← hkk]
 rw [← hkk] at k1 k2 k3
 refine Run.regionO (D := [some 23, some 22]) [true, true] rfl rfl rfl (fun Z hZ => ?_)
 refine qf (Ev.eqlI rfl rfl) (by omega) dc rfl ?_
 refine q1 dc rfl rfl ?_
 refine QD.nil (hZ _ ?_)
 clear hZ Z
 repeat (first | refine Run.seq ?_ | refine Run.cond_f rfl ?_)
 refine Run.regionO (D := [some 34, some 33]) [true, true] rfl rfl rfl (fun Z hZ => ?_)
 refine qf (Ev.eqlI rfl rfl) (by omega) dc rfl ?_
 refine q1 dc rfl rfl ?_
 refine QD.nil (hZ _ ?_)
 clear hZ Z
 repeat (first | refine Run.seq ?_ | refine Run.cond_f rfl ?_)
 refine Run.regionO (D := [some 65, some 64]) [true, true] rfl rfl rfl (fun Z hZ => ?_)
 refine qf (Ev.eqlI rfl rfl) (by omega) dc rfl ?_
 refine q1 dc rfl rfl ?_
 refine QD.nil (hZ _ ?_)
 clear hZ Z
 repeat (first | refine Run.seq ?_ | refine Run.skip ?_ | refine Run.inBlock ?_ | refine Run.cond_f rfl ?_)
 refine Run.regionAny (Holds J1 [(b4, blk [.int .u8 (kk : Int), str j.text, vk] 39)]) (bl 8 0) (by kernel_rfl) (by kernel_rfl) ?_
 refine RAny.tk 0 (bl 8 1) rfl (by kernel_rfl) dc (fun W h => h.holds (Le.refl _) (by first | exact mp rfl | exact mq rfl)) (Yld.eval T rfl rfl) ?_
 refine RAny.tk 1 (bl 8 3) rfl (by kernel_rfl) dc (fun W h => h.holds (Le.refl _) (by first | exact mp rfl | exact mq rfl)) (Yld.eval T rfl rfl) ?_
 refine RAny.tk 2 (bl 8 7) rfl (by kernel_rfl) dc (fun W h => h.holds (Le.refl _) (by first | exact mp rfl | exact mq rfl)) (Yld.load 0 T rfl rfl rfl rfl rfl) ?_
 refine RAny.tk 3 (bl 8 15) rfl (by kernel_rfl) dc (fun W h => h.holds (Le.refl _) (by first | exact mp rfl | exact mq rfl)) (Yld.ev (Ev.catS rfl rfl (by omega)) rfl) ?_
 refine RAny.tk 4 (bl 8 31) rfl (by kernel_rfl) dc (fun W h => h.holds (Le.refl _) (by first | exact mp rfl | exact mq rfl)) (Yld.eval T rfl rfl) ?_
 refine RAny.on 5 (bl 8 63) rfl (by kernel_rfl) rfl dc (Eff.callM (M := [_]) (N := _ :: _) (way_blank J1 _ p o1 hW1) (List.Perm.swap _ _ _) call86 rfl fun v J2 M2 l2 hv => ⟨fun W h => h.holds l2 (by intro x hx; rcases List.mem_singleton.1 hx with rfl; simp), ?_⟩)
 obtain ⟨rfl, o2, rfl, hW2⟩ := hv
 skip
 refine RAny.perm (List.Perm.swap _ _ _) ?_
 refine RAny.tk 6 (bl 8 127) rfl (by kernel_rfl) dc (fun W h => h.holds l2 (by first | exact mp rfl | exact mq rfl)) (Yld.ev (Ev.catS rfl rfl (by rw [List.length_append]; omega)) rfl) ?_
 refine RAny.tk 7 (bl 8 255) rfl (by kernel_rfl) dc (fun W h => h.holds l2 (by first | exact mp rfl | exact mq rfl)) (Yld.eval T rfl rfl) ?_
 refine RAny.done _ (by kernel_rfl) ?_
 skip
 refine Run.dropL (L' := [(p, o2)]) (List.sublist_cons_self _ _) ?_
 refine Run.ret1 (by rw [hCf]; exact func42) results42 rfl (hR _ _ _ ?_)
 exact ⟨rfl, o2, rfl, hW2⟩
end Go.V
namespace Go.V
open Go.Proofs.Tryz
open Go.RowKit
set_option maxRecDepth 10000
attribute [local irreducible] Run Ops QD
theorem tJs_shape {d : Nat} {I : Imm} {cs : List Value} {j : Js} (h : (tJs d).rel I cs j) : ∃ A n c, cs = [.int .u8 (j.kind.toNat : Int), str j.text, .slice A n c] := by
 cases d with
 | zero => exact h.elim
 | succ d =>
  obtain ⟨vk, rfl, hS⟩ := h
  obtain ⟨A, c, rfl⟩ := hS.isSl
  exact ⟨_, _, _, rfl⟩
theorem wlist_len (val : Js → Bs → Bs × Bs) : ∀ (js : List Js) (w : Bs), (wlist val js w).1.length = js.length
 | [], _ => rfl
 | j :: js, w => by simp [wlist, wlist_len val js]
def elI (val : Js → Bs → Bs × Bs) (p b4 : Nat) (fixed : Bool) (cb : List Value) (A : Option Addr) (c : Nat) (kids : List Js) (ts : List Bs) (we : Bs) (X : Bs) (I : Imm) (m : Nat) (env : Env) (L : Own) (J : Imm) : Prop :=
 ∃ (done : List Bs) (pre rest : List Js) (w' : Bs) (o : Obj), m = rest.length ∧ kids = pre ++ rest ∧ pre.length = done.length ∧ done ++ (wlist val rest w').1 = ts ∧ (wlist val rest w').2 = we ∧
  env = [(0, .pointer (some ⟨p, 0, none⟩)), (2, .bool fixed), (4, .pointer (some ⟨b4, 0, none⟩)), (7, str (X ++ joinC done)), (38, .slice A kids.length c), (39, .int .i64 kids.length), (40, .int .i64 done.length)] ∧
  L = [(b4, blk cb 39), (p, o)] ∧ Wy J w' o ∧ Le I J
set_option maxHeartbeats 2000000 in
theorem wv_list (d : Nat) (hWS : WSpec d) (I : Imm) (cs : List Value) (j : Js) (fixed : Bool) (w : Bs) (p : Nat) (o : Obj) (hrel : (tJs (d + 1)).rel I cs j) (hF : Fine (d + 1) j) (hW : Wy I w o) (hl : (wval (d + 1) j fixed w).1.length ≤ 34359738368) (hs : j.kind = 108) :
  Spec prog 42 [.pointer (some ⟨p, 0, none⟩), .agg cs.toArray, .bool fixed] I [(p, o)] fun v J M => v = str (wval (d + 1) j fixed w).1 ∧ ∃ o', M = [(p, o')] ∧ Wy J (wval (d + 1) j fixed w).2 o' := by
 have hns : j.kind ≠ 115 := by rw [hs]; decide
 unfold Fine at hF
 rw [if_neg hns, if_pos hs] at hF
 unfold wval at hl ⊢
 simp only [if_neg hns, if_pos hs] at hl ⊢
 simp only [List.length_append] at hl
 have htl := wlist_len (fun x w => wval d x fixed w) j.kids (blk5 w).2
 have hjl := joinC_len (wlist (fun x w => wval d x fixed w) j.kids (blk5 w).2).1
 rw [htl] at hjl
 have hFk := hF
 obtain ⟨vk, rfl, hK⟩ := hrel
 refine Spec.enter 189 [(0, _), (1, _), (2, _)] func42 rfl ntmps42 (by simp) rfl ?_
 intro C hCf hR hCI
 refine Run.seq ?_
 refine Run.region ?_
 refine Ops.box rfl dc rfl rfl (fun b4 => ?_)
 refine Ops.pure T rfl dc rfl ?_
 refine Ops.nil ?_
 refine Run.seq ?_
 refine Run.regionP (D := [some 18, some 19, some 7]) [true] 1 rfl rfl rfl (by simp only [List.drop_succ_cons, List.drop_zero]; rfl) (fun Z hZ => ?_)
 refine q1 dc rfl rfl ?_
 refine QD.nil (hZ _ ?_)
 clear hZ Z
 refine Ops.callM (M := [_]) (N := _ :: _) ((way_blank I w p o hW)) (List.Perm.swap _ _ _) rfl dc call86 rfl ?_
 rintro v J1 M1 l1 ⟨rfl, o1, rfl, hW1⟩
 refine Ops.perm (List.Perm.swap _ _ _) ?_
 refine Ops.pure T rfl dc rfl ?_
 refine Ops.nil ?_
 repeat refine Run.seq ?_
 refine Run.regionO (D := [some 20, some 21]) [true, true] rfl rfl rfl (fun Z hZ => ?_)
 refine q1 dc rfl rfl ?_
 refine QD.yv dc rfl (Yv.load 0 T rfl rfl rfl rfl) ?_
 refine QD.nil (hZ _ ?_)
 clear hZ Z
 repeat (first | refine Run.seq ?_ | refine Run.block ?_)
 obtain ⟨kk, hkk⟩ : ∃ kk : Nat, kk = j.kind.toNat := ⟨_, rfl⟩
 rw [← hkk]
 have hk : kk = 108 := by rw [hkk, hs]; rfl
 obtain ⟨ts, hts⟩ : ∃ ts, ts = (wlist (fun x w => wval d x fixed w) j.kids (blk5 w).2).1 := ⟨_, rfl⟩
 obtain ⟨we, hwe⟩ : ∃ we, we = (wlist (fun x w => wval d x fixed w) j.kids (blk5 w).2).2 := ⟨_, rfl⟩
 rw [← hts] at hl hjl htl
 rw [← hwe] at hl
 rw [← hts, ← hwe] at hR
 obtain ⟨A, c, rfl⟩ := hK.isSl
 refine Run.regionO (D := [some 23, some 22]) [true, true] rfl rfl rfl (fun Z hZ => ?_)
 refine qf (Ev.eqlI rfl rfl) (by omega) dc rfl ?_
 refine q1 dc rfl rfl ?_
 refine QD.nil (hZ _ ?_)
 clear hZ Z
 repeat (first | refine Run.seq ?_ | refine Run.cond_f rfl ?_)
 refine Run.regionO (D := [some 34, some 33]) [true, true] rfl rfl rfl (fun Z hZ => ?_)
 refine qt (Ev.eqlI rfl rfl) (by omega) dc rfl ?_
 refine q1 dc rfl rfl ?_
 refine QD.nil (hZ _ ?_)
 clear hZ Z
 repeat (first | refine Run.seq ?_ | refine Run.cond_t rfl ?_)
 obtain ⟨X, hX⟩ : ∃ X, X = (blk5 w).1 ++ [91] := ⟨_, rfl⟩
 rw [← hX] at hR
 have hXl := congrArg List.length hX
 rw [List.length_append, List.length_singleton] at hXl
 refine Run.regionO (D := [some 35, some 36, some 7]) [true, true, true] rfl rfl rfl (fun Z hZ => ?_)
 refine q1 dc rfl rfl ?_
 refine QD.e ((Ev.catS rfl rfl (by simp only [List.length_cons, List.length_nil]; omega)).as (show _ = str (X ++ joinC []) from congrArg str (by rw [hX]; simp [joinC]))) dc rfl ?_
 refine q1 dc rfl rfl ?_
 refine QD.nil (hZ _ ?_)
 clear hZ Z
 repeat refine Run.seq ?_
 refine Run.regionO (D := [some 37, some 38, some 39, some 40]) [true, true, true, true] rfl rfl rfl (fun Z hZ => ?_)
 refine q1 dc rfl rfl ?_
 refine QD.yv dc rfl (Yv.load 0 T rfl rfl rfl rfl) ?_
 iterate 2 refine q1 dc rfl rfl ?_
 refine QD.nil (hZ _ ?_)
 clear hZ Z
 refine Run.block ?_
 refine Run.keep [0, 2, 4, 7, 38, 39, 40] [_, _, _, _, _, _, _] rfl ?_
 refine Run.rounds (elI (fun x w => wval d x fixed w) p b4 fixed [.int .u8 (kk : Int), str j.text, .slice A j.kids.length c] A c j.kids ts we X J1) j.kids.length ⟨[], [], j.kids, (blk5 w).2, o1, rfl, rfl, rfl, by rw [hts]; rfl, by rw [hwe], rfl, rfl, hW1, Le.refl _⟩ ?_
 rintro m env L J ⟨done, pre, rest, w', o, rfl, hkids, hpl, hdone, hrem, rfl, rfl, hWy, hle⟩ ih
 have hkl := congrArg List.length hkids
 rw [List.length_append] at hkl
 refine Run.seq ?_
 cases rest with
 | nil =>
  simp only [wlist, List.append_nil] at hdone hrem
  simp only [List.length_nil] at hkl
  subst hdone
  subst hrem
  refine Run.regionO (D := [some 41]) [true] rfl rfl rfl (fun Z hZ => ?_)
  refine qf (Ev.lss rfl rfl) (by omega) dc rfl ?_
  refine QD.nil (hZ _ ?_)
  clear hZ Z
  repeat (first | refine Run.seq ?_ | refine Run.exit rfl ?_ | refine Run.cond_f rfl ?_)
  refine Run.regionP (D := [some 56, some 57, some 58, some 59, some 60, some 61, some 62, some 63, some 6]) [true, true] 2 rfl rfl rfl (by simp only [List.drop_succ_cons, List.drop_zero]; rfl) (fun Z hZ => ?_)
  iterate 2 refine q1 dc rfl rfl ?_
  refine QD.nil (hZ _ ?_)
  clear hZ Z
  refine Ops.callM (M := [_]) (N := _ :: _) ((way_blank J _ p o hWy)) (List.Perm.swap _ _ _) rfl dc call86 rfl ?_
  rintro v2 J2 M2 l2 ⟨rfl, o2, rfl, hW2⟩
  refine Ops.perm (List.Perm.swap _ _ _) ?_
  refine Ops.ev (Ev.catS rfl rfl (by rw [List.length_append]; omega)) rfl dc ?_
  refine Ops.ev (Ev.catS rfl rfl (by simp only [List.length_append, List.length_cons, List.length_nil]; omega)) rfl dc ?_
  refine Ops.pure T rfl dc rfl ?_
  refine Ops.callM (M := [_]) (N := _ :: _) ((way_blank J2 _ p o2 hW2)) (List.Perm.swap _ _ _) rfl dc call86 rfl ?_
  rintro v3 J3 M3 l3 ⟨rfl, o3, rfl, hW3⟩
  refine Ops.perm (List.Perm.swap _ _ _) ?_
  refine Ops.ev (Ev.catS rfl rfl (by simp only [List.length_append, List.length_cons, List.length_nil]; omega)) rfl dc ?_
  refine Ops.pure T rfl dc rfl ?_
  refine Ops.nil ?_
  skip
  refine Run.dropL (L' := [(p, o3)]) (List.sublist_cons_self _ _) ?_
  refine Run.ret1 (by rw [hCf]; exact func42) results42 rfl (hR _ _ _ ?_)
  exact ⟨rfl, o3, rfl, hW3⟩
 | cons x rest =>
  simp only [wlist] at hdone hrem
  simp only [List.length_cons] at hkl
  have hms := joinC_mono (done ++ [(wval d x fixed w').1]) (wlist (fun x w => wval d x fixed w) rest (wval d x fixed w').2).1
  rw [List.append_assoc, List.singleton_append, hdone, joinC_snoc] at hms
  refine Run.regionO (D := [some 41]) [true] rfl rfl rfl (fun Z hZ => ?_)
  refine qt (Ev.lss rfl rfl) (by omega) dc rfl ?_
  refine QD.nil (hZ _ ?_)
  clear hZ Z
  repeat (first | refine Run.seq ?_ | refine Run.skip ?_ | refine Run.block ?_ | refine Run.cond_t rfl ?_)
  refine Run.region ?_
  refine Ops.pure T rfl dc rfl ?_
  refine Ops.indexSl (j := (done.length : Int)) (hK.mono (l1.trans hle)) rfl dc rfl rfl (T.undOk rfl) (by rw [tJs_size]; exact T.sizeOk rfl) (by omega) (by omega) fun bb off q cq hq hr hA => ?_
  rw [Int.toNat_natCast] at hq
  obtain rfl : x = q := by
   rw [hkids, ← hpl, List.getElem?_append_right (Nat.le_refl _)] at hq
   simpa using hq
  obtain ⟨A2, n2, c2, rfl⟩ := tJs_shape hr
  refine Ops.loadIN rfl dc rfl hA (T.aggOk rfl) (T.sizeOk rfl) rfl ?_
  refine Ops.alloc rfl dc (T.zeroOk rfl) rfl (fun b9 => ?_)
  refine Ops.pure T rfl dc rfl ?_
  refine Ops.store 0 rfl rfl rfl rfl rfl (T.sizeOk rfl) rfl (Nat.le_of_ble_eq_true rfl) rfl rfl ?_
  refine Ops.nil ?_
  repeat refine Run.seq ?_
  by_cases h0 : done = []
  ·skip
   refine Run.regionO (D := [some 45, some 46]) [true, true] rfl rfl rfl (fun Z hZ => ?_)
   refine q1 dc rfl rfl ?_
   refine qf (Ev.gtr rfl rfl) (by rw [h0]; decide) dc rfl ?_
   refine QD.nil (hZ _ ?_)
   clear hZ Z
   repeat (first | refine Run.skip ?_ | refine Run.cond_f rfl ?_)
   rw [if_pos h0] at hms
   have hj0 : joinC done = [] := by rw [h0]; rfl
   have hj0l : (joinC done).length = 0 := by rw [hj0]; rfl
   refine Run.regionP (D := [some 49, some 50, some 51, some 52, some 53, some 54, some 7]) [true, true, true, true] 4 rfl rfl rfl (by simp only [List.drop_succ_cons, List.drop_zero]; rfl) (fun Z hZ => ?_)
   iterate 2 refine q1 dc rfl rfl ?_
   refine QD.yv dc rfl (Yv.loadN 0 T rfl rfl rfl rfl rfl rfl) ?_
   refine q1 dc rfl rfl ?_
   refine QD.nil (hZ _ ?_)
   clear hZ Z
   refine Ops.callM (M := [(p, o)]) (N := [(b9, _), (b4, _)]) (hWS _ _ x fixed w' p o hr (hFk x (by rw [hkids]; simp)) hWy (by omega)) (List.perm_append_comm (l₁ := [_, _]) (l₂ := [_])) rfl dc call42 rfl ?_
   rintro v3 J3 M3 l3 ⟨rfl, o3, rfl, hW3⟩
   refine Ops.ev ((Ev.catS rfl rfl (by simp only [List.length_append, List.length_cons, List.length_nil] at *; omega)).as (show _ = str (X ++ joinC (done ++ [(wval d x fixed w').1])) from congrArg str (by rw [joinC_snoc, if_pos h0, hj0]; simp))) rfl dc ?_
   refine Ops.pure T rfl dc rfl ?_
   refine Ops.nil ?_
   refine Run.inBlock ?_
   refine Run.regionO (D := [some 55, some 40]) [true, true] rfl rfl rfl (fun Z hZ => ?_)
   refine QD.e (Ev.addK (r := (((done ++ [(wval d x fixed w').1]).length : Nat) : Int)) rfl rfl (by rw [wI (by omega) (by omega)]; simp)) dc rfl ?_
   refine q1 dc rfl rfl ?_
   refine QD.nil (hZ _ ?_)
   clear hZ Z
   skip
   refine Run.perm (L' := [(b9, _), (b4, _), (p, o3)]) (List.perm_append_comm (l₁ := [_]) (l₂ := [_, _])) ?_
   refine Run.dropL (L' := [(b4, _), (p, o3)]) (List.sublist_cons_self _ _) ?_
   refine Run.keep [0, 2, 4, 7, 38, 39, 40] [_, _, _, _, _, _, _] rfl ?_
   exact ih rest.length _ _ _ (by simp only [List.length_cons]; omega) ⟨done ++ [(wval d x fixed w').1], pre ++ [x], rest, (wval d x fixed w').2, o3, rfl, by rw [hkids]; simp, by simp [hpl], by rw [← hdone]; simp, hrem, rfl, rfl, hW3, hle.trans l3⟩
  ·have h0l : 0 < done.length := List.length_pos_iff.2 h0
   rw [if_neg h0, List.length_append, List.length_cons] at hms
   refine Run.regionO (D := [some 45, some 46]) [true, true] rfl rfl rfl (fun Z hZ => ?_)
   refine q1 dc rfl rfl ?_
   refine qt (Ev.gtr rfl rfl) (by omega) dc rfl ?_
   refine QD.nil (hZ _ ?_)
   clear hZ Z
   refine Run.cond_t rfl ?_
   refine Run.regionO (D := [some 47, some 48, some 7]) [true, true, true] rfl rfl rfl (fun Z hZ => ?_)
   refine q1 dc rfl rfl ?_
   refine QD.e (Ev.catS rfl rfl (by simp only [List.length_append, List.length_cons, List.length_nil]; omega)) dc rfl ?_
   refine q1 dc rfl rfl ?_
   refine QD.nil (hZ _ ?_)
   clear hZ Z
   skip
   refine Run.regionP (D := [some 49, some 50, some 51, some 52, some 53, some 54, some 7]) [true, true, true, true] 4 rfl rfl rfl (by simp only [List.drop_succ_cons, List.drop_zero]; rfl) (fun Z hZ => ?_)
   iterate 2 refine q1 dc rfl rfl ?_
   refine QD.yv dc rfl (Yv.loadN 0 T rfl rfl rfl rfl rfl rfl) ?_
   refine q1 dc rfl rfl ?_
   refine QD.nil (hZ _ ?_)
   clear hZ Z
   refine Ops.callM (M := [(p, o)]) (N := [(b9, _), (b4, _)]) (hWS _ _ x fixed w' p o hr (hFk x (by rw [hkids]; simp)) hWy (by omega)) (List.perm_append_comm (l₁ := [_, _]) (l₂ := [_])) rfl dc call42 rfl ?_
   rintro v3 J3 M3 l3 ⟨rfl, o3, rfl, hW3⟩
   refine Ops.ev ((Ev.catS rfl rfl (by simp only [List.length_append, List.length_cons, List.length_nil] at *; omega)).as (show _ = str (X ++ joinC (done ++ [(wval d x fixed w').1])) from congrArg str (by rw [joinC_snoc, if_neg h0]; simp))) rfl dc ?_
   refine Ops.pure T rfl dc rfl ?_
   refine Ops.nil ?_
   refine Run.inBlock ?_
   refine Run.regionO (D := [some 55, some 40]) [true, true] rfl rfl rfl (fun Z hZ => ?_)
   refine QD.e (Ev.addK (r := (((done ++ [(wval d x fixed w').1]).length : Nat) : Int)) rfl rfl (by rw [wI (by omega) (by omega)]; simp)) dc rfl ?_
   refine q1 dc rfl rfl ?_
   refine QD.nil (hZ _ ?_)
   clear hZ Z
   skip
   refine Run.perm (L' := [(b9, _), (b4, _), (p, o3)]) (List.perm_append_comm (l₁ := [_]) (l₂ := [_, _])) ?_
   refine Run.dropL (L' := [(b4, _), (p, o3)]) (List.sublist_cons_self _ _) ?_
   refine Run.keep [0, 2, 4, 7, 38, 39, 40] [_, _, _, _, _, _, _] rfl ?_
   exact ih rest.length _ _ _ (by simp only [List.length_cons]; omega) ⟨done ++ [(wval d x fixed w').1], pre ++ [x], rest, (wval d x fixed w').2, o3, rfl, by rw [hkids]; simp, by simp [hpl], by rw [← hdone]; simp, hrem, rfl, rfl, hW3, hle.trans l3⟩
end Go.V
namespace Go.V
open Go.RowKit
set_option maxRecDepth 10000
attribute [local irreducible] Run Ops QD
theorem Cells.str_eq {I : Imm} {cs : List Value} {xs : List Bs} (h : Cells tStr I cs xs) : cs = xs.map str := by
 obtain ⟨css, rfl, h2, h3⟩ := h
 have : css = xs.map fun x => [str x] := by
  refine List.ext_getElem (by simp [h2]) fun i h1 h2' => ?_
  have hi : i < xs.length := by simpa using h2'
  have := h3 i xs[i] css[i] (List.getElem?_eq_getElem hi) (List.getElem?_eq_getElem h1)
  rw [List.getElem_map]; exact this
 rw [this]
 clear this h2 h3
 induction xs with
 | nil => rfl
 | cons x xs ih => simp only [List.map_cons, List.flatten_cons, List.singleton_append, ih]
theorem Gr.strs {I : Imm} {e : TypeId} {v : Value} {xs : List Bs} {M : Own} (h : Gr tStr I e v xs M) : (v = .slice none 0 0 ∧ xs = [] ∧ M = []) ∨ ∃ b cap cur, v = .slice (some ⟨b, 0, none⟩) xs.length cap ∧ M = [(b, blk cur e)] ∧ xs.length ≤ cap ∧ cur.length = cap ∧ cur.take xs.length = xs.map str := by
 obtain ⟨cs, ⟨hlen, hG⟩, hC⟩ := h
 rcases hG with ⟨rfl, h0, rfl⟩ | ⟨b, cap, cur, rfl, rfl, hmc, hcs, htake⟩
 ·exact .inl ⟨rfl, List.eq_nil_of_length_eq_zero h0, rfl⟩
 ·have e1 : tStr.size = 1 := rfl
  rw [e1, Nat.mul_one] at hcs htake
  exact .inr ⟨b, cap, cur.toList, rfl, by simp [blk], hmc, by simpa using hcs, by rw [htake]; exact hC.str_eq⟩
theorem Gr.mkStrs {I : Imm} {e : TypeId} {xs : List Bs} {b cap : Nat} {cur : List Value} (h1 : xs.length ≤ cap) (h2 : cur.length = cap) (h3 : cur.take xs.length = xs.map str) : Gr tStr I e (.slice (some ⟨b, 0, none⟩) xs.length cap) xs [(b, blk cur e)] := by
 have e1 : tStr.size = 1 := rfl
 exact ⟨xs.map str, ⟨by rw [e1, List.length_map, Nat.mul_one], .inr ⟨b, cap, cur.toArray, rfl, rfl, h1, by rw [e1, Nat.mul_one]; simpa using h2, by rw [e1, Nat.mul_one]; exact h3⟩⟩, Cells.strs xs⟩
theorem setAt_one {cs : List Value} {i : Nat} {v : Value} (h : i < cs.length) : setAt cs i [v] = cs.set i v := by
 unfold setAt
 rw [List.set_eq_take_append_cons_drop, if_pos h]; simp
theorem swap_take {cur : List Value} {xs : List Bs} {i k : Nat} (hi : i < xs.length) (hk : k < xs.length) (h : cur.take xs.length = xs.map str) :
  ((cur.set i (str (xs.getD k []))).set k (str (xs.getD i []))).take (swapL xs i k).length = (swapL xs i k).map str := by
 have e : swapL xs i k = (xs.set i (xs.getD k [])).set k (xs.getD i []) := by
  unfold swapL
  rw [List.getElem?_eq_getElem hi, List.getElem?_eq_getElem hk]
  simp [List.getD_eq_getElem?_getD, hi, hk]
 rw [e, List.length_set, List.length_set, List.take_set, List.take_set, h, List.map_set, List.map_set]
theorem cur_get {cur : List Value} {xs : List Bs} {i : Nat} (hi : i < xs.length) (h : cur.take xs.length = xs.map str) : cur[i]? = some (str (xs.getD i [])) := by
 have : (cur.take xs.length)[i]? = some (str (xs.getD i [])) := by
  rw [h, List.getElem?_map, List.getElem?_eq_getElem hi]
  simp [List.getD_eq_getElem?_getD, hi]
 rw [List.getElem?_take, if_pos hi] at this
 exact this
theorem swapL_len {α : Type} (l : List α) (i k : Nat) : (swapL l i k).length = l.length := (swapL_perm l i k).length_eq.symm
theorem mem_joinC {x : Bs} : ∀ {l : List Bs}, x ∈ l → x.length ≤ (joinC l).length
 | [], h => by cases h
 | t :: r, h => by
  rw [joinC_cons]
  rcases List.mem_cons.1 h with rfl | h
  ·split
   ·exact Nat.le_refl _
   ·rw [List.length_append]; omega
  ·rw [if_neg (fun e => by rw [e] at h; cases h)]
   have := mem_joinC h
   rw [List.length_append, List.length_cons]; omega
theorem wfix_mem (fixed : Bool) (ps : List Bs) (w : Bs) : ps.length ≤ (wfix fixed ps w).1.length ∧ ∀ x ∈ ps, x ∈ (wfix fixed ps w).1 := by
 unfold wfix
 cases fixed with
 | false => exact ⟨Nat.le_refl _, fun x h => h⟩
 | true =>
  simp only [if_true]
  split
  ·have hp := shuf_perm ((ps ++ [unkT]).length - 1) (ps ++ [unkT]) (tk 4 w).2
   exact ⟨by rw [← hp.length_eq]; simp, fun x h => hp.subset (by simp [h])⟩
  ·have hp := shuf_perm (ps.length - 1) ps (tk 4 w).2
   exact ⟨by rw [← hp.length_eq]; exact Nat.le_refl _, fun x h => hp.subset h⟩
end Go.V
namespace Go.V
open Go.Proofs.Tryz
open Go.RowKit
set_option maxRecDepth 10000
attribute [local irreducible] Run Ops QD
theorem wpairs_len (val : Js → Bool → Bs → Bs × Bs) (fixed : Bool) {R : Js → Prop} : ∀ (n : Nat) (js : List Js) (w : Bs), js.length ≤ n → FineM R js → js.length = 2 * (wpairs val fixed js w).1.length
 | n, [], w, _, _ => rfl
 | n, [_], w, _, h => h.elim
 | 0, _ :: _ :: _, w, hn, _ => by simp at hn
 | n + 1, a :: b :: r, w, hn, h => by
  have := wpairs_len val fixed n r (wmem val fixed a b w).2 (by simp only [List.length_cons] at hn; omega) h.2.2
  simp only [wpairs, List.length_cons]; omega
def prI (d : Nat) (p b4 : Nat) (fixed : Bool) (cb : List Value) (kids : List Js) (ps : List Bs) (we : Bs) (B1 : Bs) (I : Imm) (m : Nat) (env : Env) (L : Own) (J : Imm) : Prop :=
 ∃ (done : List Bs) (pre rest : List Js) (w' : Bs) (o : Obj) (v : Value) (M : Own), m = rest.length ∧ kids = pre ++ rest ∧ pre.length = 2 * done.length ∧ FineM (Fine d) rest ∧ done ++ (wpairs (wval d) fixed rest w').1 = ps ∧ (wpairs (wval d) fixed rest w').2 = we ∧
  env = [(0, .pointer (some ⟨p, 0, none⟩)), (2, .bool fixed), (4, .pointer (some ⟨b4, 0, none⟩)), (7, str B1), (10, v), (11, .int .i64 ((2 * done.length : Nat) : Int))] ∧
  L = (b4, blk cb 39) :: (p, o) :: M ∧ Wy J w' o ∧ Gr tStr J 9 v done M ∧ Le I J
def jnI (p b4 : Nat) (cb : List Value) (A : Option Addr) (c : Nat) (l : List Bs) (X wq : Bs) (o : Obj) (I : Imm) (m : Nat) (env : Env) (L : Own) (J : Imm) : Prop :=
 ∃ i : Nat, m = l.length - i ∧ i ≤ l.length ∧ env = [(0, .pointer (some ⟨p, 0, none⟩)), (4, .pointer (some ⟨b4, 0, none⟩)), (7, str (X ++ joinC (l.take i))), (159, .slice A l.length c), (160, .int .i64 l.length), (161, .int .i64 i)] ∧ L = [(b4, blk cb 39), (p, o)] ∧ Wy J wq o ∧ I = J
def shI (p b4 : Nat) (cb : List Value) (B1 : Bs) (tg : List Bs × Bs) (I : Imm) (m : Nat) (env : Env) (L : Own) (J : Imm) : Prop :=
 ∃ (i : Nat) (z : Int) (l : List Bs) (w2 : Bs) (o : Obj) (v : Value) (M : Own), m = i ∧ (z = (i : Int) ∨ (z = -1 ∧ i = 0)) ∧ (i < l.length ∨ i = 0) ∧ l.length ≤ 34359738371 ∧ shuf i l w2 = tg ∧
  env = [(0, .pointer (some ⟨p, 0, none⟩)), (4, .pointer (some ⟨b4, 0, none⟩)), (7, str B1), (10, v), (14, .int .i64 z)] ∧
  L = (b4, blk cb 39) :: (p, o) :: M ∧ Wy J w2 o ∧ Gr tStr J 9 v l M ∧ Le I J
set_option maxHeartbeats 4000000 in
theorem wv_obj (d : Nat) (hWS : WSpec d) (I : Imm) (cs : List Value) (j : Js) (fixed : Bool) (w : Bs) (p : Nat) (o : Obj) (hrel : (tJs (d + 1)).rel I cs j) (hF : Fine (d + 1) j) (hW : Wy I w o) (hl : (wval (d + 1) j fixed w).1.length ≤ 34359738368) (hs : j.kind = 111) :
  Spec prog 42 [.pointer (some ⟨p, 0, none⟩), .agg cs.toArray, .bool fixed] I [(p, o)] fun v J M => v = str (wval (d + 1) j fixed w).1 ∧ ∃ o', M = [(p, o')] ∧ Wy J (wval (d + 1) j fixed w).2 o' := by
 have hns : j.kind ≠ 115 := by rw [hs]; decide
 have hnl : j.kind ≠ 108 := by rw [hs]; decide
 unfold Fine at hF
 rw [if_neg hns, if_neg hnl, if_pos hs] at hF
 unfold wval at hl ⊢
 simp only [if_neg hns, if_neg hnl, if_pos hs] at hl ⊢
 simp only [List.length_append] at hl
 have hpl := wpairs_len (wval d) fixed _ j.kids (blk5 w).2 (Nat.le_refl _) hF
 obtain ⟨vk, rfl, hK⟩ := hrel
 refine Spec.enter 189 [(0, _), (1, _), (2, _)] func42 rfl ntmps42 (by simp) rfl ?_
 intro C hCf hR hCI
 refine Run.seq ?_
 refine Run.region ?_
 refine Ops.box rfl dc rfl rfl (fun b4 => ?_)
 refine Ops.pure T rfl dc rfl ?_
 refine Ops.nil ?_
 refine Run.seq ?_
 refine Run.regionP (D := [some 18, some 19, some 7]) [true] 1 rfl rfl rfl (by simp only [List.drop_succ_cons, List.drop_zero]; rfl) (fun Z hZ => ?_)
 refine q1 dc rfl rfl ?_
 refine QD.nil (hZ _ ?_)
 clear hZ Z
 refine Ops.callM (M := [_]) (N := _ :: _) ((way_blank I w p o hW)) (List.Perm.swap _ _ _) rfl dc call86 rfl ?_
 rintro v J1 M1 l1 ⟨rfl, o1, rfl, hW1⟩
 refine Ops.perm (List.Perm.swap _ _ _) ?_
 refine Ops.pure T rfl dc rfl ?_
 refine Ops.nil ?_
 repeat refine Run.seq ?_
 refine Run.regionO (D := [some 20, some 21]) [true, true] rfl rfl rfl (fun Z hZ => ?_)
 refine q1 dc rfl rfl ?_
 refine QD.yv dc rfl (Yv.load 0 T rfl rfl rfl rfl) ?_
 refine QD.nil (hZ _ ?_)
 clear hZ Z
 repeat (first | refine Run.seq ?_ | refine Run.block ?_)
 obtain ⟨kk, hkk⟩ : ∃ kk : Nat, kk = j.kind.toNat := ⟨_, rfl⟩
 rw [← hkk]
 have hk : kk = 111 := by rw [hkk, hs]; rfl
 obtain ⟨ps, hps⟩ : ∃ ps, ps = (wpairs (wval d) fixed j.kids (blk5 w).2).1 := ⟨_, rfl⟩
 obtain ⟨we, hwe⟩ : ∃ we, we = (wpairs (wval d) fixed j.kids (blk5 w).2).2 := ⟨_, rfl⟩
 rw [← hps, ← hwe] at hl hR
 rw [← hps] at hpl
 have hpsl : ps.length ≤ 34359738370 ∧ ∀ x ∈ ps, x.length ≤ 34359738368 := by
  obtain ⟨m1, m2⟩ := wfix_mem fixed ps we
  have hjl := joinC_len (wfix fixed ps we).1
  exact ⟨by omega, fun x hx => by have := mem_joinC (m2 x hx); omega⟩
 obtain ⟨A, c, rfl⟩ := hK.isSl
 refine Run.regionO (D := [some 23, some 22]) [true, true] rfl rfl rfl (fun Z hZ => ?_)
 refine qf (Ev.eqlI rfl rfl) (by omega) dc rfl ?_
 refine q1 dc rfl rfl ?_
 refine QD.nil (hZ _ ?_)
 clear hZ Z
 repeat (first | refine Run.seq ?_ | refine Run.cond_f rfl ?_)
 refine Run.regionO (D := [some 34, some 33]) [true, true] rfl rfl rfl (fun Z hZ => ?_)
 refine qf (Ev.eqlI rfl rfl) (by omega) dc rfl ?_
 refine q1 dc rfl rfl ?_
 refine QD.nil (hZ _ ?_)
 clear hZ Z
 repeat (first | refine Run.seq ?_ | refine Run.cond_f rfl ?_)
 refine Run.regionO (D := [some 65, some 64]) [true, true] rfl rfl rfl (fun Z hZ => ?_)
 refine qt (Ev.eqlI rfl rfl) (by omega) dc rfl ?_
 refine q1 dc rfl rfl ?_
 refine QD.nil (hZ _ ?_)
 clear hZ Z
 repeat (first | refine Run.seq ?_ | refine Run.cond_t rfl ?_)
 refine Run.region ?_
 refine Ops.eff rfl (dOk dc) (Eff.lit0 T rfl rfl rfl fun bp => ?_)
 refine Ops.pure T rfl dc rfl ?_
 refine Ops.nil ?_
 repeat refine Run.seq ?_
 refine Run.regionO (D := [some 11]) [true] rfl rfl rfl (fun Z hZ => ?_)
 refine q1 dc rfl rfl ?_
 refine QD.nil (hZ _ ?_)
 clear hZ Z
 refine Run.block ?_
 refine Run.keep [0, 2, 4, 7, 10, 11] [_, _, _, _, _, _] rfl ?_
 refine Run.perm (L' := [(b4, _), (p, o1), (bp, _)]) (List.perm_append_comm (l₁ := [_]) (l₂ := [_, _])) ?_
 refine Run.rounds (prI d p b4 fixed [.int .u8 (kk : Int), str j.text, .slice A j.kids.length c] j.kids ps we (blk5 w).1 J1) j.kids.length ⟨[], [], j.kids, (blk5 w).2, o1, _, [(bp, _)], rfl, rfl, rfl, hF, by rw [hps]; rfl, by rw [hwe], rfl, rfl, hW1, Gr.lit0 tStr J1 9 bp, Le.refl _⟩ ?_
 rintro m env L J ⟨done, pre, rest, w', o, v10, M, rfl, hkids, hprl, hFr, hdone, hrem, rfl, rfl, hWy, hG, hle⟩ ih
 have hkl := congrArg List.length hkids
 rw [List.length_append] at hkl
 have hdl := congrArg List.length hdone
 rw [List.length_append] at hdl
 repeat refine Run.seq ?_
 match rest, hFr, hkids, hdone, hrem, hkl, hdl with
 | [], hFr, hkids, hdone, hrem, hkl, hdl =>
  simp only [wpairs, List.append_nil] at hdone hrem
  simp only [List.length_nil] at hkl
  subst hdone
  subst hrem
  refine Run.regionO (D := [some 67, some 68, some 69, some 70, some 71, some 72]) [true, true, true, true, true, true] rfl rfl rfl (fun Z hZ => ?_)
  refine q1 dc rfl rfl ?_
  refine QD.e (Ev.addK (r := ((2 * done.length + 1 : Nat) : Int)) rfl rfl (by rw [wI (by omega) (by omega)]; omega)) dc rfl ?_
  refine q1 dc rfl rfl ?_
  refine QD.yv dc rfl (Yv.load 0 T rfl rfl rfl rfl) ?_
  refine q1 dc rfl rfl ?_
  refine qf (Ev.lss rfl rfl) (by omega) dc rfl ?_
  refine QD.nil (hZ _ ?_)
  clear hZ Z
  repeat (first | refine Run.seq ?_ | refine Run.exit rfl ?_ | refine Run.cond_f rfl ?_)
  refine Run.regionO (D := [some 125]) [true] rfl rfl rfl (fun Z hZ => ?_)
  refine q1 dc rfl rfl ?_
  refine QD.nil (hZ _ ?_)
  clear hZ Z
  refine Run.piece (fun env' L' I' => ∃ (v : Value) (M' : Own) (o' : Obj), env' = [(0, .pointer (some ⟨p, 0, none⟩)), (4, .pointer (some ⟨b4, 0, none⟩)), (7, str (blk5 w).1), (10, v)] ∧ L' = (b4, blk [.int .u8 (kk : Int), str j.text, .slice A j.kids.length c] 39) :: (p, o') :: M' ∧ Wy I' (wfix fixed done w').2 o' ∧ Gr tStr I' 9 v (wfix fixed done w').1 M' ∧ Le J1 I') (fun k' hk' => ?_) ?_
  ·cases fixed with
   | false =>
    repeat (first | refine Run.skip ?_ | refine Run.cond_f rfl ?_)
    refine Run.keep [0, 4, 7, 10] [_, _, _, _] rfl ?_
    exact hk' _ _ _ ⟨v10, M, o, rfl, rfl, hWy, hG, hle⟩
   | true =>
    repeat (first | refine Run.seq ?_ | refine Run.cond_t rfl ?_)
    refine Run.regionP (D := [some 126, some 127, some 128]) [true] 1 rfl rfl rfl (by simp only [List.drop_succ_cons, List.drop_zero]; rfl) (fun Z hZ => ?_)
    refine q1 dc rfl rfl ?_
    refine QD.nil (hZ _ ?_)
    clear hZ Z
    refine Ops.callM (M := [_]) (N := _ :: _) ((way_take J w' p 4 o hWy dc dc)) (List.Perm.swap _ _ _) rfl dc call88 rfl ?_
    rintro y J2 M2 l2 ⟨rfl, o2, rfl, hW2⟩
    refine Ops.perm (List.Perm.swap _ _ _) ?_
    by_cases h1 : (tk 4 w').1 = 1
    ·have hwf : wfix true done w' = shuf ((done ++ [unkT]).length - 1) (done ++ [unkT]) (tk 4 w').2 := by unfold wfix; simp only [if_true]; rw [if_pos h1]
     rw [hwf] at hk'
     refine Ops.ev ((Ev.eqlI rfl rfl).as (show _ = Value.bool true from congrArg Value.bool (decide_eq_true (by omega)))) rfl dc ?_
     refine Ops.nil ?_
     refine Run.cond_t rfl ?_
     refine Run.region ?_
     refine Ops.pure T rfl dc rfl ?_
     refine Ops.lit T rfl rfl rfl dc rfl dc dc rfl rfl rfl rfl rfl (fun bq => ?_)
     refine Ops.appOne (t := tStr) (y := unkT) (N := [_, _]) el24 (hG.mono l2) (show tStr.rel _ [str unkT] unkT from rfl) rfl dc rfl rfl rfl rfl (by omega) (by omega) fun v11 M11 hG11 => ?_
     refine Ops.pure T rfl dc rfl ?_
     refine Ops.nil ?_
     refine Run.seq ?_
     have hpl2 : (done ++ [unkT]).length ≤ 34359738371 := by rw [List.length_append, List.length_singleton]; omega
     obtain ⟨A11, z11, hv11⟩ := (hG11).isSl
     subst hv11
     refine Run.regionO (D := [some 132, some 133, some 134, some 14]) [true, true, true, true] rfl rfl rfl (fun Z hZ => ?_)
     iterate 2 refine q1 dc rfl rfl ?_
     refine QD.e (Ev.subK (r := (((done ++ [unkT]).length : Int) - 1)) rfl rfl (wI (by omega) (by omega))) dc rfl ?_
     refine q1 dc rfl rfl ?_
     refine QD.nil (hZ _ ?_)
     clear hZ Z
     refine Run.block ?_
     refine Run.keep [0, 4, 7, 10, 14] [_, _, _, _, _] rfl ?_
     refine Run.rounds (shI p b4 [.int .u8 (kk : Int), str j.text, .slice A j.kids.length c] (blk5 w).1 (shuf ((done ++ [unkT]).length - 1) (done ++ [unkT]) (tk 4 w').2) J2) ((done ++ [unkT]).length - 1) ⟨(done ++ [unkT]).length - 1, _, done ++ [unkT], (tk 4 w').2, o2, _, M11, rfl, by omega, by omega, hpl2, rfl, rfl, rfl, hW2, hG11, Le.refl _⟩ ?_
     rintro m env L J3 ⟨i, z, l, w2, o3, v3, M3, rfl, hz, hil, hll, htg, rfl, rfl, hW3, hG3, hl3⟩ ih2
     repeat refine Run.seq ?_
     cases m with
     | zero =>
      refine Run.regionO (D := [some 135, some 136]) [true, true] rfl rfl rfl (fun Z hZ => ?_)
      refine q1 dc rfl rfl ?_
      refine qf (Ev.gtr rfl rfl) (by omega) dc rfl ?_
      refine QD.nil (hZ _ ?_)
      clear hZ Z
      repeat (first | refine Run.exit rfl ?_ | refine Run.cond_f rfl ?_)
      refine Run.keep [0, 4, 7, 10] [_, _, _, _] rfl ?_
      rw [← htg] at hk'
      exact hk' _ _ _ ⟨v3, M3, o3, rfl, rfl, hW3, hG3, (hle.trans l2).trans hl3⟩
     | succ i =>
      obtain rfl : z = ((i + 1 : Nat) : Int) := by omega
      have hil2 : i + 1 < l.length := by omega
      have hkk2 := tk_lt (n := i + 2) (by omega) w2
      refine Run.regionO (D := [some 135, some 136]) [true, true] rfl rfl rfl (fun Z hZ => ?_)
      refine q1 dc rfl rfl ?_
      refine qt (Ev.gtr rfl rfl) (by omega) dc rfl ?_
      refine QD.nil (hZ _ ?_)
      clear hZ Z
      repeat (first | refine Run.seq ?_ | refine Run.skip ?_ | refine Run.block ?_ | refine Run.cond_t rfl ?_)
      refine Run.regionP (D := [some 139, some 140, some 141, some 142, some 15]) [true, true, true] 3 rfl rfl rfl (by simp only [List.drop_succ_cons, List.drop_zero]; rfl) (fun Z hZ => ?_)
      iterate 2 refine q1 dc rfl rfl ?_
      refine QD.e (Ev.addK (r := ((i + 2 : Nat) : Int)) rfl rfl (by rw [wI (by omega) (by omega)]; omega)) dc rfl ?_
      refine QD.nil (hZ _ ?_)
      clear hZ Z
      refine Ops.callM (M := [_]) (N := _ :: _) ((way_take J3 w2 p (i + 2) o3 hW3 (by omega) (by omega))) (List.Perm.swap _ _ _) rfl dc call88 rfl ?_
      rintro y J4 M4 l4 ⟨rfl, o4, rfl, hW4⟩
      refine Ops.perm (List.Perm.swap _ _ _) ?_
      refine Ops.pure T rfl dc rfl ?_
      refine Ops.nil ?_
      skip
      obtain ⟨kx, hkx⟩ : ∃ kx, kx = (tk (i + 2) w2).1 := ⟨_, rfl⟩
      rw [← hkx] at hkk2 ⊢
      rcases hG3.strs with ⟨_, h0, _⟩ | ⟨bp2, cap, cur, rfl, rfl, hcap, hcur, htk⟩
      ·rw [h0] at hil2; simp at hil2
      refine Run.regionL [13, 15] (Holds J4 []) (Holds J4 [(bp2, blk cur 9)]) (bl 16 0) (by kernel_rfl) (by kernel_rfl) (fun W h => ⟨h.holds (Le.refl _) (by first | exact mp rfl | exact mq rfl | exact mr rfl), h.holds (Le.refl _) (by first | exact mp rfl | exact mq rfl | exact mr rfl)⟩) ?_
      refine RAnyL.tk 0 (bl 16 1) rfl (by kernel_rfl) dc rfl (T := fun _ => True) (.inl fun _ _ => trivial) (Yld.eval T rfl rfl) ?_
      refine RAnyL.tk 1 (bl 16 3) rfl (by kernel_rfl) dc rfl (T := fun _ => True) (.inl fun _ _ => trivial) (Yld.eval T rfl rfl) ?_
      refine RAnyL.tk 2 (bl 16 7) rfl (by kernel_rfl) dc rfl (T := fun _ => True) (.inl fun _ _ => trivial) (Yld.eval T rfl rfl) ?_
      refine RAnyL.tk 3 (bl 16 15) rfl (by kernel_rfl) dc rfl (T := fun _ => True) (.inl fun _ _ => trivial) (Yld.eval T rfl rfl) ?_
      refine RAnyL.tk 4 (bl 16 31) rfl (by kernel_rfl) dc rfl (T := fun _ => True) (.inl fun _ _ => trivial) (Yld.eval T rfl rfl) ?_
      refine RAnyL.tk 5 (bl 16 63) rfl (by kernel_rfl) dc rfl (T := fun _ => True) (.inl fun _ _ => trivial) (Yld.eval T rfl rfl) ?_
      refine RAnyL.tk 6 (bl 16 127) rfl (by kernel_rfl) dc rfl (T := fun _ => True) (.inl fun _ _ => trivial) (Yld.as (v' := .pointer (some ⟨bp2, kx, none⟩)) (Yld.indexSl (t := tStr) T rfl rfl rfl rfl rfl rfl (by omega) (by omega)) (by simp [show tStr.size = 1 from rfl])) ?_
      refine RAnyL.tk 7 (bl 16 255) rfl (by kernel_rfl) dc rfl (.inr ⟨by kernel_rfl, fun _ h => h⟩) (Yld.load 0 T rfl rfl rfl rfl (cur_get (by omega) htk)) ?_
      refine RAnyL.tk 8 (bl 16 511) rfl (by kernel_rfl) dc rfl (T := fun _ => True) (.inl fun _ _ => trivial) (Yld.eval T rfl rfl) ?_
      refine RAnyL.tk 9 (bl 16 1023) rfl (by kernel_rfl) dc rfl (T := fun _ => True) (.inl fun _ _ => trivial) (Yld.eval T rfl rfl) ?_
      refine RAnyL.tk 10 (bl 16 2047) rfl (by kernel_rfl) dc rfl (T := fun _ => True) (.inl fun _ _ => trivial) (Yld.as (v' := .pointer (some ⟨bp2, i + 1, none⟩)) (Yld.indexSl (t := tStr) T rfl rfl rfl rfl rfl rfl (by omega) (by omega)) (by simp [show tStr.size = 1 from rfl])) ?_
      refine RAnyL.tk 11 (bl 16 4095) rfl (by kernel_rfl) dc rfl (.inr ⟨by kernel_rfl, fun _ h => h⟩) (Yld.load 0 T rfl rfl rfl rfl (cur_get (by omega) htk)) ?_
      refine RAnyL.tk 12 (bl 16 8191) rfl (by kernel_rfl) dc rfl (T := fun _ => True) (.inl fun _ _ => trivial) (Yld.as (v' := .pointer (some ⟨bp2, i + 1, none⟩)) (Yld.indexSl (t := tStr) T rfl rfl rfl rfl rfl rfl (by omega) (by omega)) (by simp [show tStr.size = 1 from rfl])) ?_
      refine RAnyL.os 13 (bl 16 16383) rfl (by kernel_rfl) rfl (Eff.store 2 rfl rfl rfl rfl (T.sizeOk rfl) rfl (by show _ + 1 ≤ _; omega) rfl (setAt_one (by omega)) ⟨⟨fun W h => h.holds (Le.refl _) (fun _ h => by cases h), .inl rfl⟩, ?_⟩)
      refine RAnyL.tk 14 (bl 16 32767) rfl (by kernel_rfl) dc rfl (T := fun _ => True) (.inl fun _ _ => trivial) (Yld.as (v' := .pointer (some ⟨bp2, kx, none⟩)) (Yld.indexSl (t := tStr) T rfl rfl rfl rfl rfl rfl (by omega) (by omega)) (by simp [show tStr.size = 1 from rfl])) ?_
      refine RAnyL.os 15 (bl 16 65535) rfl (by kernel_rfl) rfl (Eff.store 2 rfl rfl rfl rfl (T.sizeOk rfl) rfl (by show _ + 1 ≤ _; rw [List.length_set]; omega) rfl (setAt_one (by rw [List.length_set]; omega)) ⟨⟨fun W h => h.holds (Le.refl _) (fun _ h => by cases h), .inl rfl⟩, ?_⟩)
      refine RAnyL.done _ (by kernel_rfl) ?_
      skip
      refine Run.inBlock ?_
      refine Run.regionO (D := [some 137, some 138, some 14]) [true, true, true] rfl rfl rfl (fun Z hZ => ?_)
      refine q1 dc rfl rfl ?_
      refine QD.e (Ev.subK (r := (i : Int)) rfl rfl (by rw [wI (by omega) (by omega)]; omega)) dc rfl ?_
      refine q1 dc rfl rfl ?_
      refine QD.nil (hZ _ ?_)
      clear hZ Z
      skip
      refine Run.keep [0, 4, 7, 10, 14] [_, _, _, _, _] rfl ?_
      have hsl := swapL_len l (i + 1) kx
      have hGn := Gr.mkStrs (I := J4) (e := 9) (b := bp2) (xs := swapL l (i + 1) kx) (cap := cap) (by omega) (by rw [List.length_set, List.length_set]; exact hcur) (swap_take hil2 (by omega) htk)
      rw [hsl] at hGn
      exact ih2 i _ _ _ (by omega) ⟨i, (i : Int), swapL l (i + 1) kx, (tk (i + 2) w2).2, o4, _, _, rfl, .inl rfl, by omega, by omega, by rw [← htg, hkx]; rfl, rfl, rfl, hW4, hGn, hl3.trans l4⟩
    ·have hwf : wfix true done w' = shuf (done.length - 1) done (tk 4 w').2 := by unfold wfix; simp only [if_true]; rw [if_neg h1]
     rw [hwf] at hk'
     refine Ops.ev ((Ev.eqlI rfl rfl).as (show _ = Value.bool false from congrArg Value.bool (decide_eq_false (by omega)))) rfl dc ?_
     refine Ops.nil ?_
     repeat (first | refine Run.seq ?_ | refine Run.skip ?_ | refine Run.cond_f rfl ?_)
     have hpl2 : done.length ≤ 34359738371 := by omega
     obtain ⟨A11, z11, hv11⟩ := (hG.mono l2).isSl
     subst hv11
     refine Run.regionO (D := [some 132, some 133, some 134, some 14]) [true, true, true, true] rfl rfl rfl (fun Z hZ => ?_)
     iterate 2 refine q1 dc rfl rfl ?_
     refine QD.e (Ev.subK (r := (((done).length : Int) - 1)) rfl rfl (wI (by omega) (by omega))) dc rfl ?_
     refine q1 dc rfl rfl ?_
     refine QD.nil (hZ _ ?_)
     clear hZ Z
     refine Run.block ?_
     refine Run.keep [0, 4, 7, 10, 14] [_, _, _, _, _] rfl ?_
     refine Run.rounds (shI p b4 [.int .u8 (kk : Int), str j.text, .slice A j.kids.length c] (blk5 w).1 (shuf ((done).length - 1) (done) (tk 4 w').2) J2) ((done).length - 1) ⟨(done).length - 1, _, done, (tk 4 w').2, o2, _, M, rfl, by omega, by omega, hpl2, rfl, rfl, rfl, hW2, hG.mono l2, Le.refl _⟩ ?_
     rintro m env L J3 ⟨i, z, l, w2, o3, v3, M3, rfl, hz, hil, hll, htg, rfl, rfl, hW3, hG3, hl3⟩ ih2
     repeat refine Run.seq ?_
     cases m with
     | zero =>
      refine Run.regionO (D := [some 135, some 136]) [true, true] rfl rfl rfl (fun Z hZ => ?_)
      refine q1 dc rfl rfl ?_
      refine qf (Ev.gtr rfl rfl) (by omega) dc rfl ?_
      refine QD.nil (hZ _ ?_)
      clear hZ Z
      repeat (first | refine Run.exit rfl ?_ | refine Run.cond_f rfl ?_)
      refine Run.keep [0, 4, 7, 10] [_, _, _, _] rfl ?_
      rw [← htg] at hk'
      exact hk' _ _ _ ⟨v3, M3, o3, rfl, rfl, hW3, hG3, (hle.trans l2).trans hl3⟩
     | succ i =>
      obtain rfl : z = ((i + 1 : Nat) : Int) := by omega
      have hil2 : i + 1 < l.length := by omega
      have hkk2 := tk_lt (n := i + 2) (by omega) w2
      refine Run.regionO (D := [some 135, some 136]) [true, true] rfl rfl rfl (fun Z hZ => ?_)
      refine q1 dc rfl rfl ?_
      refine qt (Ev.gtr rfl rfl) (by omega) dc rfl ?_
      refine QD.nil (hZ _ ?_)
      clear hZ Z
      repeat (first | refine Run.seq ?_ | refine Run.skip ?_ | refine Run.block ?_ | refine Run.cond_t rfl ?_)
      refine Run.regionP (D := [some 139, some 140, some 141, some 142, some 15]) [true, true, true] 3 rfl rfl rfl (by simp only [List.drop_succ_cons, List.drop_zero]; rfl) (fun Z hZ => ?_)
      iterate 2 refine q1 dc rfl rfl ?_
      refine QD.e (Ev.addK (r := ((i + 2 : Nat) : Int)) rfl rfl (by rw [wI (by omega) (by omega)]; omega)) dc rfl ?_
      refine QD.nil (hZ _ ?_)
      clear hZ Z
      refine Ops.callM (M := [_]) (N := _ :: _) ((way_take J3 w2 p (i + 2) o3 hW3 (by omega) (by omega))) (List.Perm.swap _ _ _) rfl dc call88 rfl ?_
      rintro y J4 M4 l4 ⟨rfl, o4, rfl, hW4⟩
      refine Ops.perm (List.Perm.swap _ _ _) ?_
      refine Ops.pure T rfl dc rfl ?_
      refine Ops.nil ?_
      skip
      obtain ⟨kx, hkx⟩ : ∃ kx, kx = (tk (i + 2) w2).1 := ⟨_, rfl⟩
      rw [← hkx] at hkk2 ⊢
      rcases hG3.strs with ⟨_, h0, _⟩ | ⟨bp2, cap, cur, rfl, rfl, hcap, hcur, htk⟩
      ·rw [h0] at hil2; simp at hil2
      refine Run.regionL [13, 15] (Holds J4 []) (Holds J4 [(bp2, blk cur 9)]) (bl 16 0) (by kernel_rfl) (by kernel_rfl) (fun W h => ⟨h.holds (Le.refl _) (by first | exact mp rfl | exact mq rfl | exact mr rfl), h.holds (Le.refl _) (by first | exact mp rfl | exact mq rfl | exact mr rfl)⟩) ?_
      refine RAnyL.tk 0 (bl 16 1) rfl (by kernel_rfl) dc rfl (T := fun _ => True) (.inl fun _ _ => trivial) (Yld.eval T rfl rfl) ?_
      refine RAnyL.tk 1 (bl 16 3) rfl (by kernel_rfl) dc rfl (T := fun _ => True) (.inl fun _ _ => trivial) (Yld.eval T rfl rfl) ?_
      refine RAnyL.tk 2 (bl 16 7) rfl (by kernel_rfl) dc rfl (T := fun _ => True) (.inl fun _ _ => trivial) (Yld.eval T rfl rfl) ?_
      refine RAnyL.tk 3 (bl 16 15) rfl (by kernel_rfl) dc rfl (T := fun _ => True) (.inl fun _ _ => trivial) (Yld.eval T rfl rfl) ?_
      refine RAnyL.tk 4 (bl 16 31) rfl (by kernel_rfl) dc rfl (T := fun _ => True) (.inl fun _ _ => trivial) (Yld.eval T rfl rfl) ?_
      refine RAnyL.tk 5 (bl 16 63) rfl (by kernel_rfl) dc rfl (T := fun _ => True) (.inl fun _ _ => trivial) (Yld.eval T rfl rfl) ?_
      refine RAnyL.tk 6 (bl 16 127) rfl (by kernel_rfl) dc rfl (T := fun _ => True) (.inl fun _ _ => trivial) (Yld.as (v' := .pointer (some ⟨bp2, kx, none⟩)) (Yld.indexSl (t := tStr) T rfl rfl rfl rfl rfl rfl (by omega) (by omega)) (by simp [show tStr.size = 1 from rfl])) ?_
      refine RAnyL.tk 7 (bl 16 255) rfl (by kernel_rfl) dc rfl (.inr ⟨by kernel_rfl, fun _ h => h⟩) (Yld.load 0 T rfl rfl rfl rfl (cur_get (by omega) htk)) ?_
      refine RAnyL.tk 8 (bl 16 511) rfl (by kernel_rfl) dc rfl (T := fun _ => True) (.inl fun _ _ => trivial) (Yld.eval T rfl rfl) ?_
      refine RAnyL.tk 9 (bl 16 1023) rfl (by kernel_rfl) dc rfl (T := fun _ => True) (.inl fun _ _ => trivial) (Yld.eval T rfl rfl) ?_
      refine RAnyL.tk 10 (bl 16 2047) rfl (by kernel_rfl) dc rfl (T := fun _ => True) (.inl fun _ _ => trivial) (Yld.as (v' := .pointer (some ⟨bp2, i + 1, none⟩)) (Yld.indexSl (t := tStr) T rfl rfl rfl rfl rfl rfl (by omega) (by omega)) (by simp [show tStr.size = 1 from rfl])) ?_
      refine RAnyL.tk 11 (bl 16 4095) rfl (by kernel_rfl) dc rfl (.inr ⟨by kernel_rfl, fun _ h => h⟩) (Yld.load 0 T rfl rfl rfl rfl (cur_get (by omega) htk)) ?_
      refine RAnyL.tk 12 (bl 16 8191) rfl (by kernel_rfl) dc rfl (T := fun _ => True) (.inl fun _ _ => trivial) (Yld.as (v' := .pointer (some ⟨bp2, i + 1, none⟩)) (Yld.indexSl (t := tStr) T rfl rfl rfl rfl rfl rfl (by omega) (by omega)) (by simp [show tStr.size = 1 from rfl])) ?_
      refine RAnyL.os 13 (bl 16 16383) rfl (by kernel_rfl) rfl (Eff.store 2 rfl rfl rfl rfl (T.sizeOk rfl) rfl (by show _ + 1 ≤ _; omega) rfl (setAt_one (by omega)) ⟨⟨fun W h => h.holds (Le.refl _) (fun _ h => by cases h), .inl rfl⟩, ?_⟩)
      refine RAnyL.tk 14 (bl 16 32767) rfl (by kernel_rfl) dc rfl (T := fun _ => True) (.inl fun _ _ => trivial) (Yld.as (v' := .pointer (some ⟨bp2, kx, none⟩)) (Yld.indexSl (t := tStr) T rfl rfl rfl rfl rfl rfl (by omega) (by omega)) (by simp [show tStr.size = 1 from rfl])) ?_
      refine RAnyL.os 15 (bl 16 65535) rfl (by kernel_rfl) rfl (Eff.store 2 rfl rfl rfl rfl (T.sizeOk rfl) rfl (by show _ + 1 ≤ _; rw [List.length_set]; omega) rfl (setAt_one (by rw [List.length_set]; omega)) ⟨⟨fun W h => h.holds (Le.refl _) (fun _ h => by cases h), .inl rfl⟩, ?_⟩)
      refine RAnyL.done _ (by kernel_rfl) ?_
      skip
      refine Run.inBlock ?_
      refine Run.regionO (D := [some 137, some 138, some 14]) [true, true, true] rfl rfl rfl (fun Z hZ => ?_)
      refine q1 dc rfl rfl ?_
      refine QD.e (Ev.subK (r := (i : Int)) rfl rfl (by rw [wI (by omega) (by omega)]; omega)) dc rfl ?_
      refine q1 dc rfl rfl ?_
      refine QD.nil (hZ _ ?_)
      clear hZ Z
      skip
      refine Run.keep [0, 4, 7, 10, 14] [_, _, _, _, _] rfl ?_
      have hsl := swapL_len l (i + 1) kx
      have hGn := Gr.mkStrs (I := J4) (e := 9) (b := bp2) (xs := swapL l (i + 1) kx) (cap := cap) (by omega) (by rw [List.length_set, List.length_set]; exact hcur) (swap_take hil2 (by omega) htk)
      rw [hsl] at hGn
      exact ih2 i _ _ _ (by omega) ⟨i, (i : Int), swapL l (i + 1) kx, (tk (i + 2) w2).2, o4, _, _, rfl, .inl rfl, by omega, by omega, by rw [← htg, hkx]; rfl, rfl, rfl, hW4, hGn, hl3.trans l4⟩
  ·rintro env' L' I' ⟨v, M', o', rfl, rfl, hWf, hGf, hlf⟩
   generalize hq : (wfix fixed done w').1 = l at *
   generalize hwq : (wfix fixed done w').2 = wq at *
   have hjl := joinC_len l
   obtain ⟨X, hX⟩ : ∃ X, X = (blk5 w).1 ++ [123] := ⟨_, rfl⟩
   rw [← hX] at hR
   have hXl := congrArg List.length hX
   rw [List.length_append, List.length_singleton] at hXl
   simp only [List.length_cons, List.length_nil] at hl
   refine Run.seq ?_
   refine Run.region ?_
   refine Ops.keepGr hGf (List.perm_append_comm (l₁ := [_, _]) (l₂ := M')) fun J2 l2 hSl => ?_
   obtain ⟨A9, z9, rfl⟩ := hSl.isSl
   refine Ops.pure T rfl dc rfl ?_
   refine Ops.ev ((Ev.catS rfl rfl (by simp only [List.length_cons, List.length_nil]; omega)).as (show _ = str (X ++ joinC (l.take 0)) from congrArg str (by rw [hX]; simp [joinC]))) rfl dc ?_
   refine Ops.pure T rfl dc rfl ?_
   refine Ops.nil ?_
   repeat refine Run.seq ?_
   refine Run.regionO (D := [some 159, some 160, some 161]) [true, true, true] rfl rfl rfl (fun Z hZ => ?_)
   iterate 3 refine q1 dc rfl rfl ?_
   refine QD.nil (hZ _ ?_)
   clear hZ Z
   refine Run.block ?_
   refine Run.keep [0, 4, 7, 159, 160, 161] [_, _, _, _, _, _] rfl ?_
   refine Run.rounds (jnI p b4 [.int .u8 (kk : Int), str j.text, .slice A j.kids.length c] A9 z9 l X wq o' J2) l.length ⟨0, by omega, by omega, rfl, rfl, hWf.mono l2, rfl⟩ ?_
   rintro m env L J3 ⟨i, rfl, hi, rfl, rfl, hW3, rfl⟩ ih3
   refine Run.seq ?_
   by_cases hil : i < l.length
   ·have htk : l.take (i + 1) = l.take i ++ [l[i]] := List.take_succ_eq_append_getElem hil
    have hms := joinC_mono (l.take (i + 1)) (l.drop (i + 1))
    rw [List.take_append_drop, htk, joinC_snoc] at hms
    refine Run.regionO (D := [some 162]) [true] rfl rfl rfl (fun Z hZ => ?_)
    refine qt (Ev.lss rfl rfl) (by omega) dc rfl ?_
    refine QD.nil (hZ _ ?_)
    clear hZ Z
    repeat (first | refine Run.seq ?_ | refine Run.skip ?_ | refine Run.block ?_ | refine Run.cond_t rfl ?_)
    refine Run.region ?_
    refine Ops.pure T rfl dc rfl ?_
    refine Ops.indexSl (j := (i : Int)) hSl rfl dc rfl rfl (T.undOk rfl) (T.sizeOk rfl) (by omega) (by omega) fun bb off q cq hq2 hr hA => ?_
    obtain rfl : cq = [str q] := hr
    rw [Int.toNat_natCast, List.getElem?_eq_getElem hil] at hq2
    obtain rfl : l[i] = q := Option.some.inj hq2
    refine Ops.loadI rfl dc rfl hA (T.aggOk rfl) ?_
    iterate 2 refine Ops.pure T rfl dc rfl ?_
    refine Ops.nil ?_
    repeat refine Run.seq ?_
    by_cases h0 : i = 0
    ·subst h0
     have ht0 : l.take 0 = [] := rfl
     rw [if_pos ht0] at hms
     refine Run.regionO (D := [some 166, some 167]) [true, true] rfl rfl rfl (fun Z hZ => ?_)
     refine q1 dc rfl rfl ?_
     refine QD.e ((Ev.gtr rfl rfl).as (show _ = Value.bool false from rfl)) dc rfl ?_
     refine QD.nil (hZ _ ?_)
     clear hZ Z
     repeat (first | refine Run.skip ?_ | refine Run.cond_f rfl ?_)
     refine Run.regionO (D := [some 170, some 171, some 172, some 7]) [true, true, true, true] rfl rfl rfl (fun Z hZ => ?_)
     iterate 2 refine q1 dc rfl rfl ?_
     refine QD.e ((Ev.catS rfl rfl (by rw [ht0]; simp only [List.length_append, joinC, List.length_nil]; omega)).as (show _ = str (X ++ joinC (l.take (0 + 1))) from congrArg str (by rw [htk, joinC_snoc, if_pos ht0, ht0]; simp [joinC]))) dc rfl ?_
     refine q1 dc rfl rfl ?_
     refine QD.nil (hZ _ ?_)
     clear hZ Z
     refine Run.inBlock ?_
     refine Run.regionO (D := [some 173, some 161]) [true, true] rfl rfl rfl (fun Z hZ => ?_)
     refine QD.e (Ev.addK (r := ((0 + 1 : Nat) : Int)) rfl rfl (by rw [wI (by omega) (by omega)]; omega)) dc rfl ?_
     refine q1 dc rfl rfl ?_
     refine QD.nil (hZ _ ?_)
     clear hZ Z
     skip
     refine Run.keep [0, 4, 7, 159, 160, 161] [_, _, _, _, _, _] rfl ?_
     exact ih3 (l.length - (0 + 1)) _ _ _ (by omega) ⟨0 + 1, rfl, by omega, rfl, rfl, hW3, rfl⟩
    ·have htn : l.take i ≠ [] := fun e => by have := congrArg List.length e; rw [List.length_take, List.length_nil] at this; omega
     rw [if_neg htn, List.length_append, List.length_cons] at hms
     refine Run.regionO (D := [some 166, some 167]) [true, true] rfl rfl rfl (fun Z hZ => ?_)
     refine q1 dc rfl rfl ?_
     refine qt (Ev.gtr rfl rfl) (by omega) dc rfl ?_
     refine QD.nil (hZ _ ?_)
     clear hZ Z
     refine Run.cond_t rfl ?_
     refine Run.regionO (D := [some 168, some 169, some 7]) [true, true, true] rfl rfl rfl (fun Z hZ => ?_)
     refine q1 dc rfl rfl ?_
     refine QD.e (Ev.catS rfl rfl (by simp only [List.length_append, List.length_cons, List.length_nil]; omega)) dc rfl ?_
     refine q1 dc rfl rfl ?_
     refine QD.nil (hZ _ ?_)
     clear hZ Z
     skip
     refine Run.regionO (D := [some 170, some 171, some 172, some 7]) [true, true, true, true] rfl rfl rfl (fun Z hZ => ?_)
     iterate 2 refine q1 dc rfl rfl ?_
     refine QD.e ((Ev.catS rfl rfl (by simp only [List.length_append, List.length_cons, List.length_nil]; omega)).as (show _ = str (X ++ joinC (l.take (i + 1))) from congrArg str (by rw [htk, joinC_snoc, if_neg htn]; simp))) dc rfl ?_
     refine q1 dc rfl rfl ?_
     refine QD.nil (hZ _ ?_)
     clear hZ Z
     refine Run.inBlock ?_
     refine Run.regionO (D := [some 173, some 161]) [true, true] rfl rfl rfl (fun Z hZ => ?_)
     refine QD.e (Ev.addK (r := ((i + 1 : Nat) : Int)) rfl rfl (by rw [wI (by omega) (by omega)]; omega)) dc rfl ?_
     refine q1 dc rfl rfl ?_
     refine QD.nil (hZ _ ?_)
     clear hZ Z
     skip
     refine Run.keep [0, 4, 7, 159, 160, 161] [_, _, _, _, _, _] rfl ?_
     exact ih3 (l.length - (i + 1)) _ _ _ (by omega) ⟨i + 1, rfl, by omega, rfl, rfl, hW3, rfl⟩
   ·skip
    refine Run.regionO (D := [some 162]) [true] rfl rfl rfl (fun Z hZ => ?_)
    refine qf (Ev.lss rfl rfl) (by omega) dc rfl ?_
    refine QD.nil (hZ _ ?_)
    clear hZ Z
    repeat (first | refine Run.seq ?_ | refine Run.exit rfl ?_ | refine Run.cond_f rfl ?_)
    rw [List.take_of_length_le (by omega)]
    refine Run.regionP (D := [some 174, some 175, some 176, some 177, some 178, some 179, some 180, some 181, some 6]) [true, true] 2 rfl rfl rfl (by simp only [List.drop_succ_cons, List.drop_zero]; rfl) (fun Z hZ => ?_)
    iterate 2 refine q1 dc rfl rfl ?_
    refine QD.nil (hZ _ ?_)
    clear hZ Z
    refine Ops.callM (M := [_]) (N := _ :: _) ((way_blank _ wq p o' hW3)) (List.Perm.swap _ _ _) rfl dc call86 rfl ?_
    rintro y J4 M4 l4 ⟨rfl, o4, rfl, hW4⟩
    refine Ops.perm (List.Perm.swap _ _ _) ?_
    refine Ops.ev (Ev.catS rfl rfl (by rw [List.length_append]; omega)) rfl dc ?_
    refine Ops.ev (Ev.catS rfl rfl (by simp only [List.length_append, List.length_cons, List.length_nil]; omega)) rfl dc ?_
    refine Ops.pure T rfl dc rfl ?_
    refine Ops.callM (M := [_]) (N := _ :: _) ((way_blank J4 _ p o4 hW4)) (List.Perm.swap _ _ _) rfl dc call86 rfl ?_
    rintro y J5 M5 l5 ⟨rfl, o5, rfl, hW5⟩
    refine Ops.perm (List.Perm.swap _ _ _) ?_
    refine Ops.ev (Ev.catS rfl rfl (by simp only [List.length_append, List.length_cons, List.length_nil]; omega)) rfl dc ?_
    refine Ops.pure T rfl dc rfl ?_
    refine Ops.nil ?_
    skip
    refine Run.dropL (L' := [(p, o5)]) (List.sublist_cons_self _ _) ?_
    refine Run.ret1 (by rw [hCf]; exact func42) results42 rfl (hR _ _ _ ?_)
    exact ⟨rfl, o5, rfl, hW5⟩
 | [_], hFr, hkids, hdone, hrem, hkl, hdl => exact hFr.elim
 | name :: x :: rest, hFr, hkids, hdone, hrem, hkl, hdl =>
  obtain ⟨f1, f2, f3⟩ := hFr
  simp only [List.length_cons] at hkl
  simp only [wpairs, List.length_cons] at hdl hdone hrem
  have hKJ := hK.mono (l1.trans hle)
  refine Run.regionO (D := [some 67, some 68, some 69, some 70, some 71, some 72]) [true, true, true, true, true, true] rfl rfl rfl (fun Z hZ => ?_)
  refine q1 dc rfl rfl ?_
  refine QD.e (Ev.addK (r := ((2 * done.length + 1 : Nat) : Int)) rfl rfl (by rw [wI (by omega) (by omega)]; omega)) dc rfl ?_
  refine q1 dc rfl rfl ?_
  refine QD.yv dc rfl (Yv.load 0 T rfl rfl rfl rfl) ?_
  refine q1 dc rfl rfl ?_
  refine qt (Ev.lss rfl rfl) (by omega) dc rfl ?_
  refine QD.nil (hZ _ ?_)
  clear hZ Z
  repeat (first | refine Run.seq ?_ | refine Run.skip ?_ | refine Run.block ?_ | refine Run.cond_t rfl ?_)
  refine Run.region ?_
  refine Ops.pure T rfl dc rfl ?_
  refine Ops.load 0 rfl dc rfl rfl (T.aggOk rfl) rfl ?_
  refine Ops.pure T rfl dc rfl ?_
  refine Ops.indexSl (j := ((2 * done.length : Nat) : Int)) hKJ rfl dc rfl rfl (T.undOk rfl) (by rw [tJs_size]; exact T.sizeOk rfl) (by omega) (by omega) fun bb off q cq hq hr hA => ?_
  rw [Int.toNat_natCast] at hq
  obtain rfl : name = q := by
   rw [hkids, ← hprl, List.getElem?_append_right (Nat.le_refl _)] at hq
   simpa using hq
  obtain ⟨A2, n2, c2, rfl⟩ := tJs_shape hr
  refine Ops.pure T rfl dc rfl ?_
  refine Ops.loadI rfl dc rfl (hA.cellAt 1 rfl) (T.aggOk rfl) ?_
  refine Ops.pure T rfl dc rfl ?_
  refine Ops.nil ?_
  refine Run.seq ?_
  refine Run.keep [0, 2, 4, 7, 10, 11, 12] [_, _, _, _, _, _, _] rfl ?_
  refine Run.pieceV [0, 2, 4, 7, 10, 11, 12] [_, _, _, _, _, _, _] 13 (.bool (fixed && freeN name.text)) rfl (fun k' hk' => ?_) ?_
  ·have hfr : freeN name.text = (name.text == [97, 110, 110, 111, 116, 97, 116, 105, 111, 110, 115] || name.text == [76, 97, 98, 101, 108, 115] || name.text == [86, 111, 108, 117, 109, 101, 115] || name.text == [69, 120, 112, 111, 115, 101, 100, 80, 111, 114, 116, 115]) := rfl
   cases fixed with
   | false =>
    refine Run.regionO (D := [some 81, some 82, some 83, some 84, some 85, some 86, some 87, some 88, some 89, some 90, some 91, some 92, some 93, some 94, some 95, some 96, some 97, some 13]) [true, true, true, true, true, true, true, true, true, true, true, true, true, true, true, true, true, true] rfl rfl rfl (fun Z hZ => ?_)
    iterate 2 refine q1 dc rfl rfl ?_
    iterate 14 refine QD.off dc rfl ?_
    iterate 2 refine q1 dc rfl rfl ?_
    refine QD.nil (hZ _ ?_)
    clear hZ Z
    refine Run.keep [13, 0, 2, 4, 7, 10, 11, 12] [_, _, _, _, _, _, _, _] rfl ?_
    exact hk'
   | true =>
    by_cases n1 : name.text = [97, 110, 110, 111, 116, 97, 116, 105, 111, 110, 115]
    ·have e : freeN name.text = true := by rw [hfr, n1]; rfl
     rw [e] at hk'
     refine Run.regionO (D := [some 81, some 82, some 83, some 84, some 85, some 86, some 87, some 88, some 89, some 90, some 91, some 92, some 93, some 94, some 95, some 96, some 97, some 13]) [true, true, true, true, true, true, true, true, true, true, true, true, true, true, true, true, true, true] rfl rfl rfl (fun Z hZ => ?_)
     iterate 3 refine q1 dc rfl rfl ?_
     refine qt (Ev.eqlS rfl rfl) n1 dc rfl ?_
     refine q1 dc rfl rfl ?_
     iterate 2 refine QD.off dc rfl ?_
     iterate 2 refine q1 dc rfl rfl ?_
     iterate 2 refine QD.off dc rfl ?_
     iterate 2 refine q1 dc rfl rfl ?_
     iterate 2 refine QD.off dc rfl ?_
     iterate 3 refine q1 dc rfl rfl ?_
     refine QD.nil (hZ _ ?_)
     clear hZ Z
     refine Run.keep [13, 0, 2, 4, 7, 10, 11, 12] [_, _, _, _, _, _, _, _] rfl ?_
     exact hk'
    by_cases n2 : name.text = [76, 97, 98, 101, 108, 115]
    ·have e : freeN name.text = true := by rw [hfr, n2]; rfl
     rw [e] at hk'
     refine Run.regionO (D := [some 81, some 82, some 83, some 84, some 85, some 86, some 87, some 88, some 89, some 90, some 91, some 92, some 93, some 94, some 95, some 96, some 97, some 13]) [true, true, true, true, true, true, true, true, true, true, true, true, true, true, true, true, true, true] rfl rfl rfl (fun Z hZ => ?_)
     iterate 3 refine q1 dc rfl rfl ?_
     refine qf (Ev.eqlS rfl rfl) n1 dc rfl ?_
     iterate 2 refine q1 dc rfl rfl ?_
     refine qt (Ev.eqlS rfl rfl) n2 dc rfl ?_
     iterate 2 refine q1 dc rfl rfl ?_
     iterate 2 refine QD.off dc rfl ?_
     iterate 2 refine q1 dc rfl rfl ?_
     iterate 2 refine QD.off dc rfl ?_
     iterate 3 refine q1 dc rfl rfl ?_
     refine QD.nil (hZ _ ?_)
     clear hZ Z
     refine Run.keep [13, 0, 2, 4, 7, 10, 11, 12] [_, _, _, _, _, _, _, _] rfl ?_
     exact hk'
    by_cases n3 : name.text = [86, 111, 108, 117, 109, 101, 115]
    ·have e : freeN name.text = true := by rw [hfr, n3]; rfl
     rw [e] at hk'
     refine Run.regionO (D := [some 81, some 82, some 83, some 84, some 85, some 86, some 87, some 88, some 89, some 90, some 91, some 92, some 93, some 94, some 95, some 96, some 97, some 13]) [true, true, true, true, true, true, true, true, true, true, true, true, true, true, true, true, true, true] rfl rfl rfl (fun Z hZ => ?_)
     iterate 3 refine q1 dc rfl rfl ?_
     refine qf (Ev.eqlS rfl rfl) n1 dc rfl ?_
     iterate 2 refine q1 dc rfl rfl ?_
     refine qf (Ev.eqlS rfl rfl) n2 dc rfl ?_
     iterate 3 refine q1 dc rfl rfl ?_
     refine qt (Ev.eqlS rfl rfl) n3 dc rfl ?_
     iterate 2 refine q1 dc rfl rfl ?_
     iterate 2 refine QD.off dc rfl ?_
     iterate 3 refine q1 dc rfl rfl ?_
     refine QD.nil (hZ _ ?_)
     clear hZ Z
     refine Run.keep [13, 0, 2, 4, 7, 10, 11, 12] [_, _, _, _, _, _, _, _] rfl ?_
     exact hk'
    by_cases n4 : name.text = [69, 120, 112, 111, 115, 101, 100, 80, 111, 114, 116, 115]
    ·have e : freeN name.text = true := by rw [hfr, n4]; rfl
     rw [e] at hk'
     refine Run.regionO (D := [some 81, some 82, some 83, some 84, some 85, some 86, some 87, some 88, some 89, some 90, some 91, some 92, some 93, some 94, some 95, some 96, some 97, some 13]) [true, true, true, true, true, true, true, true, true, true, true, true, true, true, true, true, true, true] rfl rfl rfl (fun Z hZ => ?_)
     iterate 3 refine q1 dc rfl rfl ?_
     refine qf (Ev.eqlS rfl rfl) n1 dc rfl ?_
     iterate 2 refine q1 dc rfl rfl ?_
     refine qf (Ev.eqlS rfl rfl) n2 dc rfl ?_
     iterate 3 refine q1 dc rfl rfl ?_
     refine qf (Ev.eqlS rfl rfl) n3 dc rfl ?_
     iterate 3 refine q1 dc rfl rfl ?_
     refine qt (Ev.eqlS rfl rfl) n4 dc rfl ?_
     iterate 3 refine q1 dc rfl rfl ?_
     refine QD.nil (hZ _ ?_)
     clear hZ Z
     refine Run.keep [13, 0, 2, 4, 7, 10, 11, 12] [_, _, _, _, _, _, _, _] rfl ?_
     exact hk'
    ·have e : freeN name.text = false := by
      rw [hfr, beq_false_of_ne n1, beq_false_of_ne n2, beq_false_of_ne n3, beq_false_of_ne n4]; rfl
     rw [e] at hk'
     refine Run.regionO (D := [some 81, some 82, some 83, some 84, some 85, some 86, some 87, some 88, some 89, some 90, some 91, some 92, some 93, some 94, some 95, some 96, some 97, some 13]) [true, true, true, true, true, true, true, true, true, true, true, true, true, true, true, true, true, true] rfl rfl rfl (fun Z hZ => ?_)
     iterate 3 refine q1 dc rfl rfl ?_
     refine qf (Ev.eqlS rfl rfl) n1 dc rfl ?_
     iterate 2 refine q1 dc rfl rfl ?_
     refine qf (Ev.eqlS rfl rfl) n2 dc rfl ?_
     iterate 3 refine q1 dc rfl rfl ?_
     refine qf (Ev.eqlS rfl rfl) n3 dc rfl ?_
     iterate 3 refine q1 dc rfl rfl ?_
     refine qf (Ev.eqlS rfl rfl) n4 dc rfl ?_
     iterate 3 refine q1 dc rfl rfl ?_
     refine QD.nil (hZ _ ?_)
     clear hZ Z
     refine Run.keep [13, 0, 2, 4, 7, 10, 11, 12] [_, _, _, _, _, _, _, _] rfl ?_
     exact hk'
  ·obtain ⟨fr, hfr⟩ : ∃ fr, fr = freeN name.text := ⟨_, rfl⟩
   rw [← hfr]
   have hTl : (wmem (wval d) fixed name x w').1.length ≤ 34359738368 := hpsl.2 _ (by rw [← hdone]; simp)
   unfold wmem at hTl
   simp only [List.length_append, List.length_singleton] at hTl
   obtain ⟨rs, hrs, hg, hrl⟩ := wquo_runes f1 (blk5 w').2
   have hTx := fun J o h => way_text J rs hg (blk5 w').2 p o h (by omega)
   rw [← hrs] at hTx
   obtain ⟨A0, c0, hA0, hc0, hrow⟩ := hKJ
   cases hA0
   rcases hrow with hnil | ⟨kb, ko, rfl, hrow⟩
   ·rw [hnil] at hkl; simp at hkl
   obtain ⟨cx, hrx, hAx⟩ := hrow (2 * done.length + 1) x (by rw [hkids, ← hprl, List.getElem?_append_right (by omega)]; simp)
   obtain ⟨A3, n3, c3, rfl⟩ := tJs_shape hrx
   refine Run.regionAny (Holds J [(b4, blk [.int .u8 (kk : Int), str j.text, .slice (some ⟨kb, ko, none⟩) j.kids.length c] 39)]) (bl 28 0) (by kernel_rfl) (by kernel_rfl) ?_
   refine RAny.tk 0 (bl 28 1) rfl (by kernel_rfl) dc (fun W h => h.holds (Le.refl _) (by first | exact mp rfl | exact mq rfl)) (Yld.eval T rfl rfl) ?_
   refine RAny.tk 1 (bl 28 3) rfl (by kernel_rfl) dc (fun W h => h.holds (Le.refl _) (by first | exact mp rfl | exact mq rfl)) (Yld.eval T rfl rfl) ?_
   refine RAny.tk 3 (bl 28 11) rfl (by kernel_rfl) dc (fun W h => h.holds (Le.refl _) (by first | exact mp rfl | exact mq rfl)) (Yld.eval T rfl rfl) ?_
   refine RAny.tk 4 (bl 28 27) rfl (by kernel_rfl) dc (fun W h => h.holds (Le.refl _) (by first | exact mp rfl | exact mq rfl)) (Yld.eval T rfl rfl) ?_
   refine RAny.tk 7 (bl 28 155) rfl (by kernel_rfl) dc (fun W h => h.holds (Le.refl _) (by first | exact mp rfl | exact mq rfl)) (Yld.eval T rfl rfl) ?_
   refine RAny.tk 11 (bl 28 2203) rfl (by kernel_rfl) dc (fun W h => h.holds (Le.refl _) (by first | exact mp rfl | exact mq rfl)) (Yld.eval T rfl rfl) ?_
   refine RAny.tk 12 (bl 28 6299) rfl (by kernel_rfl) dc (fun W h => h.holds (Le.refl _) (by first | exact mp rfl | exact mq rfl)) (Yld.eval T rfl rfl) ?_
   refine RAny.tk 13 (bl 28 14491) rfl (by kernel_rfl) dc (fun W h => h.holds (Le.refl _) (by first | exact mp rfl | exact mq rfl)) (Yld.load 0 T rfl rfl rfl rfl rfl) ?_
   refine RAny.tk 14 (bl 28 30875) rfl (by kernel_rfl) dc (fun W h => h.holds (Le.refl _) (by first | exact mp rfl | exact mq rfl)) (Yld.eval T rfl rfl) ?_
   refine RAny.tk 15 (bl 28 63643) rfl (by kernel_rfl) dc (fun W h => h.holds (Le.refl _) (by first | exact mp rfl | exact mq rfl)) (Yld.ev (Ev.addK (r := ((2 * done.length + 1 : Nat) : Int)) rfl rfl (by rw [wI (by omega) (by omega)]; omega)) rfl) ?_
   refine RAny.tk 16 (bl 28 129179) rfl (by kernel_rfl) dc (fun W h => h.holds (Le.refl _) (by first | exact mp rfl | exact mq rfl)) (Yld.indexSl (t := tJs d) T rfl rfl rfl rfl rfl (by rw [tJs_size]; rfl) (by omega) (by omega)) ?_
   refine RAny.tk 17 (bl 28 260251) rfl (by kernel_rfl) dc (fun W h => h.holds (Le.refl _) (by first | exact mp rfl | exact mq rfl)) (Yld.loadIN T hAx rfl rfl rfl rfl rfl) ?_
   refine RAny.tk 18 (bl 28 522395) rfl (by kernel_rfl) dc (fun W h => h.holds (Le.refl _) (by first | exact mp rfl | exact mq rfl)) (Yld.eval T rfl rfl) ?_
   refine RAny.on 2 (bl 28 522399) rfl (by kernel_rfl) rfl dc (Eff.callM (M := [_]) (N := _ :: _) (way_blank J w' p o hWy) (List.Perm.swap _ _ _) call86 rfl fun y J2 M2 l2 hv => ⟨fun W h => h.holds l2 (by intro x hx; rcases List.mem_singleton.1 hx with rfl; simp), ?_⟩)
   obtain ⟨rfl, o2, rfl, hW2⟩ := hv
   skip
   refine RAny.perm (List.Perm.swap _ _ _) ?_
   refine RAny.on 5 (bl 28 522431) rfl (by kernel_rfl) rfl dc (Eff.callM (M := [_]) (N := _ :: _) (hTx J2 o2 hW2) (List.Perm.swap _ _ _) call87 rfl fun y J3 M3 l3 hv => ⟨fun W h => h.holds (l2.trans l3) (by intro x hx; rcases List.mem_singleton.1 hx with rfl; simp), ?_⟩)
   obtain ⟨rfl, o3, rfl, hW3⟩ := hv
   skip
   refine RAny.perm (List.Perm.swap _ _ _) ?_
   refine RAny.tk 6 (bl 28 522495) rfl (by kernel_rfl) dc (fun W h => h.holds (l2.trans l3) (by first | exact mp rfl | exact mq rfl)) (Yld.ev (Ev.catS rfl rfl (by omega)) rfl) ?_
   refine RAny.on 8 (bl 28 522751) rfl (by kernel_rfl) rfl dc (Eff.callM (M := [_]) (N := _ :: _) (way_blank J3 _ p o3 hW3) (List.Perm.swap _ _ _) call86 rfl fun y J4 M4 l4 hv => ⟨fun W h => h.holds ((l2.trans l3).trans l4) (by intro x hx; rcases List.mem_singleton.1 hx with rfl; simp), ?_⟩)
   obtain ⟨rfl, o4, rfl, hW4⟩ := hv
   skip
   refine RAny.perm (List.Perm.swap _ _ _) ?_
   refine RAny.tk 9 (bl 28 523263) rfl (by kernel_rfl) dc (fun W h => h.holds ((l2.trans l3).trans l4) (by first | exact mp rfl | exact mq rfl)) (Yld.ev (Ev.catS rfl rfl (by simp only [List.length_append]; omega)) rfl) ?_
   refine RAny.tk 10 (bl 28 524287) rfl (by kernel_rfl) dc (fun W h => h.holds ((l2.trans l3).trans l4) (by first | exact mp rfl | exact mq rfl)) (Yld.ev (Ev.catS rfl rfl (by simp only [List.length_append, List.length_cons, List.length_nil]; omega)) rfl) ?_
   skip
   cases fixed with
   | false =>
    refine RAny.tk 19 (bl 28 1048575) rfl (by kernel_rfl) dc (fun W h => h.holds ((l2.trans l3).trans l4) (by first | exact mp rfl | exact mq rfl)) (Yld.eval T rfl rfl) ?_
    refine RAny.tk 20 (bl 28 2097151) rfl (by kernel_rfl) dc (fun W h => h.holds ((l2.trans l3).trans l4) (by first | exact mp rfl | exact mq rfl)) (Yld.off rfl) ?_
    refine RAny.tk 21 (bl 28 4194303) rfl (by kernel_rfl) dc (fun W h => h.holds ((l2.trans l3).trans l4) (by first | exact mp rfl | exact mq rfl)) (Yld.off rfl) ?_
    refine RAny.tk 22 (bl 28 8388607) rfl (by kernel_rfl) dc (fun W h => h.holds ((l2.trans l3).trans l4) (by first | exact mp rfl | exact mq rfl)) (Yld.eval T rfl rfl) ?_
    refine RAny.on 23 (bl 28 16777215) rfl (by kernel_rfl) rfl dc (Eff.callM (M := [_]) (N := _ :: _) (hWS J4 _ x (false && !(false && freeN name.text)) (blk5 (wquo name.text (blk5 w').2).2).2 p o4 ((tJs d).mono hrx ((l2.trans l3).trans l4)) f2 hW4 (by omega)) (List.Perm.swap _ _ _) call42 (by rw [hfr]; rfl) fun y J5 M5 l5 hv => ⟨fun W h => h.holds (((l2.trans l3).trans l4).trans l5) (by intro x hx; rcases List.mem_singleton.1 hx with rfl; simp), ?_⟩)
    obtain ⟨rfl, o5, rfl, hW5⟩ := hv
    skip
    refine RAny.perm (List.Perm.swap _ _ _) ?_
    refine RAny.tk 24 (bl 28 33554431) rfl (by kernel_rfl) dc (fun W h => h.holds (((l2.trans l3).trans l4).trans l5) (by first | exact mp rfl | exact mq rfl)) (Yld.ev ((Ev.catS rfl rfl (by simp only [List.length_append, List.length_cons, List.length_nil]; omega)).as (show _ = str (wmem (wval d) false name x w').1 from rfl)) rfl) ?_
    refine RAny.on 25 (bl 28 67108863) rfl (by kernel_rfl) rfl dc (Eff.lit T rfl rfl rfl dc dc rfl rfl rfl rfl rfl fun bq => ⟨fun W h => h.holds (((l2.trans l3).trans l4).trans l5) (by intro x hx; rcases List.mem_singleton.1 hx with rfl; simp), ?_⟩)
    refine RAny.on 26 (bl 28 134217727) rfl (by kernel_rfl) rfl dc (Eff.appOneP (t := tStr) (b := bq) (M := M) (N := [_, _, _]) el24 (hG.mono (((l2.trans l3).trans l4).trans l5)) (show tStr.rel _ [str (wmem (wval d) false name x w').1] _ from rfl) rfl rfl (List.perm_append_comm (l₁ := [_, _, _]) (l₂ := M)) List.mem_cons_self rfl (by omega) (by omega) fun v2 M2 hG2 => ⟨fun W h => h.holds (((l2.trans l3).trans l4).trans l5) (by intro x hx; rcases List.mem_singleton.1 hx with rfl; simp), ?_⟩)
    obtain ⟨A6, z6, rfl⟩ := hG2.isSl
    refine RAny.perm (List.perm_append_comm (l₁ := M2) (l₂ := [_, _, _])) ?_
    refine RAny.tk 27 (bl 28 268435455) rfl (by kernel_rfl) dc (fun W h => h.holds (((l2.trans l3).trans l4).trans l5) (by first | exact mp rfl | exact mq rfl)) (Yld.eval T rfl rfl) ?_
    refine RAny.done _ (by kernel_rfl) ?_
    refine Run.inBlock ?_
    refine Run.regionO (D := [some 73, some 74, some 11]) [true, true, true] rfl rfl rfl (fun Z hZ => ?_)
    refine q1 dc rfl rfl ?_
    refine QD.e (Ev.addK (r := ((2 * (done ++ [(wmem (wval d) false name x w').1]).length : Nat) : Int)) rfl rfl (by rw [wI (by omega) (by omega)]; simp; omega)) dc rfl ?_
    refine q1 dc rfl rfl ?_
    refine QD.nil (hZ _ ?_)
    clear hZ Z
    skip
    refine Run.dropL (L' := (b4, _) :: (p, o5) :: M2) (List.sublist_cons_self _ _) ?_
    refine Run.keep [0, 2, 4, 7, 10, 11] [_, _, _, _, _, _] rfl ?_
    exact ih rest.length _ _ _ (by simp only [List.length_cons]; omega) ⟨done ++ [(wmem (wval d) false name x w').1], pre ++ [name, x], rest, (wmem (wval d) false name x w').2, o5, _, M2, rfl, by rw [hkids]; simp, by simp [hprl]; omega, f3, by rw [← hdone]; simp, hrem, rfl, rfl, hW5, hG2, hle.trans (((l2.trans l3).trans l4).trans l5)⟩
   | true =>
    skip
    refine RAny.tk 19 (bl 28 1048575) rfl (by kernel_rfl) dc (fun W h => h.holds ((l2.trans l3).trans l4) (by first | exact mp rfl | exact mq rfl)) (Yld.eval T rfl rfl) ?_
    refine RAny.tk 20 (bl 28 2097151) rfl (by kernel_rfl) dc (fun W h => h.holds ((l2.trans l3).trans l4) (by first | exact mp rfl | exact mq rfl)) (Yld.eval T rfl rfl) ?_
    refine RAny.tk 21 (bl 28 4194303) rfl (by kernel_rfl) dc (fun W h => h.holds ((l2.trans l3).trans l4) (by first | exact mp rfl | exact mq rfl)) (Yld.eval T rfl rfl) ?_
    refine RAny.tk 22 (bl 28 8388607) rfl (by kernel_rfl) dc (fun W h => h.holds ((l2.trans l3).trans l4) (by first | exact mp rfl | exact mq rfl)) (Yld.eval T rfl rfl) ?_
    refine RAny.on 23 (bl 28 16777215) rfl (by kernel_rfl) rfl dc (Eff.callM (M := [_]) (N := _ :: _) (hWS J4 _ x (true && !(true && freeN name.text)) (blk5 (wquo name.text (blk5 w').2).2).2 p o4 ((tJs d).mono hrx ((l2.trans l3).trans l4)) f2 hW4 (by omega)) (List.Perm.swap _ _ _) call42 (by rw [hfr]; rfl) fun y J5 M5 l5 hv => ⟨fun W h => h.holds (((l2.trans l3).trans l4).trans l5) (by intro x hx; rcases List.mem_singleton.1 hx with rfl; simp), ?_⟩)
    obtain ⟨rfl, o5, rfl, hW5⟩ := hv
    skip
    refine RAny.perm (List.Perm.swap _ _ _) ?_
    refine RAny.tk 24 (bl 28 33554431) rfl (by kernel_rfl) dc (fun W h => h.holds (((l2.trans l3).trans l4).trans l5) (by first | exact mp rfl | exact mq rfl)) (Yld.ev ((Ev.catS rfl rfl (by simp only [List.length_append, List.length_cons, List.length_nil]; omega)).as (show _ = str (wmem (wval d) true name x w').1 from rfl)) rfl) ?_
    refine RAny.on 25 (bl 28 67108863) rfl (by kernel_rfl) rfl dc (Eff.lit T rfl rfl rfl dc dc rfl rfl rfl rfl rfl fun bq => ⟨fun W h => h.holds (((l2.trans l3).trans l4).trans l5) (by intro x hx; rcases List.mem_singleton.1 hx with rfl; simp), ?_⟩)
    refine RAny.on 26 (bl 28 134217727) rfl (by kernel_rfl) rfl dc (Eff.appOneP (t := tStr) (b := bq) (M := M) (N := [_, _, _]) el24 (hG.mono (((l2.trans l3).trans l4).trans l5)) (show tStr.rel _ [str (wmem (wval d) true name x w').1] _ from rfl) rfl rfl (List.perm_append_comm (l₁ := [_, _, _]) (l₂ := M)) List.mem_cons_self rfl (by omega) (by omega) fun v2 M2 hG2 => ⟨fun W h => h.holds (((l2.trans l3).trans l4).trans l5) (by intro x hx; rcases List.mem_singleton.1 hx with rfl; simp), ?_⟩)
    obtain ⟨A6, z6, rfl⟩ := hG2.isSl
    refine RAny.perm (List.perm_append_comm (l₁ := M2) (l₂ := [_, _, _])) ?_
    refine RAny.tk 27 (bl 28 268435455) rfl (by kernel_rfl) dc (fun W h => h.holds (((l2.trans l3).trans l4).trans l5) (by first | exact mp rfl | exact mq rfl)) (Yld.eval T rfl rfl) ?_
    refine RAny.done _ (by kernel_rfl) ?_
    refine Run.inBlock ?_
    refine Run.regionO (D := [some 73, some 74, some 11]) [true, true, true] rfl rfl rfl (fun Z hZ => ?_)
    refine q1 dc rfl rfl ?_
    refine QD.e (Ev.addK (r := ((2 * (done ++ [(wmem (wval d) true name x w').1]).length : Nat) : Int)) rfl rfl (by rw [wI (by omega) (by omega)]; simp; omega)) dc rfl ?_
    refine q1 dc rfl rfl ?_
    refine QD.nil (hZ _ ?_)
    clear hZ Z
    skip
    refine Run.dropL (L' := (b4, _) :: (p, o5) :: M2) (List.sublist_cons_self _ _) ?_
    refine Run.keep [0, 2, 4, 7, 10, 11] [_, _, _, _, _, _] rfl ?_
    exact ih rest.length _ _ _ (by simp only [List.length_cons]; omega) ⟨done ++ [(wmem (wval d) true name x w').1], pre ++ [name, x], rest, (wmem (wval d) true name x w').2, o5, _, M2, rfl, by rw [hkids]; simp, by simp [hprl]; omega, f3, by rw [← hdone]; simp, hrem, rfl, rfl, hW5, hG2, hle.trans (((l2.trans l3).trans l4).trans l5)⟩
end Go.V
namespace Go.V
open Go.Proofs.Tryz
open Go.RowKit
set_option maxRecDepth 10000
attribute [local irreducible] Run Ops QD
theorem way_value : ∀ d, WSpec d
 | 0 => fun I cs j fixed w p o hrel hF hW hl => hF.elim
 | d + 1 => fun I cs j fixed w p o hrel hF hW hl => by
  by_cases h1 : j.kind = 115
  ·exact wv_str d I cs j fixed w p o hrel hF hW hl h1
  by_cases h2 : j.kind = 108
  ·exact wv_list d (way_value d) I cs j fixed w p o hrel hF hW hl h2
  by_cases h3 : j.kind = 111
  ·exact wv_obj d (way_value d) I cs j fixed w p o hrel hF hW hl h3
  ·exact wv_lit d I cs j fixed w p o hrel hW hl h1 h2 h3
theorem spec_Wayward (d : Nat) (I : Imm) (cs : List Value) (j : Js) (v : Value) (ws : Bs) (hrel : (tJs d).rel I cs j) (hF : Fine d j) (hS : Sl tU8 I v ws) (hw : ws.length ≤ 2147483647) (hl : (wval d j true ws).1.length ≤ 34359738368) :
  Pure prog 15 [.agg cs.toArray, v] I fun w J => w = str (wval d j true ws).1 := by
 obtain ⟨A2, n2, c2, rfl⟩ := tJs_shape hrel
 have hS0 := hS
 obtain ⟨A0, c0, rfl⟩ := hS.isSl
 refine Spec.enter 12 [(0, _), (1, _)] func15 rfl ntmps15 (by simp) rfl ?_
 intro C hCf hR hCI
 refine Run.seq ?_
 refine Run.region ?_
 refine Ops.box rfl dc rfl rfl (fun b2 => ?_)
 refine Ops.pure T rfl dc rfl ?_
 refine Ops.nil ?_
 refine Run.seq ?_
 refine Run.regionP (D := [some 6, some 7, some 8, some 5]) [true, true] 2 rfl rfl rfl (by simp only [List.drop_succ_cons, List.drop_zero]; rfl) (fun Z hZ => ?_)
 refine q1 dc rfl rfl ?_
 refine QD.e (Ev.buildS bd110 rfl rfl) dc rfl ?_
 refine QD.nil (hZ _ ?_)
 clear hZ Z
 refine Ops.box rfl dc rfl rfl (fun b7 => ?_)
 refine Ops.pure T rfl dc rfl ?_
 refine Ops.nil ?_
 refine Run.seq ?_
 refine Run.regionP (D := [some 9, some 10, some 11, some 4]) [true, true] 2 rfl rfl rfl (by simp only [List.drop_succ_cons, List.drop_zero]; rfl) (fun Z hZ => ?_)
 refine q1 dc rfl rfl ?_
 refine QD.yv dc rfl (Yv.loadN 1 T rfl rfl rfl rfl rfl rfl) ?_
 refine QD.nil (hZ _ ?_)
 clear hZ Z
 refine Ops.callM (M := [_]) ((way_value d I _ j true ws b7 _ hrel hF ⟨_, ws, 0, rfl, hS0, by omega, rfl, hw⟩ hl)) (.refl _) rfl dc call42 rfl ?_
 rintro y J1 M1 l1 ⟨rfl, o1, rfl, hW1⟩
 refine Ops.pure T rfl dc rfl ?_
 refine Ops.nil ?_
 skip
 refine Run.fin (Run.ret1 (by rw [hCf]; exact func15) results15 rfl (hR _ _ _ ?_))
 exact ⟨rfl, rfl⟩
theorem spec_jText (I : Imm) (s : Bs) : Pure prog 44 [str s] I fun w J => w = .agg [.int .u8 115, str s, .slice none 0 0].toArray := by
 refine Spec.enter 5 [(0, _)] func44 rfl ntmps44 (by simp) rfl ?_
 intro C hCf hR hCI
 refine Run.seq ?_
 refine Run.region ?_
 refine Ops.alloc rfl dc (T.zeroOk rfl) rfl (fun b2 => ?_)
 refine Ops.nil ?_
 refine Run.seq ?_
 refine Run.regionP (D := [some 3, some 4, none]) [true] 1 rfl rfl rfl (by simp only [List.drop_succ_cons, List.drop_zero]; rfl) (fun Z hZ => ?_)
 refine q1 dc rfl rfl ?_
 refine QD.nil (hZ _ ?_)
 clear hZ Z
 refine Ops.buildL bd39 rfl dc rfl rfl ?_
 refine Ops.store 0 rfl rfl rfl rfl rfl (T.sizeOk rfl) rfl (Nat.le_of_ble_eq_true rfl) rfl rfl ?_
 refine Ops.nil ?_
 skip
 refine Run.retC T 0 (by rw [hCf]; exact func44) results44 rfl rfl rfl rfl rfl rfl (hR _ _ _ ?_)
 exact ⟨rfl, rfl⟩
end Go.V
