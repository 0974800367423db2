import Derived.Test.YteppnkblebknnaaDoorTM13
/-
  What one says to a registry, taken from JSON.
-/
namespace Go.V
open Go.RowKit
set_option linter.unusedVariables false
set_option linter.unusedSimpArgs false
set_option maxRecDepth 10000
attribute [local irreducible] Run Ops QD
structure Au where
  user : Bs
  pass : Bs
  auth : Bs
  ident : Bs
  reg : Bs
def Au.cs (a : Au) : List Value := [str a.user, str a.pass, str a.auth, str a.ident, str a.reg]
def auNames : List Bs := [[117, 115, 101, 114, 110, 97, 109, 101], [112, 97, 115, 115, 119, 111, 114, 100], [97, 117, 116, 104], [105, 100, 101, 110, 116, 105, 116, 121, 116, 111, 107, 101, 110], [114, 101, 103, 105, 115, 116, 114, 121, 116, 111, 107, 101, 110]]
def Au.put (a : Au) (k : Int) (s : Bs) : Au := if k = 0 then { a with user := s } else if k = 1 then { a with pass := s } else if k = 2 then { a with auth := s } else if k = 3 then { a with ident := s } else if k = 4 then { a with reg := s } else a
theorem auField (I : Imm) (hU : UT I) (key : Bs) (v : Value) (hS : Sl tStr I v auNames) (hk : key.length ≤ 137438953472) : Pure Proofs.Tryd.prog 86 [str key, v] I fun w J => w = .int .i64 (fieldR key auNames) :=
  zz_Field I hU key auNames v hS hk (by decide) (by decide)
set_option maxHeartbeats 2000000 in
theorem auth_take1 (f : Nat) (I : Imm) (hU : UT I) (cs : List Value) (v : JV) (hrel : (tJV (f + 1)).rel I cs v) (key : Bs) (hkl : key.length ≤ 137438953472) (b2 x : Nat) (a : Au) (hB : At I b2 0 [.pointer (some ⟨x, 0, none⟩)])
    (k : Int) (hf : fieldR key auNames = k) (hk : k = 0 ∨ k = 1 ∨ k = 2 ∨ k = 3 ∨ k = 4 ∨ k = -1) (hkind : k ≠ -1 → v.kind = 34) :
    Spec Proofs.Tryd.prog 85 [str key, .agg cs.toArray, .pointer (some ⟨b2, 0, none⟩)] I [(x, blk a.cs 72)] fun w J M => w = .bool true ∧ M = [(x, blk (a.put k v.text).cs 72)] := by
  have hrel0 := hrel
  obtain ⟨wk, wn, rfl, hwk, hwn⟩ := hrel
  obtain ⟨A3, z3, rfl⟩ := hwk.isSl
  obtain ⟨A4, z4, rfl⟩ := hwn.isSl
  refine Spec.enter 44 [(0, _), (1, _), (2, _)] Proofs.Tryd.func85 rfl Proofs.Tryd.ntmps85 (by simp) rfl ?_
  intro C hCf hR hCI
  refine Run.seq ?_
  refine Run.region ?_
  refine Ops.box rfl dc rfl rfl (fun b4 => ?_)
  refine Ops.pure T rfl dc rfl ?_
  refine Ops.nil ?_
  repeat refine Run.seq ?_
  refine Run.regionP (D := [some 6, some 7, some 8]) [true] 1 rfl rfl rfl (by simp only [List.drop_succ_cons, List.drop_zero]; rfl) (fun Z hZ => ?_)
  refine q1 dc rfl rfl ?_
  refine QD.nil (hZ _ ?_)
  clear hZ Z
  refine Ops.lit T rfl rfl rfl dc rfl dc dc rfl rfl rfl rfl rfl (fun bq => ?_)
  refine Ops.freezeAt 0 rfl rfl fun J1 l1 hJ1 => ?_
  have hS : Sl tStr J1 (.slice (some ⟨bq, 0, none⟩) 5 5) auNames := Sl.ofBlock hJ1 (Cells.strs auNames) rfl (by decide)
  have hB := hB.mono l1
  have hrel := (tJV (f + 1)).mono hrel0 l1
  refine Ops.call ((auField J1 (hU.mono l1) key _ hS hkl)) rfl dc Proofs.Tryd.call86 rfl ?_
  rintro _ J2 l2 rfl
  refine Ops.nil ?_
  rw [hf]
  have hB := hB.mono l2
  have hrel := (tJV (f + 1)).mono hrel l2
  repeat (first | refine Run.seq ?_ | refine Run.block ?_)
  rcases hk with rfl | rfl | rfl | rfl | rfl | rfl
  · skip
    refine Run.regionO (D := [some 10, some 9]) [true, true] rfl rfl rfl (fun Z hZ => ?_)
    refine QD.e (Ev.eqlI rfl rfl) dc rfl ?_
    refine q1 dc rfl rfl ?_
    refine QD.nil (hZ _ ?_)
    clear hZ Z
    repeat (first | refine Run.seq ?_ | refine Run.cond_t rfl ?_)
    refine Run.regionT (D := [some 11, some 12, some 13, some 14, some 15, some 5]) (fun _ => True) [true, true, true, true] (bl 6 15) 2 (by kernel_rfl) (by kernel_rfl) (by kernel_rfl) rfl (fun Z hZ => ?_)
    refine QD.yv dc rfl (Yv.loadN 0 T rfl rfl rfl rfl rfl rfl) ?_
    refine QD.yv dc rfl (Yv.loadI T hB rfl rfl) ?_
    iterate 2 refine q1 dc rfl rfl ?_
    refine QD.nil (hZ _ ?_)
    clear hZ Z
    refine RAny.on 4 (bl 6 31) rfl (by kernel_rfl) rfl dc (Eff.callM (M := [_]) (N := [_]) (Value_Str f _ _ v hrel x 0 _ _ (Nat.le_of_ble_eq_true rfl)) (List.Perm.swap _ _ _) Proofs.Tryd.call87 rfl fun w J' M' l' hw => ⟨fun _ _ => trivial, ?_⟩)
    obtain ⟨rfl, rfl, rfl⟩ := hw
    refine RAny.tk 5 (bl 6 63) rfl (by kernel_rfl) dc (fun _ _ => trivial) (Yld.eval T rfl rfl) ?_
    refine RAny.done _ (by kernel_rfl) ?_
    skip
    refine Run.dropL (L' := [(x, _)]) (List.Sublist.cons_cons _ (List.nil_sublist _)) ?_
    refine Run.ret1 (by rw [hCf]; exact Proofs.Tryd.func85) Proofs.Tryd.results85 rfl (hR _ _ _ ?_)
    rw [hkind (by decide)]
    exact ⟨rfl, rfl⟩
  · skip
    refine Run.regionO (D := [some 10, some 9]) [true, true] rfl rfl rfl (fun Z hZ => ?_)
    refine QD.e (Ev.eqlI rfl rfl) dc rfl ?_
    refine q1 dc rfl rfl ?_
    refine QD.nil (hZ _ ?_)
    clear hZ Z
    repeat (first | refine Run.seq ?_ | refine Run.cond_f rfl ?_)
    refine Run.regionO (D := [some 17, some 16]) [true, true] rfl rfl rfl (fun Z hZ => ?_)
    refine QD.e (Ev.eqlI rfl rfl) dc rfl ?_
    refine q1 dc rfl rfl ?_
    refine QD.nil (hZ _ ?_)
    clear hZ Z
    repeat (first | refine Run.seq ?_ | refine Run.cond_t rfl ?_)
    refine Run.regionT (D := [some 18, some 19, some 20, some 21, some 22, some 5]) (fun _ => True) [true, true, true, true] (bl 6 15) 2 (by kernel_rfl) (by kernel_rfl) (by kernel_rfl) rfl (fun Z hZ => ?_)
    refine QD.yv dc rfl (Yv.loadN 0 T rfl rfl rfl rfl rfl rfl) ?_
    refine QD.yv dc rfl (Yv.loadI T hB rfl rfl) ?_
    iterate 2 refine q1 dc rfl rfl ?_
    refine QD.nil (hZ _ ?_)
    clear hZ Z
    refine RAny.on 4 (bl 6 31) rfl (by kernel_rfl) rfl dc (Eff.callM (M := [_]) (N := [_]) (Value_Str f _ _ v hrel x 1 _ _ (Nat.le_of_ble_eq_true rfl)) (List.Perm.swap _ _ _) Proofs.Tryd.call87 rfl fun w J' M' l' hw => ⟨fun _ _ => trivial, ?_⟩)
    obtain ⟨rfl, rfl, rfl⟩ := hw
    refine RAny.tk 5 (bl 6 63) rfl (by kernel_rfl) dc (fun _ _ => trivial) (Yld.eval T rfl rfl) ?_
    refine RAny.done _ (by kernel_rfl) ?_
    skip
    refine Run.dropL (L' := [(x, _)]) (List.Sublist.cons_cons _ (List.nil_sublist _)) ?_
    refine Run.ret1 (by rw [hCf]; exact Proofs.Tryd.func85) Proofs.Tryd.results85 rfl (hR _ _ _ ?_)
    rw [hkind (by decide)]
    exact ⟨rfl, rfl⟩
  · skip
    refine Run.regionO (D := [some 10, some 9]) [true, true] rfl rfl rfl (fun Z hZ => ?_)
    refine QD.e (Ev.eqlI rfl rfl) dc rfl ?_
    refine q1 dc rfl rfl ?_
    refine QD.nil (hZ _ ?_)
    clear hZ Z
    repeat (first | refine Run.seq ?_ | refine Run.cond_f rfl ?_)
    refine Run.regionO (D := [some 17, some 16]) [true, true] rfl rfl rfl (fun Z hZ => ?_)
    refine QD.e (Ev.eqlI rfl rfl) dc rfl ?_
    refine q1 dc rfl rfl ?_
    refine QD.nil (hZ _ ?_)
    clear hZ Z
    repeat (first | refine Run.seq ?_ | refine Run.cond_f rfl ?_)
    refine Run.regionO (D := [some 24, some 23]) [true, true] rfl rfl rfl (fun Z hZ => ?_)
    refine QD.e (Ev.eqlI rfl rfl) dc rfl ?_
    refine q1 dc rfl rfl ?_
    refine QD.nil (hZ _ ?_)
    clear hZ Z
    repeat (first | refine Run.seq ?_ | refine Run.cond_t rfl ?_)
    refine Run.regionT (D := [some 25, some 26, some 27, some 28, some 29, some 5]) (fun _ => True) [true, true, true, true] (bl 6 15) 2 (by kernel_rfl) (by kernel_rfl) (by kernel_rfl) rfl (fun Z hZ => ?_)
    refine QD.yv dc rfl (Yv.loadN 0 T rfl rfl rfl rfl rfl rfl) ?_
    refine QD.yv dc rfl (Yv.loadI T hB rfl rfl) ?_
    iterate 2 refine q1 dc rfl rfl ?_
    refine QD.nil (hZ _ ?_)
    clear hZ Z
    refine RAny.on 4 (bl 6 31) rfl (by kernel_rfl) rfl dc (Eff.callM (M := [_]) (N := [_]) (Value_Str f _ _ v hrel x 2 _ _ (Nat.le_of_ble_eq_true rfl)) (List.Perm.swap _ _ _) Proofs.Tryd.call87 rfl fun w J' M' l' hw => ⟨fun _ _ => trivial, ?_⟩)
    obtain ⟨rfl, rfl, rfl⟩ := hw
    refine RAny.tk 5 (bl 6 63) rfl (by kernel_rfl) dc (fun _ _ => trivial) (Yld.eval T rfl rfl) ?_
    refine RAny.done _ (by kernel_rfl) ?_
    skip
    refine Run.dropL (L' := [(x, _)]) (List.Sublist.cons_cons _ (List.nil_sublist _)) ?_
    refine Run.ret1 (by rw [hCf]; exact Proofs.Tryd.func85) Proofs.Tryd.results85 rfl (hR _ _ _ ?_)
    rw [hkind (by decide)]
    exact ⟨rfl, rfl⟩
  · skip
    refine Run.regionO (D := [some 10, some 9]) [true, true] rfl rfl rfl (fun Z hZ => ?_)
    refine QD.e (Ev.eqlI rfl rfl) dc rfl ?_
    refine q1 dc rfl rfl ?_
    refine QD.nil (hZ _ ?_)
    clear hZ Z
    repeat (first | refine Run.seq ?_ | refine Run.cond_f rfl ?_)
    refine Run.regionO (D := [some 17, some 16]) [true, true] rfl rfl rfl (fun Z hZ => ?_)
    refine QD.e (Ev.eqlI rfl rfl) dc rfl ?_
    refine q1 dc rfl rfl ?_
    refine QD.nil (hZ _ ?_)
    clear hZ Z
    repeat (first | refine Run.seq ?_ | refine Run.cond_f rfl ?_)
    refine Run.regionO (D := [some 24, some 23]) [true, true] rfl rfl rfl (fun Z hZ => ?_)
    refine QD.e (Ev.eqlI rfl rfl) dc rfl ?_
    refine q1 dc rfl rfl ?_
    refine QD.nil (hZ _ ?_)
    clear hZ Z
    repeat (first | refine Run.seq ?_ | refine Run.cond_f rfl ?_)
    refine Run.regionO (D := [some 31, some 30]) [true, true] rfl rfl rfl (fun Z hZ => ?_)
    refine QD.e (Ev.eqlI rfl rfl) dc rfl ?_
    refine q1 dc rfl rfl ?_
    refine QD.nil (hZ _ ?_)
    clear hZ Z
    repeat (first | refine Run.seq ?_ | refine Run.cond_t rfl ?_)
    refine Run.regionT (D := [some 32, some 33, some 34, some 35, some 36, some 5]) (fun _ => True) [true, true, true, true] (bl 6 15) 2 (by kernel_rfl) (by kernel_rfl) (by kernel_rfl) rfl (fun Z hZ => ?_)
    refine QD.yv dc rfl (Yv.loadN 0 T rfl rfl rfl rfl rfl rfl) ?_
    refine QD.yv dc rfl (Yv.loadI T hB rfl rfl) ?_
    iterate 2 refine q1 dc rfl rfl ?_
    refine QD.nil (hZ _ ?_)
    clear hZ Z
    refine RAny.on 4 (bl 6 31) rfl (by kernel_rfl) rfl dc (Eff.callM (M := [_]) (N := [_]) (Value_Str f _ _ v hrel x 3 _ _ (Nat.le_of_ble_eq_true rfl)) (List.Perm.swap _ _ _) Proofs.Tryd.call87 rfl fun w J' M' l' hw => ⟨fun _ _ => trivial, ?_⟩)
    obtain ⟨rfl, rfl, rfl⟩ := hw
    refine RAny.tk 5 (bl 6 63) rfl (by kernel_rfl) dc (fun _ _ => trivial) (Yld.eval T rfl rfl) ?_
    refine RAny.done _ (by kernel_rfl) ?_
    skip
    refine Run.dropL (L' := [(x, _)]) (List.Sublist.cons_cons _ (List.nil_sublist _)) ?_
    refine Run.ret1 (by rw [hCf]; exact Proofs.Tryd.func85) Proofs.Tryd.results85 rfl (hR _ _ _ ?_)
    rw [hkind (by decide)]
    exact ⟨rfl, rfl⟩
  · skip
    refine Run.regionO (D := [some 10, some 9]) [true, true] rfl rfl rfl (fun Z hZ => ?_)
    refine QD.e (Ev.eqlI rfl rfl) dc rfl ?_
    refine q1 dc rfl rfl ?_
    refine QD.nil (hZ _ ?_)
    clear hZ Z
    repeat (first | refine Run.seq ?_ | refine Run.cond_f rfl ?_)
    refine Run.regionO (D := [some 17, some 16]) [true, true] rfl rfl rfl (fun Z hZ => ?_)
    refine QD.e (Ev.eqlI rfl rfl) dc rfl ?_
    refine q1 dc rfl rfl ?_
    refine QD.nil (hZ _ ?_)
    clear hZ Z
    repeat (first | refine Run.seq ?_ | refine Run.cond_f rfl ?_)
    refine Run.regionO (D := [some 24, some 23]) [true, true] rfl rfl rfl (fun Z hZ => ?_)
    refine QD.e (Ev.eqlI rfl rfl) dc rfl ?_
    refine q1 dc rfl rfl ?_
    refine QD.nil (hZ _ ?_)
    clear hZ Z
    repeat (first | refine Run.seq ?_ | refine Run.cond_f rfl ?_)
    refine Run.regionO (D := [some 31, some 30]) [true, true] rfl rfl rfl (fun Z hZ => ?_)
    refine QD.e (Ev.eqlI rfl rfl) dc rfl ?_
    refine q1 dc rfl rfl ?_
    refine QD.nil (hZ _ ?_)
    clear hZ Z
    repeat (first | refine Run.seq ?_ | refine Run.cond_f rfl ?_)
    refine Run.regionO (D := [some 38, some 37]) [true, true] rfl rfl rfl (fun Z hZ => ?_)
    refine QD.e (Ev.eqlI rfl rfl) dc rfl ?_
    refine q1 dc rfl rfl ?_
    refine QD.nil (hZ _ ?_)
    clear hZ Z
    repeat (first | refine Run.seq ?_ | refine Run.cond_t rfl ?_)
    refine Run.regionT (D := [some 39, some 40, some 41, some 42, some 43, some 5]) (fun _ => True) [true, true, true, true] (bl 6 15) 2 (by kernel_rfl) (by kernel_rfl) (by kernel_rfl) rfl (fun Z hZ => ?_)
    refine QD.yv dc rfl (Yv.loadN 0 T rfl rfl rfl rfl rfl rfl) ?_
    refine QD.yv dc rfl (Yv.loadI T hB rfl rfl) ?_
    iterate 2 refine q1 dc rfl rfl ?_
    refine QD.nil (hZ _ ?_)
    clear hZ Z
    refine RAny.on 4 (bl 6 31) rfl (by kernel_rfl) rfl dc (Eff.callM (M := [_]) (N := [_]) (Value_Str f _ _ v hrel x 4 _ _ (Nat.le_of_ble_eq_true rfl)) (List.Perm.swap _ _ _) Proofs.Tryd.call87 rfl fun w J' M' l' hw => ⟨fun _ _ => trivial, ?_⟩)
    obtain ⟨rfl, rfl, rfl⟩ := hw
    refine RAny.tk 5 (bl 6 63) rfl (by kernel_rfl) dc (fun _ _ => trivial) (Yld.eval T rfl rfl) ?_
    refine RAny.done _ (by kernel_rfl) ?_
    skip
    refine Run.dropL (L' := [(x, _)]) (List.Sublist.cons_cons _ (List.nil_sublist _)) ?_
    refine Run.ret1 (by rw [hCf]; exact Proofs.Tryd.func85) Proofs.Tryd.results85 rfl (hR _ _ _ ?_)
    rw [hkind (by decide)]
    exact ⟨rfl, rfl⟩
  · skip
    refine Run.regionO (D := [some 10, some 9]) [true, true] rfl rfl rfl (fun Z hZ => ?_)
    refine QD.e (Ev.eqlI rfl rfl) dc rfl ?_
    refine q1 dc rfl rfl ?_
    refine QD.nil (hZ _ ?_)
    clear hZ Z
    repeat (first | refine Run.seq ?_ | refine Run.cond_f rfl ?_)
    refine Run.regionO (D := [some 17, some 16]) [true, true] rfl rfl rfl (fun Z hZ => ?_)
    refine QD.e (Ev.eqlI rfl rfl) dc rfl ?_
    refine q1 dc rfl rfl ?_
    refine QD.nil (hZ _ ?_)
    clear hZ Z
    repeat (first | refine Run.seq ?_ | refine Run.cond_f rfl ?_)
    refine Run.regionO (D := [some 24, some 23]) [true, true] rfl rfl rfl (fun Z hZ => ?_)
    refine QD.e (Ev.eqlI rfl rfl) dc rfl ?_
    refine q1 dc rfl rfl ?_
    refine QD.nil (hZ _ ?_)
    clear hZ Z
    repeat (first | refine Run.seq ?_ | refine Run.cond_f rfl ?_)
    refine Run.regionO (D := [some 31, some 30]) [true, true] rfl rfl rfl (fun Z hZ => ?_)
    refine QD.e (Ev.eqlI rfl rfl) dc rfl ?_
    refine q1 dc rfl rfl ?_
    refine QD.nil (hZ _ ?_)
    clear hZ Z
    repeat (first | refine Run.seq ?_ | refine Run.cond_f rfl ?_)
    refine Run.regionO (D := [some 38, some 37]) [true, true] rfl rfl rfl (fun Z hZ => ?_)
    refine QD.e (Ev.eqlI rfl rfl) dc rfl ?_
    refine q1 dc rfl rfl ?_
    refine QD.nil (hZ _ ?_)
    clear hZ Z
    repeat (first | refine Run.seq ?_ | refine Run.skip ?_ | refine Run.inBlock ?_ | refine Run.cond_f rfl ?_)
    refine Run.regionO (D := [some 5]) [true] rfl rfl rfl (fun Z hZ => ?_)
    refine q1 dc rfl rfl ?_
    refine QD.nil (hZ _ ?_)
    clear hZ Z
    skip
    refine Run.dropL (L' := [(x, _)]) (List.sublist_cons_self _ _) ?_
    refine Run.ret1 (by rw [hCf]; exact Proofs.Tryd.func85) Proofs.Tryd.results85 rfl (hR _ _ _ ?_)
    exact ⟨rfl, rfl⟩
end Go.V
/-
  What one says to a registry, out of a value of JSON; and out of its text.
-/
namespace Go.V
open Go.RowKit
set_option linter.unusedVariables false
set_option linter.unusedSimpArgs false
set_option maxRecDepth 10000
attribute [local irreducible] Run Ops QD
def Au.takes (a : Au) (ms : List (Bs × JV)) : Au := ms.foldl (fun a m => a.put (fieldR m.1 auNames) m.2.text) a
/-- members that are taken -/
def AuOk (m : Bs × JV) : Prop := m.1.length ≤ 137438953472 ∧ (fieldR m.1 auNames = 0 ∨ fieldR m.1 auNames = 1 ∨ fieldR m.1 auNames = 2 ∨ fieldR m.1 auNames = 3 ∨ fieldR m.1 auNames = 4 ∨ fieldR m.1 auNames = -1) ∧ (fieldR m.1 auNames ≠ -1 → m.2.kind = 34)
theorem auth_take (f : Nat) (I : Imm) (hU : UT I) (cs : List Value) (v : JV) (hrel : (tJV (f + 1)).rel I cs v) (x : Nat) (a : Au) (hk : v.kind = 123) (ms : List (Bs × JV)) (hkeys : v.keys = ms.map Prod.fst) (hkids : v.kids = ms.map Prod.snd) (hms : ms.length ≤ 1000000) (hok : ∀ m ∈ ms, AuOk m) :
    Spec Proofs.Tryd.prog 83 [.pointer (some ⟨x, 0, none⟩), .agg cs.toArray] I [(x, blk a.cs 72)] fun w J M => w = .bool true ∧ M = [(x, blk (a.takes ms).cs 72)] := by
  have hrel0 := hrel
  obtain ⟨wk, wn, rfl, hwk, hwn⟩ := hrel
  obtain ⟨A3, z3, rfl⟩ := hwk.isSl
  obtain ⟨A4, z4, rfl⟩ := hwn.isSl
  have hlen : v.kids.length = ms.length := by rw [hkids, List.length_map]
  refine Spec.enter 8 [(0, _), (1, _)] Proofs.Tryd.func83 rfl Proofs.Tryd.ntmps83 (by simp) rfl ?_
  intro C hCf hR hCI
  refine Run.seq ?_
  refine Run.region ?_
  refine Ops.box rfl dc rfl rfl (fun b2 => ?_)
  refine Ops.box rfl dc rfl rfl (fun b3 => ?_)
  refine Ops.pure T rfl dc rfl ?_
  refine Ops.nil ?_
  refine Run.freezeAt 1 rfl rfl fun J1 l1 hJ1 => ?_
  have hB : At J1 b2 0 [.pointer (some ⟨x, 0, none⟩)] := At.block hJ1
  refine Run.seq ?_
  refine Run.regionP (D := [some 5, some 6, some 7, some 4]) [true, true] 2 rfl rfl rfl (by simp only [List.drop_succ_cons, List.drop_zero]; rfl) (fun Z hZ => ?_)
  refine QD.yv dc rfl (Yv.loadN 0 T rfl rfl rfl rfl rfl rfl) ?_
  refine q1 dc rfl rfl ?_
  refine QD.nil (hZ _ ?_)
  clear hZ Z
  have hM := Value_Members f J1 _ v ((tJV (f + 1)).mono hrel0 l1) hk (by rw [hkeys, hkids, List.length_map, List.length_map]) (by omega) 85 [.pointer (some ⟨b2, 0, none⟩)] (fun i J M => M = [(x, blk (a.takes (ms.take i)).cs 72)]) _ rfl Proofs.Tryd.call85 (fun _ _ _ _ h _ => h)
    (fun i key y J M kc hle hkey hkid hr hSt => by
      rw [hkeys, List.getElem?_map] at hkey
      rw [hkids, List.getElem?_map] at hkid
      cases hm : ms[i]? with
      | none => rw [hm] at hkey; cases hkey
      | some m =>
        rw [hm] at hkey hkid
        obtain rfl : m.1 = key := Option.some.inj hkey
        obtain rfl : m.2 = y := Option.some.inj hkid
        obtain ⟨h1, h2, h3⟩ := hok m (List.mem_of_getElem? hm)
        cases f with
        | zero => exact hr.elim
        | succ f =>
          subst hSt
          refine Spec.mono (auth_take1 f J (hU.mono (l1.trans hle)) kc m.2 hr m.1 h1 b2 x (a.takes (ms.take i)) (hB.mono hle) _ rfl h2 h3) ?_
          rintro w J' M' _ ⟨rfl, rfl⟩
          refine ⟨rfl, ?_⟩
          obtain ⟨hi, rfl⟩ := List.getElem?_eq_some_iff.1 hm
          rw [List.take_succ_eq_append_getElem hi, Au.takes, Au.takes, List.foldl_append]
          rfl)
  refine Ops.callP (N := [_]) (hM) (.refl _) rfl dc Proofs.Tryd.call84 rfl ?_
  rintro w J2 M2 l2 ⟨rfl, rfl⟩
  refine Ops.pure T rfl dc rfl ?_
  refine Ops.nil ?_
  skip
  refine Run.dropL (L' := [(x, _)]) (List.sublist_cons_self _ _) ?_
  refine Run.ret1 (by rw [hCf]; exact Proofs.Tryd.func83) Proofs.Tryd.results83 rfl (hR _ _ _ ?_)
  rw [hlen, List.take_length]
  exact ⟨rfl, rfl⟩
theorem meth_auTake : ∀ u w, (method (Proofs.Tryd.prog.types.size + Made.depth) 74 u "ZzTake").run Proofs.Tryd.prog w = .ok (83, u) w := by intro u w; kernel_rfl
def Au.zero : Au := ⟨[], [], [], [], []⟩
set_option maxHeartbeats 1000000 in
theorem auth_Unmarshal (I : Imm) (hU : UT I) (s : Bs) (w : Value) (db off c x : Nat) (hR0 : Rd I w s db off c) (hs : s.length ≤ 137438953472) (a : Au) (v : JV) (t : Bs) (hv : rdV 10000 s = some (v, t)) (ht : skipB t = [])
    (hk : v.kind = 123) (ms : List (Bs × JV)) (hkeys : v.keys = ms.map Prod.fst) (hkids : v.kids = ms.map Prod.snd) (hms : ms.length ≤ 1000000) (hok : ∀ m ∈ ms, AuOk m) :
    Spec Proofs.Tryd.prog 25 [w, .iface 74 (.pointer (some ⟨x, 0, none⟩))] I [(x, blk a.cs 72)] fun y J M => y = .nilIface ∧ M = [(x, blk (a.takes ms).cs 72)] := by
  have hV : ∀ r, _ := fun r => reader_value 10000 s I s w db off c r 0 hU hR0 (Sfx.refl s) hs rfl
  have hBl : ∀ (J : Imm) (r : Nat), Le I J → _ := fun J r hle => blank_at t J s w db off c r 0 (hR0.mono hle) (rdV_fwd _ hv).1 (by omega)
  rw [hv] at hV
  obtain rfl := hR0.eq
  have h0 : posR s s = 0 := by unfold posR; omega
  have h1 : posR s (skipB t) = s.length := by rw [ht]; unfold posR; simp
  rw [h0] at hV
  rw [h1] at hBl
  refine Spec.enter 38 [(0, _), (1, _)] Proofs.Tryd.func25 rfl Proofs.Tryd.ntmps25 (by simp) rfl ?_
  intro C hCf hR hCI
  refine Run.seq ?_
  refine Run.regionO (D := [some 4]) [true] rfl rfl rfl (fun Z hZ => ?_)
  refine q1 dc rfl rfl ?_
  refine QD.nil (hZ _ ?_)
  clear hZ Z
  refine Run.seq ?_
  refine Run.regionP (D := [some 8, some 9, some 10, some 5]) [true] 1 rfl rfl rfl (by simp only [List.drop_succ_cons, List.drop_zero]; rfl) (fun Z hZ => ?_)
  refine q1 dc rfl rfl ?_
  refine QD.nil (hZ _ ?_)
  clear hZ Z
  refine Ops.buildL bd90 rfl dc rfl rfl ?_
  refine Ops.box rfl dc rfl rfl (fun r => ?_)
  refine Ops.pure T rfl dc rfl ?_
  refine Ops.nil ?_
  refine Run.seq ?_
  refine Run.regionP (D := [some 12, some 13, some 11, some 14, some 15, some 6, none, some 7]) [true] 1 rfl rfl rfl (by simp only [List.drop_succ_cons, List.drop_zero]; rfl) (fun Z hZ => ?_)
  refine q1 dc rfl rfl ?_
  refine QD.nil (hZ _ ?_)
  clear hZ Z
  refine Ops.callP (N := [(x, _)]) (hV r) (List.Perm.swap _ _ _) rfl dc Proofs.Tryd.call33 rfl ?_
  rintro y J1 M1 l1 ⟨cs, rfl, hrel, rfl⟩
  have hrel0 := hrel
  obtain ⟨wk, wn, rfl, hwk, hwn⟩ := hrel
  obtain ⟨A3, z3, rfl⟩ := hwk.isSl
  obtain ⟨A4, z4, rfl⟩ := hwn.isSl
  iterate 3 refine Ops.pure T rfl dc rfl ?_
  refine Ops.alloc rfl dc (T.zeroOk rfl) rfl (fun b6 => ?_)
  refine Ops.store 0 rfl rfl rfl rfl rfl (T.sizeOk rfl) rfl (Nat.le_of_ble_eq_true rfl) rfl rfl ?_
  refine Ops.pure T rfl dc rfl ?_
  refine Ops.nil ?_
  refine Run.seq ?_
  refine Run.regionP (D := [some 16, some 17]) [true] 1 rfl rfl rfl (by simp only [List.drop_succ_cons, List.drop_zero]; rfl) (fun Z hZ => ?_)
  refine q1 dc rfl rfl ?_
  refine QD.nil (hZ _ ?_)
  clear hZ Z
  refine Ops.callP (N := [_, _]) ((hBl J1 r l1)) (.refl _) rfl dc Proofs.Tryd.call34 rfl ?_
  rintro y J2 M2 l2 ⟨rfl, rfl⟩
  refine Ops.nil ?_
  repeat refine Run.seq ?_
  refine Run.regionQ (D := [some 18, some 19, some 20, some 21, some 22, some 23, some 24, some 25, some 26, some 27, some 28, some 29, some 30, some 31]) [true, true, true, true, true, true, true, true, true, true, true, true, true, true] (bl 14 16383) (by kernel_rfl) (by kernel_rfl) (by kernel_rfl) (by kernel_rfl) rfl (fun Z hZ => ?_)
  iterate 6 refine q1 dc rfl rfl ?_
  refine QD.yv dc rfl (Yv.load 2 T rfl rfl rfl rfl) ?_
  iterate 3 refine q1 dc rfl rfl ?_
  refine QD.yv dc rfl (Yv.load 2 T rfl rfl rfl rfl) ?_
  refine q1 dc rfl rfl ?_
  refine qf (Ev.lss rfl rfl) (Int.lt_irrefl _) dc rfl ?_
  refine q1 dc rfl rfl ?_
  refine QD.nil (hZ _ ?_)
  clear hZ Z
  repeat (first | refine Run.seq ?_ | refine Run.skip ?_ | refine Run.cond_f rfl ?_)
  refine Run.regionP (D := [some 33, some 34, some 35, some 36]) [true, true] 2 rfl rfl rfl (by simp only [List.drop_succ_cons, List.drop_zero]; rfl) (fun Z hZ => ?_)
  refine q1 dc rfl rfl ?_
  refine QD.yv dc rfl (Yv.loadN 0 T rfl rfl rfl rfl rfl rfl) ?_
  refine QD.nil (hZ _ ?_)
  clear hZ Z
  refine Ops.eff rfl (dOk dc) (Eff.invokeM (M := [(x, _)]) (N := [(b6, _), (r, _)]) (auth_take 10000 _ (hU.mono (by assumption)) _ v hrel0 x a hk ms hkeys hkids hms hok) (perm_of_count fun x => by simp only [List.count_append, List.count_cons, List.count_nil, Nat.add_zero, Nat.zero_add] <;> ac_rfl) Proofs.Tryd.call83 rfl (meth_auTake _) rfl fun y J3 M' l3 hw => ?_)
  obtain ⟨rfl, rfl⟩ := hw
  refine Ops.pure T rfl dc rfl ?_
  refine Ops.nil ?_
  repeat (first | refine Run.seq ?_ | refine Run.skip ?_ | refine Run.cond_f rfl ?_)
  refine Run.regionO (D := [some 4]) [true] rfl rfl rfl (fun Z hZ => ?_)
  refine q1 dc rfl rfl ?_
  refine QD.nil (hZ _ ?_)
  clear hZ Z
  skip
  refine Run.dropL (L' := [(x, _)]) (List.Sublist.cons_cons _ (List.nil_sublist _)) ?_
  refine Run.ret1 (by rw [hCf]; exact Proofs.Tryd.func25) Proofs.Tryd.results25 rfl (hR _ _ _ ?_)
  exact ⟨rfl, rfl⟩
end Go.V
